import JvmDerived
import JvmDerived.Pilot.@@N@@Statement
import JvmDerived.Pilot.@@N@@Code
set_option linter.unusedVariables false
set_option linter.unusedSimpArgs false
namespace Jvm.Own
open Jvm Sem ClassFile Op Lib Jvm.Stand Jvm.Free Jvm.LawKit Jvm.RoadKit Bundle
abbrev Cx : Type := Program × Env × State × MethodId × Array Value × List Frame × Method × Code
def Go (K : Cx) (P : Outcome → State → Prop) (T : State) (pc : Nat) (ls : Array Slot) (st : List Value) : Prop :=
  ∃ o U, Steps K.1.tables K.2.1 K.2.2.2.2.2.1 (T.setTop (mkF K.2.2.2.1 pc ls st)) U ∧ U.status = .running ∧ Ended U K.2.2.2.2.2.1 o ∧ P o U
def Wk (l : Launch) (Z : State) (EL : List (String × Nat)) (own nm : String) (cd : ByteArray) (ml : Nat) (ret : Option FieldType) (R : Room) (ws : List Addr) (h0 : Heap) (K : Cx) (sf : List Addr) (T : State) (h : Heap) (cells slots : Nat) : Prop :=
  ∃ (vm0 : Vm) (locs : List Loc) (k0 : Nat), Stand K.1 l K.2.1 R (K.2.2.1.setVm vm0) K.2.2.2.1 K.2.2.2.2.1 K.2.2.2.2.2.1 K.2.2.2.2.2.2.1 K.2.2.2.2.2.2.2 T locs cells slots ∧ T.heap = h ∧ K.1.tables.exec = Jvm.exec ∧
    (K.2.2.2.2.2.2.2.code = cd ∧ K.2.2.2.2.2.2.2.maxLocals = ml ∧ K.2.2.2.2.2.2.1.sig.returnType = ret ∧ K.2.2.2.2.2.2.1.locks = false ∧ K.2.2.2.2.2.2.1.name = nm) ∧ K.2.2.1.heap = h0 ∧
    Z.Warmed39 vm0 ∧ vm0.findClass own = some K.2.2.2.1.cls ∧ K.2.2.1.Since vm0 k0 ∧ k0 ≤ h.size ∧ (∀ x ∈ locs, x.base ∈ ws ∨ h0.size ≤ x.base) ∧ CHr Z EL K.2.2.1.vm h0 vm0 h ∧ Old Z Z.heap.size h ∧ (∃ a0, EW Z a0 EL) ∧
    (∀ x ∈ ws, Z.heap.size ≤ x) ∧ Z.heap.size ≤ h0.size ∧ ∀ x ∈ sf, Safe Z EL vm0 h x ∧ x < h.size ∧ (x ∈ ws ∨ h0.size ≤ x)
def Pst (Z : State) (EL : List (String × Nat)) (ws : List Addr) (s : State) (kc ks : Nat) (Q : Option Value → Heap → List Addr → Prop) (o : Outcome) (U : State) : Prop :=
  ∃ v L so, o = .returned v ∧ Q v U.heap so ∧ (∀ x ∈ so, Safe Z EL U.vm U.heap x ∧ s.heap.size ≤ x ∧ x < U.heap.size) ∧ (∀ x ∈ L, x.base ∈ ws ∨ s.heap.size ≤ x.base) ∧ CHr Z EL s.vm s.heap U.vm U.heap ∧ ReturnedEndW s o U L kc ks
def Ct (l : Launch) (Z : State) (EL : List (String × Nat)) (y : MethodName) (cd : ByteArray) (ml : Nat) (ret : Option FieldType) (rm : Room) (as' : Array Value) (h : Heap) (ws : List Addr) (Q : Option Value → Heap → List Addr → Prop) : Prop :=
  ∀ wl, MetFree l y (head1 (Cond.code y cd ml ret :: wl) rm) (fun a U => a = as' ∧ Z.Warmed39 U.vm ∧ U.heap = h ∧ CHv Z EL U.vm h ∧ ∀ x ∈ ws, Safe Z EL U.vm h x ∧ x < h.size) (fun _ _ _ _ _ => True) (fun _ U o U' => Pst Z EL ws U rm.cells rm.slots Q o U')
section Basics
variable {l : Launch} {Z : State} {EL : List (String × Nat)} {own nm : String} {cd : ByteArray} {ml : Nat} {ret : Option FieldType} {R : Room} {ws : List Addr} {h0 : Heap} {K : Cx} {sf : List Addr} {T : State} {h h' : Heap} {cells slots : Nat} {P : Outcome → State → Prop} {pc pc' : Nat} {ls : Array Slot} {st : List Value} {a0 : Array Value}
theorem Go.stp {T' : State} {pc' : Nat} {ls' : Array Slot} {st' : List Value} (f : ∀ t, Steps K.1.tables K.2.1 K.2.2.2.2.2.1 (T'.setTop (mkF K.2.2.2.1 pc' ls' st')) t → Steps K.1.tables K.2.1 K.2.2.2.2.2.1 (T.setTop (mkF K.2.2.2.1 pc ls st)) t) (k : Go K P T' pc' ls' st') : Go K P T pc ls st := by
  obtain ⟨o, U, r, q⟩ := k; exact ⟨o, U, f _ r, q⟩
theorem Go.top {v v' : Value} (e : v = v') (k : Go K P T pc ls (v' :: st)) : Go K P T pc ls (v :: st) := e ▸ k
theorem Wk.old (W : Wk l Z EL own nm cd ml ret R ws h0 K sf T h cells slots) : Old Z Z.heap.size h := by obtain ⟨_, _, _, _, _, _, _, _, _, _, _, _, _, _, q, _⟩ := W; exact q
theorem Wk.grow (W : Wk l Z EL own nm cd ml ret R ws h0 K sf T h cells slots) : h0.size ≤ h.size := by obtain ⟨_, _, _, _, _, _, _, _, _, _, _, _, _, q, _⟩ := W; exact q.2.1
theorem Wk.lt (W : Wk l Z EL own nm cd ml ret R ws h0 K sf T h cells slots) {x : Addr} (hx : x ∈ sf) : x < h.size := by obtain ⟨_, _, _, _, _, _, _, _, _, _, _, _, _, _, _, _, _, _, q⟩ := W; exact (q x hx).2.1
theorem Wk.mono (W : Wk l Z EL own nm cd ml ret R ws h0 K sf T h cells slots) {cells' slots' : Nat} (hc : cells ≤ cells') (hn : slots ≤ slots') : Wk l Z EL own nm cd ml ret R ws h0 K sf T h cells' slots' := by
  obtain ⟨vm0, locs, k0, X, r⟩ := W; exact ⟨vm0, locs, k0, X.mono hc hn, r⟩
theorem keep_of {s U : State} {L : List Loc} {k n : Nat} {ws : List Addr} (hs : s.sameButNew U L k n) (hL : ∀ x ∈ L, x.base ∈ ws ∨ s.heap.size ≤ x.base) : Keep s.heap U.heap ws := by
  obtain ⟨-, q2, -, -, -, q6⟩ := hs
  refine ⟨q2, fun x c hx hn => ?_, fun x c hx => ?_⟩
  · obtain ⟨c', r1, r2, r3, r4⟩ := q6 x c hx
    have hlt := (Array.getElem?_eq_some_iff.mp hx).1
    have e1 : c'.slots = c.slots := Array.ext_getElem? fun i => r4 i fun hm => by
      rcases hL _ hm with z | z
      · exact hn z
      · exact absurd hlt (Nat.not_lt.mpr z)
    have e2 : c' = c := by rw [r2, e1]
    rw [r1, e2]
  · obtain ⟨c', r1, r2, r3, -⟩ := q6 x c hx
    exact ⟨c', r1, by rw [r2], by rw [r2], r3⟩
theorem Ct.mk {y : MethodName} (own nm : String) (h1 : y.cls = own) (h2 : y.name = nm) {rm : Room} {as' : Array Value} {Q : Option Value → Heap → List Addr → Prop} (pn : plainFor y = true) (hO : Old Z Z.heap.size h) (hE : EW Z a0 EL) (hw : ∀ x ∈ ws, Z.heap.size ≤ x)
    (k : ∀ (K : Cx) (T : State), Wk l Z EL own nm cd ml ret rm ws h K ws T h 0 0 → Go K (Pst Z EL ws K.2.2.1 rm.cells rm.slots Q) T 0 (entryFrame K.2.2.2.1 as' ml).locals []) : Ct l Z EL y cd ml ret rm as' h ws Q := by
  subst h1 h2
  intro wl
  refine MetFree.of_bodySF pn hisR ?_
  intro p e s m args below meth c s₁ Bd hml hP hK
  obtain ⟨rfl, hZ, hh, hCH, hsf⟩ := hP
  have X0 := Stand.of_body Bd
  have hes : s₁.heap = h := by rw [← hh, Bd.state]; rfl
  have hvm : s₁.vm = s.vm := by rw [Bd.state]; rfl
  have hn := name_of_methodNamed Bd.named Bd.method
  obtain ⟨o, U, r1, r2, r3, r4⟩ := k (p, e, s, m, args, below, meth, c) s₁ ⟨s.vm, [], 0, X0, hes, Bd.exec, ⟨Bd.bytes, hml, Bd.returns, Bd.notSynchronized, hn.1⟩, hh, hZ, findClass_of_methodNamed Bd.named, (State.WarmedH.refl s).since 0, Nat.zero_le _, (fun x q => nomatch q), by rw [← hh] at hCH ⊢; exact CHr.refl hCH, hO, ⟨a0, hE⟩, hw, hO.1 ▸ hO.2.1, fun x q => ⟨(hsf x q).1, (hsf x q).2, Or.inl q⟩⟩
  refine ⟨U, o, ?_, r2, r3, r4⟩
  have ef : entryFrame m args ml = mkF m 0 (entryFrame m args ml).locals [] := rfl
  rw [ef]; exact r1
end Basics
section Pure
variable {l : Launch} {Z : State} {EL : List (String × Nat)} {own nm : String} {cd : ByteArray} {ml : Nat} {ret : Option FieldType} {R : Room} {ws : List Addr} {h0 : Heap} {K : Cx} {sf : List Addr} {T : State} {h h' : Heap} {cells slots : Nat} {P : Outcome → State → Prop} {pc pc' : Nat} {ls : Array Slot} {st : List Value} {a0 : Array Value}
theorem gAloadN (W : Wk l Z EL own nm cd ml ret R ws h0 K sf T h cells slots) {i : Fin 4} {v : Value} (hd : decode cd pc = .ok (.aload_n i, 1)) (hl : ls[i.val]? = some (.val v)) (hv : v.isRef = true) (hp : pc + 1 = pc') (k : Go K P T pc' ls (v :: st)) : Go K P T pc ls st := by
  obtain ⟨vm0, locs, k0, X, e, hx, ⟨hc, -⟩, -⟩ := W
  subst hp
  exact Go.stp (fun t r => XS.aloadN X.here hx rfl (hb hc hd) hl hv r) k
theorem gAload (W : Wk l Z EL own nm cd ml ret R ws h0 K sf T h cells slots) {i : Nat} {v : Value} (hd : decode cd pc = .ok (.aload i, 2)) (hl : ls[i]? = some (.val v)) (hv : v.isRef = true) (hp : pc + 2 = pc') (k : Go K P T pc' ls (v :: st)) : Go K P T pc ls st := by
  obtain ⟨vm0, locs, k0, X, e, hx, ⟨hc, -⟩, -⟩ := W
  subst hp
  exact Go.stp (fun t r => XS.aload X.here hx rfl (hb hc hd) hl hv r) k
theorem gIloadN (W : Wk l Z EL own nm cd ml ret R ws h0 K sf T h cells slots) {i : Fin 4} {v : Int32} (hd : decode cd pc = .ok (.iload_n i, 1)) (hl : ls[i.val]? = some (.val (.int v))) (hp : pc + 1 = pc') (k : Go K P T pc' ls (.int v :: st)) : Go K P T pc ls st := by
  obtain ⟨vm0, locs, k0, X, e, hx, ⟨hc, -⟩, -⟩ := W
  subst hp
  exact Go.stp (fun t r => XS.iloadN X.here hx rfl (hb hc hd) hl r) k
theorem gIload (W : Wk l Z EL own nm cd ml ret R ws h0 K sf T h cells slots) {i : Nat} {v : Int32} (hd : decode cd pc = .ok (.iload i, 2)) (hl : ls[i]? = some (.val (.int v))) (hp : pc + 2 = pc') (k : Go K P T pc' ls (.int v :: st)) : Go K P T pc ls st := by
  obtain ⟨vm0, locs, k0, X, e, hx, ⟨hc, -⟩, -⟩ := W
  subst hp
  exact Go.stp (fun t r => XS.iload X.here hx rfl (hb hc hd) hl r) k
theorem gIconst (W : Wk l Z EL own nm cd ml ret R ws h0 K sf T h cells slots) {i : Int} {z : Int32} (hd : decode cd pc = .ok (.iconst i, 1)) (hz : Int32.ofInt i = z) (hp : pc + 1 = pc') (k : Go K P T pc' ls (.int z :: st)) : Go K P T pc ls st := by
  obtain ⟨vm0, locs, k0, X, e, hx, ⟨hc, -⟩, -⟩ := W
  subst hp
  exact Go.stp (fun t r => XS.iconst X.here hx rfl (hb hc hd) <| hz ▸ r) k
theorem gBipush (W : Wk l Z EL own nm cd ml ret R ws h0 K sf T h cells slots) {i : Int} {z : Int32} (hd : decode cd pc = .ok (.bipush i, 2)) (hz : (Int8.ofInt i).toInt32 = z) (hp : pc + 2 = pc') (k : Go K P T pc' ls (.int z :: st)) : Go K P T pc ls st := by
  obtain ⟨vm0, locs, k0, X, e, hx, ⟨hc, -⟩, -⟩ := W
  subst hp
  exact Go.stp (fun t r => XS.bipush X.here hx rfl (hb hc hd) <| hz ▸ r) k
theorem gSipush (W : Wk l Z EL own nm cd ml ret R ws h0 K sf T h cells slots) {i : Int} {z : Int32} (hd : decode cd pc = .ok (.sipush i, 3)) (hz : (Int16.ofInt i).toInt32 = z) (hp : pc + 3 = pc') (k : Go K P T pc' ls (.int z :: st)) : Go K P T pc ls st := by
  obtain ⟨vm0, locs, k0, X, e, hx, ⟨hc, -⟩, -⟩ := W
  subst hp
  exact Go.stp (fun t r => XS.sipush X.here hx rfl (hb hc hd) <| hz ▸ r) k
theorem gAconstNull (W : Wk l Z EL own nm cd ml ret R ws h0 K sf T h cells slots)  (hd : decode cd pc = .ok (.aconst_null, 1))  (hp : pc + 1 = pc') (k : Go K P T pc' ls (.null :: st)) : Go K P T pc ls st := by
  obtain ⟨vm0, locs, k0, X, e, hx, ⟨hc, -⟩, -⟩ := W
  subst hp
  exact Go.stp (fun t r => XS.aconstNull X.here hx rfl (hb hc hd) r) k
theorem gIadd (W : Wk l Z EL own nm cd ml ret R ws h0 K sf T h cells slots) {x y z : Int32} (hd : decode cd pc = .ok (.iadd, 1)) (hz : x + y = z) (hp : pc + 1 = pc') (k : Go K P T pc' ls (.int z :: st)) : Go K P T pc ls (.int y :: .int x :: st) := by
  obtain ⟨vm0, locs, k0, X, e, hx, ⟨hc, -⟩, -⟩ := W
  subst hp
  exact Go.stp (fun t r => XS.iadd X.here hx rfl (hb hc hd) rfl <| hz ▸ r) k
theorem gIsub (W : Wk l Z EL own nm cd ml ret R ws h0 K sf T h cells slots) {x y z : Int32} (hd : decode cd pc = .ok (.isub, 1)) (hz : x - y = z) (hp : pc + 1 = pc') (k : Go K P T pc' ls (.int z :: st)) : Go K P T pc ls (.int y :: .int x :: st) := by
  obtain ⟨vm0, locs, k0, X, e, hx, ⟨hc, -⟩, -⟩ := W
  subst hp
  exact Go.stp (fun t r => XS.isub X.here hx rfl (hb hc hd) rfl <| hz ▸ r) k
theorem gImul (W : Wk l Z EL own nm cd ml ret R ws h0 K sf T h cells slots) {x y z : Int32} (hd : decode cd pc = .ok (.imul, 1)) (hz : x * y = z) (hp : pc + 1 = pc') (k : Go K P T pc' ls (.int z :: st)) : Go K P T pc ls (.int y :: .int x :: st) := by
  obtain ⟨vm0, locs, k0, X, e, hx, ⟨hc, -⟩, -⟩ := W
  subst hp
  exact Go.stp (fun t r => XS.imul X.here hx rfl (hb hc hd) rfl <| hz ▸ r) k
theorem gIand (W : Wk l Z EL own nm cd ml ret R ws h0 K sf T h cells slots) {x y z : Int32} (hd : decode cd pc = .ok (.iand, 1)) (hz : x &&& y = z) (hp : pc + 1 = pc') (k : Go K P T pc' ls (.int z :: st)) : Go K P T pc ls (.int y :: .int x :: st) := by
  obtain ⟨vm0, locs, k0, X, e, hx, ⟨hc, -⟩, -⟩ := W
  subst hp
  exact Go.stp (fun t r => XS.iand X.here hx rfl (hb hc hd) rfl <| hz ▸ r) k
theorem gIor (W : Wk l Z EL own nm cd ml ret R ws h0 K sf T h cells slots) {x y z : Int32} (hd : decode cd pc = .ok (.ior, 1)) (hz : x ||| y = z) (hp : pc + 1 = pc') (k : Go K P T pc' ls (.int z :: st)) : Go K P T pc ls (.int y :: .int x :: st) := by
  obtain ⟨vm0, locs, k0, X, e, hx, ⟨hc, -⟩, -⟩ := W
  subst hp
  exact Go.stp (fun t r => XS.ior X.here hx rfl (hb hc hd) rfl <| hz ▸ r) k
theorem gIshl (W : Wk l Z EL own nm cd ml ret R ws h0 K sf T h cells slots) {x y z : Int32} (hd : decode cd pc = .ok (.ishl, 1)) (hz : x <<< (y &&& 31) = z) (hp : pc + 1 = pc') (k : Go K P T pc' ls (.int z :: st)) : Go K P T pc ls (.int y :: .int x :: st) := by
  obtain ⟨vm0, locs, k0, X, e, hx, ⟨hc, -⟩, -⟩ := W
  subst hp
  exact Go.stp (fun t r => XS.ishl X.here hx rfl (hb hc hd) rfl <| hz ▸ r) k
theorem gIshr (W : Wk l Z EL own nm cd ml ret R ws h0 K sf T h cells slots) {x y z : Int32} (hd : decode cd pc = .ok (.ishr, 1)) (hz : x >>> (y &&& 31) = z) (hp : pc + 1 = pc') (k : Go K P T pc' ls (.int z :: st)) : Go K P T pc ls (.int y :: .int x :: st) := by
  obtain ⟨vm0, locs, k0, X, e, hx, ⟨hc, -⟩, -⟩ := W
  subst hp
  exact Go.stp (fun t r => XS.ishr X.here hx rfl (hb hc hd) rfl <| hz ▸ r) k
theorem gIushr (W : Wk l Z EL own nm cd ml ret R ws h0 K sf T h cells slots) {x y z : Int32} (hd : decode cd pc = .ok (.iushr, 1)) (hz : (x.toUInt32 >>> (y &&& 31).toUInt32).toInt32 = z) (hp : pc + 1 = pc') (k : Go K P T pc' ls (.int z :: st)) : Go K P T pc ls (.int y :: .int x :: st) := by
  obtain ⟨vm0, locs, k0, X, e, hx, ⟨hc, -⟩, -⟩ := W
  subst hp
  exact Go.stp (fun t r => XS.iushr X.here hx rfl (hb hc hd) rfl <| hz ▸ r) k
theorem gIdiv (W : Wk l Z EL own nm cd ml ret R ws h0 K sf T h cells slots) {x y z : Int32} (hd : decode cd pc = .ok (.idiv, 1)) (hy : y ≠ 0) (hz : x / y = z) (hp : pc + 1 = pc') (k : Go K P T pc' ls (.int z :: st)) : Go K P T pc ls (.int y :: .int x :: st) := by
  obtain ⟨vm0, locs, k0, X, e, hx, ⟨hc, -⟩, -⟩ := W
  subst hp
  exact Go.stp (fun t r => XS.idiv X.here hx rfl (hb hc hd) rfl hy <| hz ▸ r) k
theorem gIrem (W : Wk l Z EL own nm cd ml ret R ws h0 K sf T h cells slots) {x y z : Int32} (hd : decode cd pc = .ok (.irem, 1)) (hy : y ≠ 0) (hz : x % y = z) (hp : pc + 1 = pc') (k : Go K P T pc' ls (.int z :: st)) : Go K P T pc ls (.int y :: .int x :: st) := by
  obtain ⟨vm0, locs, k0, X, e, hx, ⟨hc, -⟩, -⟩ := W
  subst hp
  exact Go.stp (fun t r => iremM X hx rfl (hb hc hd) rfl hy <| hz ▸ r) k
theorem gI2B (W : Wk l Z EL own nm cd ml ret R ws h0 K sf T h cells slots) {x z : Int32} (hd : decode cd pc = .ok (.i2b, 1)) (hz : x.toInt8.toInt32 = z) (hp : pc + 1 = pc') (k : Go K P T pc' ls (.int z :: st)) : Go K P T pc ls (.int x :: st) := by
  obtain ⟨vm0, locs, k0, X, e, hx, ⟨hc, -⟩, -⟩ := W
  subst hp
  exact Go.stp (fun t r => XS.i2b X.here hx rfl (hb hc hd) rfl <| hz ▸ r) k
theorem gI2C (W : Wk l Z EL own nm cd ml ret R ws h0 K sf T h cells slots) {x z : Int32} (hd : decode cd pc = .ok (.i2c, 1)) (hz : x.toUInt32.toUInt16.toUInt32.toInt32 = z) (hp : pc + 1 = pc') (k : Go K P T pc' ls (.int z :: st)) : Go K P T pc ls (.int x :: st) := by
  obtain ⟨vm0, locs, k0, X, e, hx, ⟨hc, -⟩, -⟩ := W
  subst hp
  exact Go.stp (fun t r => XS.i2c X.here hx rfl (hb hc hd) rfl <| hz ▸ r) k
theorem gI2L (W : Wk l Z EL own nm cd ml ret R ws h0 K sf T h cells slots) {x : Int32} {z : Int64} (hd : decode cd pc = .ok (.i2l, 1)) (hz : x.toInt64 = z) (hp : pc + 1 = pc') (k : Go K P T pc' ls (.long z :: st)) : Go K P T pc ls (.int x :: st) := by
  obtain ⟨vm0, locs, k0, X, e, hx, ⟨hc, -⟩, -⟩ := W
  subst hp
  exact Go.stp (fun t r => XS.i2l X.here hx rfl (hb hc hd) rfl <| hz ▸ r) k
theorem gL2I (W : Wk l Z EL own nm cd ml ret R ws h0 K sf T h cells slots) {x : Int64} {z : Int32} (hd : decode cd pc = .ok (.l2i, 1)) (hz : x.toInt32 = z) (hp : pc + 1 = pc') (k : Go K P T pc' ls (.int z :: st)) : Go K P T pc ls (.long x :: st) := by
  obtain ⟨vm0, locs, k0, X, e, hx, ⟨hc, -⟩, -⟩ := W
  subst hp
  exact Go.stp (fun t r => XS.l2i X.here hx rfl (hb hc hd) rfl <| hz ▸ r) k
theorem gLadd (W : Wk l Z EL own nm cd ml ret R ws h0 K sf T h cells slots) {x y z : Int64} (hd : decode cd pc = .ok (.ladd, 1)) (hz : x + y = z) (hp : pc + 1 = pc') (k : Go K P T pc' ls (.long z :: st)) : Go K P T pc ls (.long y :: .long x :: st) := by
  obtain ⟨vm0, locs, k0, X, e, hx, ⟨hc, -⟩, -⟩ := W
  subst hp
  exact Go.stp (fun t r => XS.ladd X.here hx rfl (hb hc hd) rfl <| hz ▸ r) k
theorem gDup (W : Wk l Z EL own nm cd ml ret R ws h0 K sf T h cells slots) {x : Value} (hd : decode cd pc = .ok (.dup, 1)) (hc1 : x.category = 1) (hp : pc + 1 = pc') (k : Go K P T pc' ls (x :: x :: st)) : Go K P T pc ls (x :: st) := by
  obtain ⟨vm0, locs, k0, X, e, hx, ⟨hc, -⟩, -⟩ := W
  subst hp
  exact Go.stp (fun t r => XS.dup X.here hx rfl (hb hc hd) rfl hc1 r) k
theorem gPop (W : Wk l Z EL own nm cd ml ret R ws h0 K sf T h cells slots) {x : Value} (hd : decode cd pc = .ok (.pop, 1)) (hc1 : x.category = 1) (hp : pc + 1 = pc') (k : Go K P T pc' ls st) : Go K P T pc ls (x :: st) := by
  obtain ⟨vm0, locs, k0, X, e, hx, ⟨hc, -⟩, -⟩ := W
  subst hp
  exact Go.stp (fun t r => XS.pop X.here hx rfl (hb hc hd) rfl hc1 r) k
theorem gIstoreN (W : Wk l Z EL own nm cd ml ret R ws h0 K sf T h cells slots) {i : Fin 4} {x : Int32} {ls' : Array Slot} (hd : decode cd pc = .ok (.istore_n i, 1)) (hl : storeLocals ls i.val (.int x) = some ls') (hp : pc + 1 = pc') (k : Go K P T pc' ls' st) : Go K P T pc ls (.int x :: st) := by
  obtain ⟨vm0, locs, k0, X, e, hx, ⟨hc, -⟩, -⟩ := W
  subst hp
  exact Go.stp (fun t r => XS.istoreN X.here hx rfl (hb hc hd) rfl hl r) k
theorem gIstore (W : Wk l Z EL own nm cd ml ret R ws h0 K sf T h cells slots) {i : Nat} {x : Int32} {ls' : Array Slot} (hd : decode cd pc = .ok (.istore i, 2)) (hl : storeLocals ls i (.int x) = some ls') (hp : pc + 2 = pc') (k : Go K P T pc' ls' st) : Go K P T pc ls (.int x :: st) := by
  obtain ⟨vm0, locs, k0, X, e, hx, ⟨hc, -⟩, -⟩ := W
  subst hp
  exact Go.stp (fun t r => XS.istore X.here hx rfl (hb hc hd) rfl hl r) k
theorem gAstoreN (W : Wk l Z EL own nm cd ml ret R ws h0 K sf T h cells slots) {i : Fin 4} {x : Value} {ls' : Array Slot} (hd : decode cd pc = .ok (.astore_n i, 1)) (hv : x.isRef = true) (hl : storeLocals ls i.val x = some ls') (hp : pc + 1 = pc') (k : Go K P T pc' ls' st) : Go K P T pc ls (x :: st) := by
  obtain ⟨vm0, locs, k0, X, e, hx, ⟨hc, -⟩, -⟩ := W
  subst hp
  exact Go.stp (fun t r => XS.astoreN X.here hx rfl (hb hc hd) rfl hv hl r) k
theorem gAstore (W : Wk l Z EL own nm cd ml ret R ws h0 K sf T h cells slots) {i : Nat} {x : Value} {ls' : Array Slot} (hd : decode cd pc = .ok (.astore i, 2)) (hv : x.isRef = true) (hl : storeLocals ls i x = some ls') (hp : pc + 2 = pc') (k : Go K P T pc' ls' st) : Go K P T pc ls (x :: st) := by
  obtain ⟨vm0, locs, k0, X, e, hx, ⟨hc, -⟩, -⟩ := W
  subst hp
  exact Go.stp (fun t r => XS.astore X.here hx rfl (hb hc hd) rfl hv hl r) k
theorem gIinc (W : Wk l Z EL own nm cd ml ret R ws h0 K sf T h cells slots) {i : Nat} {c0 : Int} {x z : Int32} {ls' : Array Slot} (hd : decode cd pc = .ok (.iinc i c0, 3)) (hl : ls[i]? = some (.val (.int x))) (hz : x + Int32.ofInt c0 = z) (hl2 : storeLocals ls i (.int z) = some ls') (hp : pc + 3 = pc') (k : Go K P T pc' ls' st) : Go K P T pc ls st := by
  obtain ⟨vm0, locs, k0, X, e, hx, ⟨hc, -⟩, -⟩ := W
  subst hp
  exact Go.stp (fun t r => XS.iinc X.here hx rfl (hb hc hd) hl (hz ▸ hl2) r) k
theorem gGoto (W : Wk l Z EL own nm cd ml ret R ws h0 K sf T h cells slots) {o : Int} (hd : decode cd pc = .ok (.goto o, 3)) (ho : 0 ≤ (pc : Int) + o) (hp : ((pc : Int) + o).toNat = pc') (k : Go K P T pc' ls st) : Go K P T pc ls st := by
  obtain ⟨vm0, locs, k0, X, e, hx, ⟨hc, -⟩, -⟩ := W
  exact Go.stp (fun t r => XS.goto X.here hx rfl (pc0 := pc) rfl (hb hc hd) ho hp r) k
theorem gIfYes (W : Wk l Z EL own nm cd ml ret R ws h0 K sf T h cells slots) {cn : ClassFile.Cond} {o : Int} {x : Int32} (hd : decode cd pc = .ok (.ifCond cn o, 3)) (hq : ifCond.holds cn x = true) (ho : 0 ≤ (pc : Int) + o) (hp : ((pc : Int) + o).toNat = pc') (k : Go K P T pc' ls st) : Go K P T pc ls (.int x :: st) := by
  obtain ⟨vm0, locs, k0, X, e, hx, ⟨hc, -⟩, -⟩ := W
  exact Go.stp (fun t r => XS.ifYes X.here hx rfl (pc0 := pc) rfl (hb hc hd) rfl hq ho hp r) k
theorem gIfNo (W : Wk l Z EL own nm cd ml ret R ws h0 K sf T h cells slots) {cn : ClassFile.Cond} {o : Int} {x : Int32} (hd : decode cd pc = .ok (.ifCond cn o, 3)) (hq : ifCond.holds cn x = false) (hp : pc + 3 = pc') (k : Go K P T pc' ls st) : Go K P T pc ls (.int x :: st) := by
  obtain ⟨vm0, locs, k0, X, e, hx, ⟨hc, -⟩, -⟩ := W
  subst hp
  exact Go.stp (fun t r => XS.ifNo X.here hx rfl (hb hc hd) rfl hq r) k
theorem gIcmpYes (W : Wk l Z EL own nm cd ml ret R ws h0 K sf T h cells slots) {cn : ClassFile.Cond} {o : Int} {x y : Int32} (hd : decode cd pc = .ok (.if_icmp cn o, 3)) (hq : if_icmp.holds cn x y = true) (ho : 0 ≤ (pc : Int) + o) (hp : ((pc : Int) + o).toNat = pc') (k : Go K P T pc' ls st) : Go K P T pc ls (.int y :: .int x :: st) := by
  obtain ⟨vm0, locs, k0, X, e, hx, ⟨hc, -⟩, -⟩ := W
  exact Go.stp (fun t r => XS.icmpYes X.here hx rfl (pc0 := pc) rfl (hb hc hd) rfl hq ho hp r) k
theorem gIcmpNo (W : Wk l Z EL own nm cd ml ret R ws h0 K sf T h cells slots) {cn : ClassFile.Cond} {o : Int} {x y : Int32} (hd : decode cd pc = .ok (.if_icmp cn o, 3)) (hq : if_icmp.holds cn x y = false) (hp : pc + 3 = pc') (k : Go K P T pc' ls st) : Go K P T pc ls (.int y :: .int x :: st) := by
  obtain ⟨vm0, locs, k0, X, e, hx, ⟨hc, -⟩, -⟩ := W
  subst hp
  exact Go.stp (fun t r => XS.icmpNo X.here hx rfl (hb hc hd) rfl hq r) k
theorem gIfnonnullYes (W : Wk l Z EL own nm cd ml ret R ws h0 K sf T h cells slots) {o : Int} {b : Addr} (hd : decode cd pc = .ok (.ifnonnull o, 3)) (ho : 0 ≤ (pc : Int) + o) (hp : ((pc : Int) + o).toNat = pc') (k : Go K P T pc' ls st) : Go K P T pc ls (.ref b :: st) := by
  obtain ⟨vm0, locs, k0, X, e, hx, ⟨hc, -⟩, -⟩ := W
  exact Go.stp (fun t r => XS.ifnonnullYes X.here hx rfl (pc0 := pc) rfl (hb hc hd) rfl ho hp r) k
theorem gAcmp (W : Wk l Z EL own nm cd ml ret R ws h0 K sf T h cells slots) {cn : ACond} {o : Int} {x y : Value} {same : Bool} (hd : decode cd pc = .ok (.if_acmp cn o, 3)) (h1 : x.isRef = true) (h2 : y.isRef = true) (hq : decide (x = y) = same) (ho : 0 ≤ (pc : Int) + o) (hp : pc' = if acV cn same = true then ((pc : Int) + o).toNat else pc + 3) (k : Go K P T pc' ls st) : Go K P T pc ls (y :: x :: st) := by
  obtain ⟨vm0, locs, k0, X, e, hx, ⟨hc, -⟩, -⟩ := W
  exact Go.stp (fun t r => acmp X hx rfl h1 h2 (pc0 := pc) rfl (hb hc hd) rfl hq ho hp r) k
end Pure
section Laws
variable {l : Launch} {Z : State} {EL : List (String × Nat)} {own nm : String} {cd : ByteArray} {ml : Nat} {ret : Option FieldType} {R : Room} {ws : List Addr} {h0 : Heap} {K : Cx} {sf : List Addr} {T : State} {h h' : Heap} {cells slots : Nat} {P : Outcome → State → Prop} {pc pc' : Nat} {ls : Array Slot} {st : List Value} {a0 : Array Value}
theorem wGetF (W : Wk l Z EL own nm cd ml ret R ws h0 K sf T h cells slots) {R0 O n d : String} {index : Nat} (hd : decode cd pc = .ok (.getfield index, 3)) (w : (Cond.fieldLink own index R0 n d).before a0 Z = true) (via : Via Z R0 O n d) {a : Addr} {v : Value} (F : Fld Z h a O n d v) (hp : pc + 3 = pc')
    (k : ∀ T', Wk l Z EL own nm cd ml ret R ws h0 K sf T' h cells slots → Go K P T' pc' ls (v :: st)) : Go K P T pc ls (.ref a :: st) := by
  obtain ⟨vm0, locs, k0, X, e, hx, hc, e0, hZ, hown, r⟩ := W
  subst hp
  obtain ⟨T', X', e', f⟩ := getF X hx hZ hown (host := "") (Or.inl w) via e F (g := mkF K.2.2.2.1 pc ls (.ref a :: st)) rfl rfl (hb hc.1 hd)
  exact Go.stp f (k T' ⟨vm0, locs, k0, X', e', hx, hc, e0, hZ, hown, r⟩)
theorem wGetS (W : Wk l Z EL own nm cd ml ret R ws h0 K sf T h cells slots) {R0 O n d : String} {index : Nat} (hd : decode cd pc = .ok (.getstatic index, 3)) (w : (Cond.fieldLink own index R0 n d).before a0 Z = true) (via : Via Z R0 O n d) {v : Value} (F : Sta Z Z.heap O n d v) (hp : pc + 3 = pc')
    (k : ∀ T', Wk l Z EL own nm cd ml ret R ws h0 K sf T' h cells slots → Go K P T' pc' ls (v :: st)) : Go K P T pc ls st := by
  have hO := W.old
  obtain ⟨vm0, locs, k0, X, e, hx, hc, e0, hZ, hown, r⟩ := W
  subst hp
  obtain ⟨T', X', e', f⟩ := getS X hx hZ hown w via (host := "") e (Sta.ext hO.2 F) (g := mkF K.2.2.2.1 pc ls st) rfl (hb hc.1 hd)
  exact Go.stp f (k T' ⟨vm0, locs, k0, X', e', hx, hc, e0, hZ, hown, r⟩)
theorem wCast (W : Wk l Z EL own nm cd ml ret R ws h0 K sf T h cells slots) {C : String} {index : Nat} (hd : decode cd pc = .ok (.checkcast index, 3)) (w : (Cond.classLink own index C).before a0 Z = true) {a : Addr} (F : Ins Z h a C true) (hp : pc + 3 = pc')
    (k : ∀ T', Wk l Z EL own nm cd ml ret R ws h0 K sf T' h cells slots → Go K P T' pc' ls (.ref a :: st)) : Go K P T pc ls (.ref a :: st) := by
  obtain ⟨vm0, locs, k0, X, e, hx, hc, e0, hZ, hown, r⟩ := W
  subst hp
  obtain ⟨T', X', e', f⟩ := castY X hx hZ hown w e F (g := mkF K.2.2.2.1 pc ls (.ref a :: st)) rfl rfl (hb hc.1 hd)
  exact Go.stp f (k T' ⟨vm0, locs, k0, X', e', hx, hc, e0, hZ, hown, r⟩)
theorem wExt {vm0 : Vm} {s : State} (hC : CHr Z EL s.vm h0 vm0 h) (hs : ∀ x ∈ sf, Safe Z EL vm0 h x ∧ x < h.size ∧ (x ∈ ws ∨ h0.size ≤ x)) (E : Ext h h') :
    CHr Z EL s.vm h0 vm0 h' ∧ ∀ x ∈ sf, Safe Z EL vm0 h' x ∧ x < h'.size ∧ (x ∈ ws ∨ h0.size ≤ x) :=
  ⟨hC.trans (CHr.ext E hC.1), fun x q => ⟨Safe.ext E hC.1 (hs x q).1, Nat.lt_of_lt_of_le (hs x q).2.1 E.1, (hs x q).2.2⟩⟩
theorem wNewO (W : Wk l Z EL own nm cd ml ret R ws h0 K sf T h cells slots) {C : String} {index n : Nat} (hd : decode cd pc = .ok (.new index, 3)) (w : (Cond.classLink own index C).before a0 Z = true) (wi : (Cond.instantiable C n).before a0 Z = true) (wz : (Cond.initialized C).before a0 Z = true) (hc' : cells + 1 ≤ R.cells) (hl : slots + n ≤ R.slots) (hp : pc + 3 = pc')
    (k : ∀ T' h' a, Wk l Z EL own nm cd ml ret R ws h0 K (a :: sf) T' h' (cells + 1) (slots + n) → Ext h h' → a = h.size → Exa Z h' a C → (∀ {O nm d : String} {ty : FieldType}, Laid Z a0 C O nm d → parseFieldDescriptor d = some ty → Fld Z h' a O nm d (defaultValue ty)) → Go K P T' pc' ls (.ref a :: st)) : Go K P T pc ls st := by
  have hg := W.grow
  obtain ⟨vm0, locs, k0, X, e, hx, hc, e0, hZ, hown, hS, hk, hL, hC, hO, hE, hw, hz, hs⟩ := W
  subst hp
  obtain ⟨T', h', X', e', E, A, D, -, f⟩ := newO X hx hZ hown w wi wz e (g := mkF K.2.2.2.1 pc ls st) rfl (hb hc.1 hd) hc' hl
  obtain ⟨hC', hs'⟩ := wExt (s := K.2.2.1) hC hs E
  refine Go.stp f (k T' h' h.size ⟨vm0, locs, k0, X', e', hx, hc, e0, hZ, hown, hS, Nat.le_trans hk E.1, hL, hC', hO.ext E, hE, hw, hz, fun x q => ?_⟩ E rfl A D)
  rcases List.mem_cons.mp q with rfl | q
  · exact ⟨Safe.ext E hC.1 (Safe.new (Nat.le_refl _)), A.lt, Or.inr hg⟩
  · exact hs' x q
theorem wNewP (W : Wk l Z EL own nm cd ml ret R ws h0 K sf T h cells slots) {aty : ArrayType} (hd : decode cd pc = .ok (.newarray aty, 2)) (w : (Cond.arrayClass (newarray.typeOf aty)).before a0 Z = true) {n : Int32} (hn : ¬ n < 0) {cap : Nat} (hcap : n.toNatClampNeg ≤ cap) (hbig : cap * 8 ≤ 536870912) (hc' : cells + 1 ≤ R.cells) (hl : slots + cap ≤ R.slots) (hp : pc + 2 = pc')
    (k : ∀ T' h' a cA, Wk l Z EL own nm cd ml ret R ws h0 K (a :: sf) T' h' (cells + 1) (slots + cap) → Ext h h' → a = h.size → (∀ m : Nat, Arv Z h' a cA (newarray.typeOf aty) n (List.replicate m (defaultValue (newarray.typeOf aty))) (defaultValue (newarray.typeOf aty))) → Go K P T' pc' ls (.ref a :: st)) : Go K P T pc ls (.int n :: st) := by
  have hg := W.grow
  obtain ⟨vm0, locs, k0, X, e, hx, hc, e0, hZ, hown, hS, hk, hL, hC, hO, hE, hw, hz, hs⟩ := W
  subst hp
  obtain ⟨T', h', cA, X', e', E, A, f⟩ := newP X hx hZ w e (g := mkF K.2.2.2.1 pc ls (.int n :: st)) rfl (hb hc.1 hd) rfl hn hcap hbig hc' hl
  obtain ⟨hC', hs'⟩ := wExt (s := K.2.2.1) hC hs E
  have F := Arv.new A hn
  refine Go.stp f (k T' h' h.size cA ⟨vm0, locs, k0, X', e', hx, hc, e0, hZ, hown, hS, Nat.le_trans hk E.1, hL, hC', hO.ext E, hE, hw, hz, fun x q => ?_⟩ E rfl (fun m => F.pad (pad_rep [] _ m)))
  rcases List.mem_cons.mp q with rfl | q
  · exact ⟨Safe.ext E hC.1 (Safe.new (Nat.le_refl _)), A.lt, Or.inr hg⟩
  · exact hs' x q
theorem wWr {vm0 : Vm} {s : State} {a : Addr} {sl : Nat} {v : Value} {locs : List Loc} (hC : CHr Z EL s.vm h0 vm0 h) (hs : ∀ x ∈ sf, Safe Z EL vm0 h x ∧ x < h.size ∧ (x ∈ ws ∨ h0.size ≤ x)) (hL : ∀ x ∈ locs, x.base ∈ ws ∨ h0.size ≤ x.base) (hO : Old Z Z.heap.size h) (hw : ∀ x ∈ ws, Z.heap.size ≤ x) (hz : Z.heap.size ≤ h0.size) (ha : a ∈ sf) (Wr' : Wr h h' a sl v) :
    CHr Z EL s.vm h0 vm0 h' ∧ (∀ x ∈ sf, Safe Z EL vm0 h' x ∧ x < h'.size ∧ (x ∈ ws ∨ h0.size ≤ x)) ∧ (∀ x ∈ locs ++ [⟨a, sl⟩], x.base ∈ ws ∨ h0.size ≤ x.base) ∧ Old Z Z.heap.size h' := by
  obtain ⟨s1, s2, s3⟩ := hs a ha
  refine ⟨hC.trans (CHr.wr Wr' s1 hC.1), fun x q => ⟨Safe.wr Wr' s1 hC.1 (hs x q).1, by rw [Wr'.size]; exact (hs x q).2.1, (hs x q).2.2⟩, fun x q => ?_, hO.wr Wr' ?_⟩
  · rcases List.mem_append.mp q with q | q
    · exact hL x q
    · cases List.mem_singleton.mp q; exact s3
  · rcases s3 with z | z
    · exact hw a z
    · exact Nat.le_trans hz z
theorem wPutF (W : Wk l Z EL own nm cd ml ret R ws h0 K sf T h cells slots) {R0 O n d C : String} {index kk : Nat} {ty : FieldType} (hd : decode cd pc = .ok (.putfield index, 3)) (w : (Cond.fieldLink own index R0 n d).before a0 Z = true) (via : Via Z R0 O n d) {a : Addr} {v old : Value} (ha : a ∈ sf) (F : Fld Z h a O n d old) (E : Exa Z h a C)
    (L : (Cond.lays C O n d).before a0 Z = true ∨ ((Cond.laysFinal C O n d).before a0 Z = true ∧ own = O ∧ nm = "<init>")) (wi : (Cond.instantiable C kk).before a0 Z = true) (hty : parseFieldDescriptor d = some ty) (hn : narrow ty v = v) (hf : fits ty v = true) (hp : pc + 3 = pc')
    (k : ∀ T' h', Wk l Z EL own nm cd ml ret R ws h0 K sf T' h' cells slots → Wr h h' a (Jvm.RoadKit.slotOf Z O n d) v → Go K P T' pc' ls st) : Go K P T pc ls (v :: .ref a :: st) := by
  obtain ⟨vm0, locs, k0, X, e, hx, hc, e0, hZ, hown, hS, hk, hL, hC, hO, hE, hw, hz, hs⟩ := W
  subst hp
  obtain ⟨T', h', X', e', Wr', f⟩ := putF X hx hZ hown (host := "") (Or.inl w) via e F E (L.imp id fun q => ⟨q.1, q.2.1, hc.2.2.2.2.trans q.2.2⟩) wi hty hn hf (g := mkF K.2.2.2.1 pc ls (v :: .ref a :: st)) rfl rfl (hb hc.1 hd)
  obtain ⟨hC', hs', hL', hO'⟩ := wWr (s := K.2.2.1) hC hs hL hO hw hz ha Wr'
  exact Go.stp f (k T' h' ⟨vm0, _, k0, X', e', hx, hc, e0, hZ, hown, hS, by rw [Wr'.size]; exact hk, hL', hC', hO', hE, hw, hz, hs'⟩ Wr')
theorem wStC (W : Wk l Z EL own nm cd ml ret R ws h0 K sf T h cells slots) (hd : decode cd pc = .ok (.castore, 1)) {a : Addr} (ha : a ∈ sf) {kA : ClassId} {z j x y : Int32} {vs : List Value} {dv : Value} (A : Arv Z h a kA .char z vs dv) (hj : ¬ j < 0 ∧ j < z) (hy : nar .char x = y) (i : Nat) (hi : j.toNatClampNeg = i) (hil : i < vs.length) (hp : pc + 1 = pc')
    (k : ∀ T' h', Wk l Z EL own nm cd ml ret R ws h0 K sf T' h' cells slots → Wr h h' a j.toNatClampNeg (.int y) → Arv Z h' a kA .char z (vs.set i (.int y)) dv → Go K P T' pc' ls st) : Go K P T pc ls (.int x :: .int j :: .ref a :: st) := by
  obtain ⟨vm0, locs, k0, X, e, hx, hc, e0, hZ, hown, hS, hk, hL, hC, hO, hE, hw, hz, hs⟩ := W
  subst hp hy
  obtain ⟨cl, A1, A2, A3, A4, A5, A6⟩ := A
  obtain ⟨T', h', X', e', Wr', f⟩ := stC X hx hZ e A1 (inb_of A3 hj) (g := mkF K.2.2.2.1 pc ls (.int x :: .int j :: .ref a :: st)) rfl rfl (hb hc.1 hd)
  obtain ⟨hC', hs', hL', hO'⟩ := wWr (s := K.2.2.1) hC hs hL hO hw hz ha Wr'
  exact Go.stp f (k T' h' ⟨vm0, _, k0, X', e', hx, hc, e0, hZ, hown, hS, by rw [Wr'.size]; exact hk, hL', hC', hO', hE, hw, hz, hs'⟩ Wr' (Arv.set A1 A2 A3 A4 A5 A6 (fits_nar_char x) Wr' i hi hil))
theorem wStB (W : Wk l Z EL own nm cd ml ret R ws h0 K sf T h cells slots) (hd : decode cd pc = .ok (.bastore, 1)) {a : Addr} (ha : a ∈ sf) {kA : ClassId} {z j x y : Int32} {vs : List Value} {dv : Value} (A : Arv Z h a kA .byte z vs dv) (hj : ¬ j < 0 ∧ j < z) (hy : x.toInt8.toInt32 = y) (i : Nat) (hi : j.toNatClampNeg = i) (hil : i < vs.length) (hp : pc + 1 = pc')
    (k : ∀ T' h', Wk l Z EL own nm cd ml ret R ws h0 K sf T' h' cells slots → Wr h h' a j.toNatClampNeg (.int y) → Arv Z h' a kA .byte z (vs.set i (.int y)) dv → Go K P T' pc' ls st) : Go K P T pc ls (.int x :: .int j :: .ref a :: st) := by
  obtain ⟨vm0, locs, k0, X, e, hx, hc, e0, hZ, hown, hS, hk, hL, hC, hO, hE, hw, hz, hs⟩ := W
  subst hp hy
  obtain ⟨cl, A1, A2, A3, A4, A5, A6⟩ := A
  obtain ⟨T', h', X', e', Wr', f⟩ := stB X hx hZ e A1 (inb_of A3 hj) (g := mkF K.2.2.2.1 pc ls (.int x :: .int j :: .ref a :: st)) rfl rfl (hb hc.1 hd)
  obtain ⟨hC', hs', hL', hO'⟩ := wWr (s := K.2.2.1) hC hs hL hO hw hz ha Wr'
  exact Go.stp f (k T' h' ⟨vm0, _, k0, X', e', hx, hc, e0, hZ, hown, hS, by rw [Wr'.size]; exact hk, hL', hC', hO', hE, hw, hz, hs'⟩ Wr' (Arv.set A1 A2 A3 A4 A5 A6 (fits_nar_byte x) Wr' i hi hil))
theorem wLen (W : Wk l Z EL own nm cd ml ret R ws h0 K sf T h cells slots) (hd : decode cd pc = .ok (.arraylength, 1)) {a : Addr} {kA : ClassId} {ty : FieldType} {z : Int32} {vs : List Value} {dv : Value} (A : Arv Z h a kA ty z vs dv) (hp : pc + 1 = pc')
    (k : Go K P T pc' ls (.int z :: st)) : Go K P T pc ls (.ref a :: st) := by
  obtain ⟨vm0, locs, k0, X, e, hx, hc, e0, hZ, r⟩ := W
  subst hp
  obtain ⟨cl, A1, A2, A3, A4, -⟩ := A
  refine Go.stp (fun t q => ?_) k
  have ez : cl.slots.size.toInt32 = z := len_of A3 A4
  exact X.arraylength hx (by rw [e]; exact A1.1) (State.isArrayOf_alike hZ.alike A1.2.1) (g := mkF K.2.2.2.1 pc ls (.ref a :: st)) rfl rfl (hb hc.1 hd) _ (by rw [ez]; exact q)
theorem wLdC (W : Wk l Z EL own nm cd ml ret R ws h0 K sf T h cells slots) (hd : decode cd pc = .ok (.caload, 1)) {a : Addr} {kA : ClassId} {z j : Int32} {vs : List Value} {v dv : Value} (A : Arv Z h a kA .char z vs dv) (hj : ¬ j < 0 ∧ j < z) (hv : vs.getD j.toNatClampNeg dv = v) (hp : pc + 1 = pc')
    (k : Go K P T pc' ls (v :: st)) : Go K P T pc ls (.int j :: .ref a :: st) := by
  obtain ⟨vm0, locs, k0, X, e, hx, hc, e0, hZ, r⟩ := W
  subst hp
  obtain ⟨cl, A1, A2, A3, A4, A5, -⟩ := A
  exact Go.stp (fun t q => X.caload hx (by rw [e]; exact A1.1) (State.isArrayOf_alike hZ.alike A1.2.1) A1.2.2 (inb_of A3 hj) (A5.at (inb_of A3 hj) hv) (g := mkF K.2.2.2.1 pc ls (.int j :: .ref a :: st)) rfl rfl (hb hc.1 hd) _ q) k
theorem wLdB (W : Wk l Z EL own nm cd ml ret R ws h0 K sf T h cells slots) (hd : decode cd pc = .ok (.baload, 1)) {a : Addr} {kA : ClassId} {z j : Int32} {vs : List Value} {v dv : Value} (A : Arv Z h a kA .byte z vs dv) (hj : ¬ j < 0 ∧ j < z) (hv : vs.getD j.toNatClampNeg dv = v) (hp : pc + 1 = pc')
    (k : Go K P T pc' ls (v :: st)) : Go K P T pc ls (.int j :: .ref a :: st) := by
  obtain ⟨vm0, locs, k0, X, e, hx, hc, e0, hZ, r⟩ := W
  subst hp
  obtain ⟨cl, A1, A2, A3, A4, A5, -⟩ := A
  exact Go.stp (fun t q => X.baloadBytes hx (by rw [e]; exact A1.1) (State.isArrayOf_alike hZ.alike A1.2.1) A1.2.2 (inb_of A3 hj) (A5.at (inb_of A3 hj) hv) (g := mkF K.2.2.2.1 pc ls (.int j :: .ref a :: st)) rfl rfl (hb hc.1 hd) _ q) k
theorem wInitO (W : Wk l Z EL own nm cd ml ret R ws h0 K sf T h cells slots) {index : Nat} (hd : decode cd pc = .ok (.invokespecial index, 3)) (w1 : (Cond.methodLink own index Lib.objectInit).before a0 Z = true) (w2 : (Cond.instanceMethod Lib.objectInit).before a0 Z = true) (w3 : (Cond.code Lib.objectInit ⟨#[0xb1]⟩ 1 none).before a0 Z = true) {a : Addr} (hsz : ls.size = ml) (hf : 1 ≤ R.frames) (Wd : Nat) (hW : (st.map fun v => v.category).sum ≤ Wd) (hl : Wd + 12 ≤ R.locals) (hp : pc + 3 = pc')
    (k : ∀ T', Wk l Z EL own nm cd ml ret R ws h0 K sf T' h cells slots → Go K P T' pc' ls st) : Go K P T pc ls (.ref a :: st) := by
  obtain ⟨vm0, locs, k0, X, e, hx, hc, e0, hZ, hown, r⟩ := W
  subst hp
  obtain ⟨T', X', e', f⟩ := initO X hx hZ hown w1 w2 w3 e (g := mkF K.2.2.2.1 pc ls (.ref a :: st)) rfl (hsz.trans hc.2.1.symm) rfl (hb hc.1 hd) hf (W := Wd) (by show 2 * 0 + _ ≤ _; omega) hl
  exact Go.stp f (k T' ⟨vm0, locs, k0, X', e', hx, hc, e0, hZ, hown, r⟩)
theorem wLdcS (W : Wk l Z EL own nm cd ml ret R ws h0 K sf T h cells slots) {text : String} {index : Nat} (hd : decode cd pc = .ok (.ldc index, 2)) (w : (Cond.stringLink own index text).before a0 Z = true) (wS : ∀ a ∈ Bundle.stringAtoms, a.before a0 Z = true) (hEL : EW Z a0 EL) (hmem : (own, index) ∈ EL)
    {vs : List Value} {z : Int32} (ht : (∀ c ∈ text.toList, c.toNat < 256) ∧ text.toList.map (fun c => Value.int (Jvm.Lit.byteI c.toNat.toUInt16)) = vs) (hz' : ¬ z < 0) (hl : z.toNatClampNeg = vs.length) {n : Nat} (hn : 4 * text.toList.length ≤ n) (hbig : n ≤ 536870912) (hc' : cells + 2 ≤ R.cells) (hl' : slots + (n + 4) ≤ R.slots) (hp : pc + 2 = pc')
    (k : ∀ T' h' a b kb, Wk l Z EL own nm cd ml ret R ws h0 K sf T' h' (cells + 2) (slots + (n + 4)) → Ext h h' → Exa Z h' a "java/lang/String" → Fld Z h' a "java/lang/String" "coder" "B" (.int 0) → Fld Z h' a "java/lang/String" "value" "[B" (.ref b) → Arv Z h' b kb .byte z vs (.int 0) → (∀ x ∈ sf, x ≠ a ∧ x ≠ b) → Go K P T' pc' ls (.ref a :: st)) : Go K P T pc ls st := by
  obtain ⟨vm0, locs, k0, X, e, hx, hc, e0, hZ, hown, hS, hk, hL, hC, hO, hE, hw, hz, hs⟩ := W
  subst hp
  obtain ⟨a, T', h', k1, b, kb, X', e', E, hS', hk', hW', hown', A, F1, F2, A2, -, -, hC', -, hne, f⟩ := ldcCH X hx hZ hown w wS e hS hk hEL hmem hC.1 ht hz' hl (g := mkF K.2.2.2.1 pc ls st) rfl (hb hc.1 hd) hn hbig hc' hl'
  have hs' : ∀ x ∈ sf, Safe Z EL T'.vm h' x ∧ x < h'.size ∧ (x ∈ ws ∨ h0.size ≤ x) := fun x q => ⟨hC'.safe (hs x q).2.1 (hs x q).1, Nat.lt_of_lt_of_le (hs x q).2.1 E.1, (hs x q).2.2⟩
  exact Go.stp f (k T' h' a b kb ⟨T'.vm, locs, k1, X', e', hx, hc, e0, hW', hown', hS', hk', hL, hC.trans hC', hO.ext E, hE, hw, hz, hs'⟩ E A F1 F2 A2 fun x q => hne x (hs' x q).1)
theorem wLdcI (W : Wk l Z EL own nm cd ml ret R ws h0 K sf T h cells slots) {index : Nat} {v : Int32} (hd : decode cd pc = .ok (.ldc index, 2)) (w : (Cond.constant own index v).before a0 Z = true) (hp : pc + 2 = pc') (k : Go K P T pc' ls (.int v :: st)) : Go K P T pc ls st := by
  obtain ⟨vm0, locs, k0, X, e, hx, hc, e0, hZ, hown, r⟩ := W
  subst hp
  exact Go.stp (fun t q => X.ldcInt hx hown (mv (s := K.2.2.1.setVm vm0) hZ w) (g := mkF K.2.2.2.1 pc ls st) rfl (hb hc.1 hd) _ q) k
theorem wLdcL (W : Wk l Z EL own nm cd ml ret R ws h0 K sf T h cells slots) {index : Nat} {v : Int64} (hd : decode cd pc = .ok (.ldc2_w index, 3)) (w : (Cond.constantLong own index v).before a0 Z = true) (hp : pc + 3 = pc') (k : Go K P T pc' ls (.long v :: st)) : Go K P T pc ls st := by
  obtain ⟨vm0, locs, k0, X, e, hx, hc, e0, hZ, hown, r⟩ := W
  subst hp
  exact Go.stp (fun t q => X.ldc2Long hx hown (mv (s := K.2.2.1.setVm vm0) hZ w) (g := mkF K.2.2.2.1 pc ls st) rfl (hb hc.1 hd) _ q) k
end Laws
section Calls
variable {l : Launch} {Z : State} {EL : List (String × Nat)} {own nm : String} {cd : ByteArray} {ml : Nat} {ret : Option FieldType} {R : Room} {ws : List Addr} {h0 : Heap} {K : Cx} {sf : List Addr} {T : State} {h h' : Heap} {cells slots : Nat} {P : Outcome → State → Prop} {pc pc' : Nat} {ls : Array Slot} {st : List Value} {a0 : Array Value}
def Cb (l : Launch) (Z : State) (EL : List (String × Nat)) (R : Room) (K : Cx) (y : MethodName) (len Wd kc ks : Nat) (as' : Array Value) (h : Heap) (wsc : List Addr) (Q : Option Value → Heap → List Addr → Prop) : Prop :=
  ∀ vm0, Z.Warmed39 vm0 → CHv Z EL vm0 h → (∀ x ∈ wsc, Safe Z EL vm0 h x ∧ x < h.size) → BackS l R K.1 K.2.1 K.2.2.2.2.2.1 (K.2.2.1.setVm vm0) K.2.2.2.2.1 y len Wd (fun A a => a = as' ∧ A.U.heap = h ∧ A.cells + kc ≤ R.cells ∧ A.slots + ks ≤ R.slots)
    (fun A _ v B => ∃ L so, Q v B.U.heap so ∧ (∀ x ∈ so, Safe Z EL B.U.vm B.U.heap x ∧ h.size ≤ x ∧ x < B.U.heap.size) ∧ (∀ x ∈ L, x.base ∈ wsc ∨ h.size ≤ x.base) ∧ Keep h B.U.heap wsc ∧ B.locs = A.locs ++ L ∧ B.cells = A.cells + kc ∧ B.slots = A.slots + ks ∧ CHr Z EL vm0 h B.U.vm B.U.heap)
theorem Cb.ct {y : MethodName} {bytes : ByteArray} {maxL : Nat} {rt : Option FieldType} {rm : Room} {len Wd : Nat} {as' : Array Value} {wsc : List Addr} {Q : Option Value → Heap → List Addr → Prop} (C : Ct l Z EL y bytes maxL rt rm as' h wsc Q) (wc : (Cond.code y bytes maxL rt).before a0 Z = true) (wz : (Cond.initialized y.cls).before a0 Z = true) (hEL : EW Z a0 EL) (hf : rm.frames + 1 ≤ R.frames) (hl : Wd + (maxL + 11) + rm.locals ≤ R.locals) :
    Cb l Z EL R K y len Wd rm.cells rm.slots as' h wsc Q := by
  intro vm0 hZ H hsafe
  refine BackS.of_freeW (bytes := bytes) (maxL := maxL) (ret := rt) (E := fun _ first o t L k n => k = rm.cells ∧ n = rm.slots ∧ ∃ v so, o = .returned v ∧ Q v t.heap so ∧ (∀ x ∈ so, Safe Z EL t.vm t.heap x ∧ first.heap.size ≤ x ∧ x < t.heap.size) ∧ (∀ x ∈ L, x.base ∈ wsc ∨ first.heap.size ≤ x.base) ∧ CHr Z EL first.vm first.heap t.vm t.heap) (C []) hf hl
    (fun m meth c A a Y hp => have hU : Z.Warmed39 A.U.vm := wtrans (s := K.2.2.1.setVm vm0) hZ Y.warmed
      ⟨by show (Cond.and _ .tt).before a A.U = true; rw [Cond.before_and, mv hU wc]; rfl, mv hU wc, mv hU wz, hp.2.2.1, hp.2.2.2⟩)
    (fun m meth c A a g mk Y hp => ⟨hp.1, wtrans (s := K.2.2.1.setVm vm0) hZ Y.warmed, hp.2.1, (CHv.at Y hZ hEL H).1, fun x q => ⟨(CHv.at Y hZ hEL H).safe (hsafe x q).2 (hsafe x q).1, (hsafe x q).2⟩⟩) (fun _ _ _ _ _ _ _ _ _ => trivial)
    (fun _ first o t ⟨v, L, so, h1, h2, h3, h4, h5, h6⟩ => ⟨L, _, _, h6, rfl, rfl, v, so, h1, h2, h3, h4, h5⟩)
    (fun m meth c A a g mk v t L k n Y hp _ hret ⟨e1, e2, v', so, e3, e4, e5, e6, e7⟩ => ?_)
  cases e3; subst e1 e2
  have eh : (A.U.calling g mk a).heap = h := hp.2.1
  have ke := keep_of (ws := wsc) hret.2.2.2 (by simpa using e6)
  rw [eh] at ke e5 e6 e7
  exact ⟨L, so, e4, e5, e6, ke, rfl, rfl, rfl, (CHv.at Y hZ hEL H).trans e7⟩
theorem Cb.mono {y : MethodName} {len Wd kc ks kc' ks' : Nat} {as' : Array Value} {wsc : List Addr} {Q : Option Value → Heap → List Addr → Prop} (C : Cb l Z EL R K y len Wd kc ks as' h wsc Q) (h1 : kc ≤ kc') (h2 : ks ≤ ks') : Cb l Z EL R K y len Wd kc' ks' as' h wsc Q := by
  intro vm0 hZ H hs m meth c A g ig mk a X hg hsz hd hW hn hp
  obtain ⟨v, B, X', hS, hgr, ⟨L, so, q1, q2, q3, q4, q5, q6, q7, q8⟩, st⟩ := C vm0 hZ H hs m meth c A g ig mk a X hg hsz hd hW hn ⟨hp.1, hp.2.1, Nat.le_trans (Nat.add_le_add_left h1 _) hp.2.2.1, Nat.le_trans (Nat.add_le_add_left h2 _) hp.2.2.2⟩
  refine ⟨v, ⟨B.U, B.locs, A.cells + kc', A.slots + ks'⟩, ?_, hS, hgr, ⟨L, so, q1, q2, q3, q4, q5, rfl, rfl, q8⟩, st⟩
  exact X'.mono (by rw [q6]; exact Nat.add_le_add_left h1 _) (by rw [q7]; exact Nat.add_le_add_left h2 _)
theorem wAfter {vm0 : Vm} {s : State} {wsc so : List Addr} {vm1 : Vm} {locs L : List Loc} (hC : CHr Z EL s.vm h0 vm0 h) (hs : ∀ x ∈ sf, Safe Z EL vm0 h x ∧ x < h.size ∧ (x ∈ ws ∨ h0.size ≤ x)) (hL : ∀ x ∈ locs, x.base ∈ ws ∨ h0.size ≤ x.base) (hO : Old Z Z.heap.size h) (hw : ∀ x ∈ ws, Z.heap.size ≤ x) (hz : Z.heap.size ≤ h0.size) (hws : ∀ x ∈ wsc, x ∈ sf)
    (q2 : ∀ x ∈ so, Safe Z EL vm1 h' x ∧ h.size ≤ x ∧ x < h'.size) (q3 : ∀ x ∈ L, x.base ∈ wsc ∨ h.size ≤ x.base) (q4 : Keep h h' wsc) (q8 : CHr Z EL vm0 h vm1 h') :
    CHr Z EL s.vm h0 vm1 h' ∧ (∀ x ∈ so ++ sf, Safe Z EL vm1 h' x ∧ x < h'.size ∧ (x ∈ ws ∨ h0.size ≤ x)) ∧ (∀ x ∈ locs ++ L, x.base ∈ ws ∨ h0.size ≤ x.base) ∧ Old Z Z.heap.size h' := by
  have hgr : h0.size ≤ h.size := hC.2.1
  refine ⟨hC.trans q8, fun x q => ?_, fun x q => ?_, hO.keep q4 fun x q => ?_⟩
  · rcases List.mem_append.mp q with q | q
    · exact ⟨(q2 x q).1, (q2 x q).2.2, Or.inr (Nat.le_trans hgr (q2 x q).2.1)⟩
    · exact ⟨q8.safe (hs x q).2.1 (hs x q).1, Nat.lt_of_lt_of_le (hs x q).2.1 q4.1, (hs x q).2.2⟩
  · rcases List.mem_append.mp q with q | q
    · exact hL x q
    · rcases q3 x q with q | q
      · exact (hs _ (hws _ q)).2.2
      · exact Or.inr (Nat.le_trans hgr q)
  · rcases (hs _ (hws _ q)).2.2 with z | z
    · exact hw _ z
    · exact Nat.le_trans hz z
theorem wStatic (W : Wk l Z EL own nm cd ml ret R ws h0 K sf T h cells slots) {y : MethodName} {index : Nat} (hd : decode cd pc = .ok (.invokestatic index, 3)) (w1 : (Cond.methodLink own index y).before a0 Z = true) (w2 : (Cond.static y).before a0 Z = true) (wz : (Cond.initialized y.cls).before a0 Z = true) {bytes : ByteArray} {maxL : Nat} {rt : Option FieldType} (wc : (Cond.code y bytes maxL rt).before a0 Z = true) (hy : y.cls ≠ "java/lang/invoke/MethodHandle" ∧ y.cls ≠ "java/lang/invoke/VarHandle")
    {Wd kc ks : Nat} {argsL rest : List Value} {wsc : List Addr} {Q : Option Value → Heap → List Addr → Prop} (C : Cb l Z EL R K y 3 Wd kc ks argsL.toArray h wsc Q) (hws : ∀ x ∈ wsc, x ∈ sf) (hsz : ls.size = ml) (hlen : ∀ sig, parseMethodDescriptor y.desc = some sig → argsL.length = sig.parameters.length) (hst : st = argsL.reverse ++ rest) (hW : (rest.map fun v => v.category).sum ≤ Wd) (hc' : cells + kc ≤ R.cells) (hl' : slots + ks ≤ R.slots) (hp : pc + 3 = pc')
    (k : ∀ v so T' h', Wk l Z EL own nm cd ml ret R ws h0 K (so ++ sf) T' h' (cells + kc) (slots + ks) → Keep h h' wsc → (∀ x ∈ so, h.size ≤ x ∧ x < h'.size) → Q v h' so → Go K P T' pc' ls (v.toList ++ rest)) : Go K P T pc ls st := by
  obtain ⟨vm0, locs, k0, X, e, hx, hc, e0, hZ, hown, hS, hk, hL, hC, hO, hE, hw, hz, hs⟩ := W
  subst hp
  obtain ⟨v, vm₁, B, -, X', hS', hgr, ⟨L, so, q1, q2, q3, q4, q5, q6, q7, q8⟩, f⟩ := callSS X hx (y := y) hown (mvT hZ w1) (mvT hZ w2) (mvT hZ wz) (mvT hZ wc) hy (C vm0 hZ hC.1 fun x q => ⟨(hs x (hws x q)).1, (hs x (hws x q)).2.1⟩) (g := mkF K.2.2.2.1 pc ls st) rfl (hsz.trans hc.2.1.symm) hlen hst (by show 2 * 0 + _ ≤ _; omega) (hb hc.1 hd) (fun _ _ => ⟨rfl, e, hc', hl'⟩)
  obtain ⟨X2, hS2, hZ2, hown2⟩ := rebS (Z := Z) (own := own) (n1 := h.size) hS hk X' hS' (by rw [← e]; exact hgr) hZ hown
  obtain ⟨a1, a2, a3, a4⟩ := wAfter (s := K.2.2.1) hC hs hL hO hw hz hws q2 q3 q4 q8
  rw [q5, q6, q7] at X2
  obtain ⟨o, U, r, q⟩ := k v so B.U B.U.heap ⟨B.U.vm, _, _, X2, rfl, hx, hc, e0, hZ2, hown2, hS2, Nat.le_refl _, a3, a1, a4, hE, hw, hz, a2⟩ q4 (fun x z => ⟨(q2 x z).2.1, (q2 x z).2.2⟩) q1
  exact ⟨o, U, f.trans r, q⟩
theorem wSpecial (W : Wk l Z EL own nm cd ml ret R ws h0 K sf T h cells slots) {y : MethodName} {index : Nat} (hd : decode cd pc = .ok (.invokespecial index, 3)) (hy1 : y.name = "<init>") (w1 : (Cond.methodLink own index y).before a0 Z = true) (w2 : (Cond.instanceMethod y).before a0 Z = true) {bytes : ByteArray} {maxL : Nat} (wc : (Cond.code y bytes maxL none).before a0 Z = true) (hy : y.cls ≠ "java/lang/invoke/MethodHandle" ∧ y.cls ≠ "java/lang/invoke/VarHandle")
    {Wd kc ks : Nat} {a : Addr} {argsL rest : List Value} {wsc : List Addr} {Q : Option Value → Heap → List Addr → Prop} (C : Cb l Z EL R K y 3 Wd kc ks (.ref a :: argsL).toArray h wsc Q) (hws : ∀ x ∈ wsc, x ∈ sf) (hsz : ls.size = ml) (hlen : ∀ sig, parseMethodDescriptor y.desc = some sig → argsL.length = sig.parameters.length) (hst : st = argsL.reverse ++ .ref a :: rest) (hW : (rest.map fun v => v.category).sum ≤ Wd) (hc' : cells + kc ≤ R.cells) (hl' : slots + ks ≤ R.slots) (hp : pc + 3 = pc')
    (k : ∀ v so T' h', Wk l Z EL own nm cd ml ret R ws h0 K (so ++ sf) T' h' (cells + kc) (slots + ks) → Keep h h' wsc → (∀ x ∈ so, h.size ≤ x ∧ x < h'.size) → Q v h' so → Go K P T' pc' ls (v.toList ++ rest)) : Go K P T pc ls st := by
  obtain ⟨vm0, locs, k0, X, e, hx, hc, e0, hZ, hown, hS, hk, hL, hC, hO, hE, hw, hz, hs⟩ := W
  subst hp
  obtain ⟨v, vm₁, B, -, X', hS', hgr, ⟨L, so, q1, q2, q3, q4, q5, q6, q7, q8⟩, f⟩ := X.specialBackS hx (y := y) hy1 hown (mvT hZ w1) (mvT hZ w2) (mvT hZ wc) hy (C vm0 hZ hC.1 fun x q => ⟨(hs x (hws x q)).1, (hs x (hws x q)).2.1⟩) (g := mkF K.2.2.2.1 pc ls st) rfl (hsz.trans hc.2.1.symm) (Steps.refl _) hlen hst (by show 2 * 0 + _ ≤ _; omega) (hb hc.1 hd) (fun _ _ => ⟨rfl, e, hc', hl'⟩)
  obtain ⟨X2, hS2, hZ2, hown2⟩ := rebS (Z := Z) (own := own) (n1 := h.size) hS hk X' hS' (by rw [← e]; exact hgr) hZ hown
  obtain ⟨a1, a2, a3, a4⟩ := wAfter (s := K.2.2.1) hC hs hL hO hw hz hws q2 q3 q4 q8
  rw [q5, q6, q7] at X2
  obtain ⟨o, U, r, q⟩ := k v so B.U B.U.heap ⟨B.U.vm, _, _, X2, rfl, hx, hc, e0, hZ2, hown2, hS2, Nat.le_refl _, a3, a1, a4, hE, hw, hz, a2⟩ q4 (fun x z => ⟨(q2 x z).2.1, (q2 x z).2.2⟩) q1
  exact ⟨o, U, f.trans r, q⟩
theorem wVirtual (W : Wk l Z EL own nm cd ml ret R ws h0 K sf T h cells slots) {C : String} {y z : MethodName} {index : Nat} (hd : decode cd pc = .ok (.invokevirtual index, 3)) (w1 : (Cond.methodLink own index y).before a0 Z = true) (w2 : (Cond.declares y).before a0 Z = true) (w3 : (Cond.selects C y z).before a0 Z = true) (w4 : (Cond.instanceMethod z).before a0 Z = true) (nf : ∀ s : State, Z.Warmed39 s.vm → NotFace s y) (hy : y.cls ≠ "java/lang/invoke/MethodHandle" ∧ y.cls ≠ "java/lang/invoke/VarHandle")
    {Wd kc ks : Nat} {a : Addr} {argsL rest : List Value} {wsc : List Addr} {Q : Option Value → Heap → List Addr → Prop} (Cc : Cb l Z EL R K z 3 Wd kc ks (.ref a :: argsL).toArray h wsc Q) (E : Exa Z h a C) (hws : ∀ x ∈ wsc, x ∈ sf) (hsz : ls.size = ml) (hlen : ∀ sig, parseMethodDescriptor y.desc = some sig → argsL.length = sig.parameters.length) (hst : st = argsL.reverse ++ .ref a :: rest) (hW : (rest.map fun v => v.category).sum ≤ Wd) (hc' : cells + kc ≤ R.cells) (hl' : slots + ks ≤ R.slots) (hp : pc + 3 = pc')
    (k : ∀ v so T' h', Wk l Z EL own nm cd ml ret R ws h0 K (so ++ sf) T' h' (cells + kc) (slots + ks) → Keep h h' wsc → (∀ x ∈ so, h.size ≤ x ∧ x < h'.size) → Q v h' so → Go K P T' pc' ls (v.toList ++ rest)) : Go K P T pc ls st := by
  obtain ⟨vm0, locs, k0, X, e, hx, hc, e0, hZ, hown, hS, hk, hL, hC, hO, hE, hw, hz, hs⟩ := W
  subst hp
  obtain ⟨cB, kB, i1, i2, i3⟩ := isOf (s := K.2.2.1.setVm vm0) hZ e E
  obtain ⟨v, vm₁, B, -, X', hS', hgr, ⟨L, so, q1, q2, q3, q4, q5, q6, q7, q8⟩, f⟩ := X.virtualBackS hx (y := y) (z := z) hown (mvT hZ w1) (mvT hZ w2) (nf (K.2.2.1.setVm vm0) hZ) (mvT hZ w3) (mvT hZ w4) hy (Cc vm0 hZ hC.1 fun x q => ⟨(hs x (hws x q)).1, (hs x (hws x q)).2.1⟩) i1 i3 (g := mkF K.2.2.2.1 pc ls st) rfl (hsz.trans hc.2.1.symm) (Steps.refl _) hlen hst (by show 2 * 0 + _ ≤ _; omega) (hb hc.1 hd) (fun _ _ => ⟨rfl, e, hc', hl'⟩)
  obtain ⟨X2, hS2, hZ2, hown2⟩ := rebS (Z := Z) (own := own) (n1 := h.size) hS hk X' hS' (by rw [← e]; exact hgr) hZ hown
  obtain ⟨a1, a2, a3, a4⟩ := wAfter (s := K.2.2.1) hC hs hL hO hw hz hws q2 q3 q4 q8
  rw [q5, q6, q7] at X2
  obtain ⟨o, U, r, q⟩ := k v so B.U B.U.heap ⟨B.U.vm, _, _, X2, rfl, hx, hc, e0, hZ2, hown2, hS2, Nat.le_refl _, a3, a1, a4, hE, hw, hz, a2⟩ q4 (fun x z => ⟨(q2 x z).2.1, (q2 x z).2.2⟩) q1
  exact ⟨o, U, f.trans r, q⟩
theorem nfS {C : String} {y : MethodName} (w3 : (Cond.selects C y y).before a0 Z = true) : ∀ s : State, Z.Warmed39 s.vm → NotFace s y := fun s hZ => notFace_of_selects (args := #[]) (mvT hZ w3)
theorem wEnd {kc ks : Nat} {v : Option Value} {Q : Option Value → Heap → List Addr → Prop} {so : List Addr} (W : Wk l Z EL own nm cd ml ret R ws h0 K sf T h cells slots) (hv : ret = none → v = none) (hk : cells ≤ kc) (hn : slots ≤ ks) (hso : ∀ x ∈ so, x ∈ sf ∧ h0.size ≤ x) (q : Q v h so)
    (stp : ∀ (vm0 : Vm) (locs : List Loc) (fs : List Frame), Stand K.1 l K.2.1 R (K.2.2.1.setVm vm0) K.2.2.2.1 K.2.2.2.2.1 K.2.2.2.2.2.1 K.2.2.2.2.2.2.1 K.2.2.2.2.2.2.2 T locs cells slots → K.1.tables.exec = Jvm.exec → K.2.2.2.2.2.2.2.code = cd → K.2.2.2.2.2.2.1.sig.returnType = ret →
      (∀ (f : JFrame) (acts : List Action), f.method = K.2.2.2.1 → f.locked = none → f.entered = [] → (doReturn K.2.1 (T.setTop f) acts v).1 = T.setFrames fs) → Steps K.1.tables K.2.1 K.2.2.2.2.2.1 (T.setTop (mkF K.2.2.2.1 pc ls st)) (T.setFrames fs)) :
    Go K (Pst Z EL ws K.2.2.1 kc ks Q) T pc ls st := by
  obtain ⟨vm0, locs, k0, X, e, hx, hc, e0, hZ, hown, hS, hk0, hL, hC, hO, ⟨a0, hE⟩, hw, hz, hs⟩ := W
  have hlk := hc.2.2.2.1
  obtain ⟨fs, f1, f2, f3, f4⟩ := X.leaveW hS (by rw [e]; exact hk0) (v := v) (fun q => hv (hc.2.2.1.symm.trans q)) hlk
  have hend := CHv.at X hZ hE hC.1
  refine ⟨.returned v, T.setFrames fs, stp vm0 locs fs X hx hc.1 hc.2.2.1 f1, f2, f3, v, locs, so, rfl, ?_, fun x z => ?_, ?_, ?_, ?_⟩
  · show Q v T.heap so
    rw [e]; exact q
  · show Safe Z EL T.vm T.heap x ∧ _ ∧ x < T.heap.size
    rw [e, e0]
    exact ⟨hend.safe (hs x (hso x z).1).2.1 (hs x (hso x z).1).1, (hso x z).2, (hs x (hso x z).1).2.1⟩
  · rw [e0]; exact hL
  · show CHr Z EL K.2.2.1.vm K.2.2.1.heap T.vm T.heap
    rw [e, e0]; exact hC.trans hend
  · obtain ⟨g1, g2, g3, g4⟩ := f4
    exact ⟨g1, g2, g3, g4.mono hk hn⟩
theorem wRet0 {kc ks : Nat} {Q : Option Value → Heap → List Addr → Prop} {so : List Addr} (W : Wk l Z EL own nm cd ml none R ws h0 K sf T h cells slots) (hd : decode cd pc = .ok (.return_, 1)) (hk : cells ≤ kc) (hn : slots ≤ ks) (hso : ∀ x ∈ so, x ∈ sf ∧ h0.size ≤ x) (q : Q none h so) : Go K (Pst Z EL ws K.2.2.1 kc ks Q) T pc ls [] :=
  wEnd W (fun _ => rfl) hk hn hso q fun vm0 locs fs X hx hc hr f => X.returnOut hx hr (hb hc hd) f
theorem wRetI {t : FieldType} {z : Int32} {kc ks : Nat} {Q : Option Value → Heap → List Addr → Prop} {so : List Addr} (W : Wk l Z EL own nm cd ml (some t) R ws h0 K sf T h cells slots) (hd : decode cd pc = .ok (.ireturn, 1)) (ht : t = .int ∨ t = .boolean ∨ t = .byte ∨ t = .char ∨ t = .short) (hnr : narrow t (.int z) = .int z) (hk : cells ≤ kc) (hn : slots ≤ ks) (hso : ∀ x ∈ so, x ∈ sf ∧ h0.size ≤ x) (q : Q (some (.int z)) h so) : Go K (Pst Z EL ws K.2.2.1 kc ks Q) T pc ls (.int z :: st) :=
  wEnd W (fun q => nomatch q) hk hn hso q fun vm0 locs fs X hx hc hr f => retOut X hx hr hnr (Or.inl ⟨rfl, ht, z, rfl⟩) (hb hc hd) f
theorem wRetA {t : FieldType} {w : Value} {kc ks : Nat} {Q : Option Value → Heap → List Addr → Prop} {so : List Addr} (W : Wk l Z EL own nm cd ml (some t) R ws h0 K sf T h cells slots) (hd : decode cd pc = .ok (.areturn, 1)) (ht : t.isReference = true) (hw : w.isRef = true) (hnr : narrow t w = w) (hk : cells ≤ kc) (hn : slots ≤ ks) (hso : ∀ x ∈ so, x ∈ sf ∧ h0.size ≤ x) (q : Q (some w) h so) : Go K (Pst Z EL ws K.2.2.1 kc ks Q) T pc ls (w :: st) :=
  wEnd W (fun q => nomatch q) hk hn hso q fun vm0 locs fs X hx hc hr f => retOut X hx hr hnr (Or.inr (Or.inr (Or.inr (Or.inr ⟨rfl, ht, hw⟩)))) (hb hc hd) f
end Calls
section Ints
theorem i32_of {v : Int32} {n : Int} (w : Int32) (hw : w.toInt = n) (h : v.toInt = n) : v = w := Int32.toInt_inj.mp (h.trans hw.symm)
def B8 (x : Int32) : Prop := ¬ x < 0 ∧ ¬ 255 < x
theorem B8.toInt {x : Int32} (h : B8 x) : 0 ≤ x.toInt ∧ x.toInt ≤ 255 := by
  obtain ⟨h1, h2⟩ := h
  rw [Int32.lt_iff_toInt_lt] at h1 h2
  have a : (0 : Int32).toInt = 0 := by decide
  have b : (255 : Int32).toInt = 255 := by decide
  omega
theorem B8.of {x : Int32} (h : 0 ≤ x.toInt ∧ x.toInt ≤ 255) : B8 x := by
  refine ⟨?_, ?_⟩ <;> rw [Int32.lt_iff_toInt_lt]
  · have a : (0 : Int32).toInt = 0 := by decide
    omega
  · have b : (255 : Int32).toInt = 255 := by decide
    omega
theorem B8.and {p v : Int32} (e : p &&& 255 = v) : B8 v := by
  subst e; have q := c_and p 255 (by decide)
  have b : (255 : Int32).toInt = 255 := by decide
  exact B8.of (by omega)
theorem B8.mask {x : Int32} (h : B8 x) : x &&& 255 = x := by
  have q := c_mask x 255 8 (by decide) (by decide)
  have r := h.toInt
  apply Int32.toInt_inj.mp
  rw [q]; simp only [Nat.reducePow]; omega
theorem B8.i2c {c v : Int32} (h : B8 c) (e : c.toUInt32.toUInt16.toUInt32.toInt32 = v) : v = c := by
  rw [← h.mask, i2c_mask, h.mask] at e; exact e.symm
theorem B8.i2c' {c : Int32} (h : B8 c) : c.toUInt32.toUInt16.toUInt32.toInt32 = c := h.i2c rfl
theorem B8.nar {c : Int32} (h : B8 c) : nar .char c = c := h.i2c'
theorem and31 {p v : Int32} (e : p &&& 2147483647 = v) : 0 ≤ v.toInt := by
  subst e; exact (c_and p 2147483647 (by decide)).1
theorem rem_lt {v r y : Int32} {d : Int} (h : 0 ≤ v.toInt) (e : v % y = r) (hy : y.toInt = d) (hd : 0 < d) : 0 ≤ r.toInt ∧ r.toInt < d := by
  subst e
  have q := (c_irem v y d hy).1 h
  rw [q]; exact ⟨Int.emod_nonneg _ (by omega), Int.emod_lt_of_pos _ hd⟩
theorem lt_i {x y : Int32} : x < y ↔ x.toInt < y.toInt := Int32.lt_iff_toInt_lt
end Ints
section Refs0
variable {l : Launch} {Z : State} {EL : List (String × Nat)} {own nm : String} {cd : ByteArray} {ml : Nat} {ret : Option FieldType} {R : Room} {ws : List Addr} {h0 : Heap} {K : Cx} {sf : List Addr} {T : State} {h h' : Heap} {cells slots : Nat} {P : Outcome → State → Prop} {pc pc' : Nat} {ls : Array Slot} {st : List Value} {a0 : Array Value}
end Refs0
section Refs
variable {Z : State} {h h' : Heap} {v : Value} {C : String} {ws : List Addr}
def RefS (Z : State) (h : Heap) (v : Value) (C : String) : Prop := v = .null ∨ ∃ r, v = .ref r ∧ Exa Z h r C
theorem RefS.isRef (F : RefS Z h v C) : v.isRef = true := by rcases F with rfl | ⟨r, rfl, -⟩ <;> rfl
theorem RefS.ext (F : RefS Z h v C) (E : Ext h h') : RefS Z h' v C := F.imp id fun ⟨r, q, A⟩ => ⟨r, q, A.ext E⟩
theorem RefS.wr {a : Addr} {sl : Nat} {u : Value} (F : RefS Z h v C) (W : Wr h h' a sl u) : RefS Z h' v C := F.imp id fun ⟨r, q, A⟩ => ⟨r, q, A.wr W⟩
theorem RefS.keep (F : RefS Z h v C) (K : Keep h h' ws) : RefS Z h' v C := F.imp id fun ⟨r, q, A⟩ => ⟨r, q, A.keep K⟩
theorem RefS.of {r : Addr} (A : Exa Z h r C) : RefS Z h (.ref r) C := Or.inr ⟨r, rfl, A⟩
theorem RefS.null : RefS Z h .null C := Or.inl rfl
end Refs
section Refs2
variable {l : Launch} {Z : State} {EL : List (String × Nat)} {own nm : String} {cd : ByteArray} {ml : Nat} {ret : Option FieldType} {R : Room} {ws : List Addr} {h0 : Heap} {K : Cx} {sf : List Addr} {T : State} {h h' : Heap} {cells slots : Nat} {P : Outcome → State → Prop} {pc pc' : Nat} {ls : Array Slot} {st : List Value} {a0 : Array Value}
end Refs2
section More
variable {l : Launch} {Z : State} {EL : List (String × Nat)} {own nm : String} {cd : ByteArray} {ml : Nat} {ret : Option FieldType} {R : Room} {ws : List Addr} {h0 : Heap} {K : Cx} {sf : List Addr} {T : State} {h h' : Heap} {cells slots : Nat} {P : Outcome → State → Prop} {pc pc' : Nat} {ls : Array Slot} {st : List Value} {a0 : Array Value}
theorem wClone (W : Wk l Z EL own nm cd ml ret R ws h0 K sf T h cells slots) {ad : String} {index : Nat} (hd : decode cd pc = .ok (.invokevirtual index, 3)) (w1 : (Cond.methodLink own index ⟨ad, "clone", "()Ljava/lang/Object;"⟩).before a0 Z = true) (w2 : (Cond.sameMethod ad "java/lang/Object" "clone" "()Ljava/lang/Object;").before a0 Z = true) (w3 : (Cond.native ⟨"java/lang/Object", "clone", "()Ljava/lang/Object;"⟩).before a0 Z = true) (w4 : (Cond.instanceMethod ⟨"java/lang/Object", "clone", "()Ljava/lang/Object;"⟩).before a0 Z = true) (w5 : (Cond.selects ad ⟨ad, "clone", "()Ljava/lang/Object;"⟩ ⟨"java/lang/Object", "clone", "()Ljava/lang/Object;"⟩).before a0 Z = true) (w6 : (Cond.castable ad "java/lang/Cloneable").before a0 Z = true)
    {a : Addr} {kA : ClassId} {ty : FieldType} {z : Int32} {vs : List Value} {dv : Value} (F : Arv Z h a kA ty z vs dv) (E : Exa Z h a ad) (hsz : ls.size = ml) (hf : 1 ≤ R.frames) (Wd : Nat) (hW : (st.map fun v => v.category).sum ≤ Wd) (hl : Wd + 14 ≤ R.locals) (cap : Nat) (hcap : z.toNatClampNeg ≤ cap) (hc' : cells + 1 ≤ R.cells) (hsl : slots + cap ≤ R.slots) (hp : pc + 3 = pc')
    (k : ∀ T' h' a', Wk l Z EL own nm cd ml ret R ws h0 K (a' :: sf) T' h' (cells + 1) (slots + cap) → Ext h h' → a' = h.size → Arv Z h' a' kA ty z vs dv → Exa Z h' a' ad → Go K P T' pc' ls (.ref a' :: st)) : Go K P T pc ls (.ref a :: st) := by
  have hg := W.grow
  obtain ⟨vm0, locs, k0, X, e, hx, hc, e0, hZ, hown, hS, hk, hL, hC, hO, hE, hw, hz, hs⟩ := W
  subst hp
  obtain ⟨T', h', X', e', Ex, A, E', f⟩ := cloneH X hx hZ hown w1 w2 w3 w4 w5 w6 e F.arh E (g := mkF K.2.2.2.1 pc ls (.ref a :: st)) rfl (hsz.trans hc.2.1.symm) rfl (hb hc.1 hd) hf (W := Wd) (by show 2 * 0 + _ ≤ _; omega) hl hcap hc' hsl
  obtain ⟨hC', hs'⟩ := wExt (s := K.2.2.1) hC hs Ex
  refine Go.stp f (k T' h' h.size ⟨vm0, locs, k0, X', e', hx, hc, e0, hZ, hown, hS, Nat.le_trans hk Ex.1, hL, hC', hO.ext Ex, hE, hw, hz, fun x q => ?_⟩ Ex rfl A E')
  rcases List.mem_cons.mp q with rfl | q
  · exact ⟨Safe.ext Ex hC.1 (Safe.new (Nat.le_refl _)), E'.lt, Or.inr hg⟩
  · exact hs' x q
end More
section Starts
theorem eqI_v {args : Array Value} {first s : State} {o : Option Outcome} {idx : List Nat} {t : Term} {n : Int32} (h : (Cond.eq t (.int n)).value args first o s idx = some true) : t.eval args first o idx s = some (.int n) := by
  cases ht : t.eval args first o idx s with
  | none => simp [Cond.value, Term.eval, ht] at h
  | some x => cases x <;> simp [Cond.value, Term.eval, ht] at h ⊢; exact h
theorem arvStart {Z : State} {args : Array Value} {t : Term} {a : Addr} {ty : FieldType} {z : Int32} {vs : List Value} {dv : Value} (hf : Fit Z) (ev : t.eval args Z none [] Z = some (.ref a)) (hx : (Cond.arrayOf t ty).value args Z none Z [] = some true) (hlen : (Cond.eq (Term.length t) (.int z)).value args Z none Z [] = some true) (hz : ¬ z < 0) (hl : z.toNatClampNeg = vs.length) (H : ∀ cl, Z.heap[a]? = some cl → HasL cl 0 vs) : ∃ k, Arv Z Z.heap a k ty z vs dv := by
  obtain ⟨c, A⟩ := Arr.start ev hx
  have hL := eqI_v hlen
  simp only [Term.eval, ev, Option.bind_eq_bind, Option.bind_some] at hL
  obtain ⟨cl, hc, h2⟩ := Option.bind_eq_some_iff.mp hL
  by_cases hn : cl.slots.size < 2147483648
  · rw [if_pos hn] at h2
    have e1 : Z.heap[a]? = some cl := (State.arrayAt?_spec hc).1
    have e2 : cl.slots.size.toInt32 = z := by have q := Option.some.inj h2; injection q
    have e3 : cl = c := Option.some.inj (e1.symm.trans A.1)
    subst e3
    exact ⟨_, Arv.start hf A hn e2 hz hl (H _ A.1)⟩
  · rw [if_neg hn] at h2; cases h2
theorem elem_h {Z : State} {args : Array Value} {t : Term} {a : Addr} {j : Int32} {v : Value} {cl : Cell} (ev : t.eval args Z none [] Z = some (.ref a)) (he : (Term.elem t (.int j)).eval args Z none [] Z = some v) (hc : Z.heap[a]? = some cl) (i : Nat) (hi : j.toNatClampNeg = i) : cl.slots[i]? = some v := hi ▸ (elem_in he ev (Term.int_eval j) hc).2
end Starts
end Jvm.Own
namespace Jvm.Own
open Jvm Sem ClassFile Op Lib Jvm.Stand Jvm.Free Jvm.LawKit Jvm.RoadKit Bundle
section Own3
variable {l : Launch} {Z : State} {EL : List (String × Nat)} {own nm : String} {cd : ByteArray} {ml : Nat} {ret : Option FieldType} {R : Room} {ws : List Addr} {h0 : Heap} {K : Cx} {sf : List Addr} {T : State} {h h' : Heap} {cells slots : Nat} {P : Outcome → State → Prop} {pc pc' : Nat} {ls : Array Slot} {st : List Value} {a0 : Array Value}
theorem selSelf {D : String} {y : MethodName} (hy : y.cls ≠ "java/lang/invoke/MethodHandle" ∧ y.cls ≠ "java/lang/invoke/VarHandle") (w2 : (Cond.instanceMethod y).before a0 Z = true) (w3 : (Cond.selects D y y).before a0 Z = true) (w4 : (Cond.privateMethod y).before a0 Z = true) : (Cond.selects y.cls y y).before a0 Z = true := by
  obtain ⟨mk, methM, hnamed, hmethM, -, -⟩ := Cond.instanceMethod_spec w2
  obtain ⟨c2, r2, m2, -, -, q3, -, kP, hkP, hkPi⟩ := Cond.selects_spec w3
  cases hnamed.symm.trans q3
  have hcn := findClass_of_methodNamed hnamed
  have hf := State.methodFound?_of_named hnamed hy
  have hsel : selectMethod {} Z.vm mk.cls mk = .method mk := selectMethod_private hmethM (Cond.privateMethod_at w4 mk methM hnamed hmethM)
  simp [Cond.before, Cond.holds, Cond.value, hcn, hf, hnamed, hsel, hkP, hkPi]
theorem wPrivate (W : Wk l Z EL own nm cd ml ret R ws h0 K sf T h cells slots) {C D : String} {y : MethodName} {index : Nat} (hd : decode cd pc = .ok (.invokevirtual index, 3)) (w1 : (Cond.methodLink own index y).before a0 Z = true) (w2 : (Cond.instanceMethod y).before a0 Z = true) (w3 : (Cond.selects D y y).before a0 Z = true) (w4 : (Cond.privateMethod y).before a0 Z = true) {bytes : ByteArray} {maxL : Nat} {rt : Option FieldType} (wc : (Cond.code y bytes maxL rt).before a0 Z = true) (hy : y.cls ≠ "java/lang/invoke/MethodHandle" ∧ y.cls ≠ "java/lang/invoke/VarHandle")
    {Wd kc ks : Nat} {a : Addr} {argsL rest : List Value} {wsc : List Addr} {Q : Option Value → Heap → List Addr → Prop} (Cc : Cb l Z EL R K y 3 Wd kc ks (.ref a :: argsL).toArray h wsc Q) (E : Exa Z h a C) (hws : ∀ x ∈ wsc, x ∈ sf) (hsz : ls.size = ml) (hlen : ∀ sig, parseMethodDescriptor y.desc = some sig → argsL.length = sig.parameters.length) (hst : st = argsL.reverse ++ .ref a :: rest) (hW : (rest.map fun v => v.category).sum ≤ Wd) (hc' : cells + kc ≤ R.cells) (hl' : slots + ks ≤ R.slots) (hp : pc + 3 = pc')
    (k : ∀ v so T' h', Wk l Z EL own nm cd ml ret R ws h0 K (so ++ sf) T' h' (cells + kc) (slots + ks) → Keep h h' wsc → (∀ x ∈ so, h.size ≤ x ∧ x < h'.size) → Q v h' so → Go K P T' pc' ls (v.toList ++ rest)) : Go K P T pc ls st := by
  have w5 := selSelf hy w2 w3 w4
  obtain ⟨vm0, locs, k0, X, e, hx, hc, e0, hZ, hown, hS, hk, hL, hC, hO, hE, hw, hz, hs⟩ := W
  subst hp
  obtain ⟨cB, kB, i1, i2, cell, i4, i5, i6⟩ := isOf (s := K.2.2.1.setVm vm0) hZ e E
  obtain ⟨v, vm₁, B, -, X', hS', hgr, ⟨L, so, q1, q2, q3, q4, q5, q6, q7, q8⟩, f⟩ := X.privateBackS hx (y := y) hown (mvT hZ w1) (mvT hZ w2) (mvT hZ w5) (Cond.privateMethod_at (args := #[]) (mvT hZ w4)) (mvT hZ wc) hy (Cc vm0 hZ hC.1 fun x q => ⟨(hs x (hws x q)).1, (hs x (hws x q)).2.1⟩) (g := mkF K.2.2.2.1 pc ls st) rfl (hsz.trans hc.2.1.symm) (Steps.refl _) i4 (fun q z => by rw [z] at i6; cases i6) hlen hst (by show 2 * 0 + _ ≤ _; omega) (hb hc.1 hd) (fun _ _ => ⟨rfl, e, hc', hl'⟩)
  obtain ⟨X2, hS2, hZ2, hown2⟩ := rebS (Z := Z) (own := own) (n1 := h.size) hS hk X' hS' (by rw [← e]; exact hgr) hZ hown
  obtain ⟨a1, a2, a3, a4⟩ := wAfter (s := K.2.2.1) hC hs hL hO hw hz hws q2 q3 q4 q8
  rw [q5, q6, q7] at X2
  obtain ⟨o, U, r, q⟩ := k v so B.U B.U.heap ⟨B.U.vm, _, _, X2, rfl, hx, hc, e0, hZ2, hown2, hS2, Nat.le_refl _, a3, a1, a4, hE, hw, hz, a2⟩ q4 (fun x z => ⟨(q2 x z).2.1, (q2 x z).2.2⟩) q1
  exact ⟨o, U, f.trans r, q⟩
theorem wNewE (W : Wk l Z EL own nm cd ml ret R ws h0 K sf T h cells slots) {aty : ArrayType} (hd : decode cd pc = .ok (.newarray aty, 2)) (w : (Cond.arrayClass (newarray.typeOf aty)).before a0 Z = true) {n : Int32} (hn : ¬ n < 0) {cap : Nat} (hcap : n.toNatClampNeg ≤ cap) (hbig : cap * 8 ≤ 536870912) (hc' : cells + 1 ≤ R.cells) (hl : slots + cap ≤ R.slots) {ad : String} (had : "[" ++ (newarray.typeOf aty).toString = ad) (hp : pc + 2 = pc')
    (k : ∀ T' h' a cA, Wk l Z EL own nm cd ml ret R ws h0 K (a :: sf) T' h' (cells + 1) (slots + cap) → Ext h h' → a = h.size → (∀ m : Nat, Arv Z h' a cA (newarray.typeOf aty) n (List.replicate m (defaultValue (newarray.typeOf aty))) (defaultValue (newarray.typeOf aty))) → Exa Z h' a ad → Go K P T' pc' ls (.ref a :: st)) : Go K P T pc ls (.int n :: st) := by
  have hg := W.grow
  obtain ⟨vm0, locs, k0, X, e, hx, hc, e0, hZ, hown, hS, hk, hL, hC, hO, hE, hw, hz, hs⟩ := W
  subst hp
  obtain ⟨T', h', cA, X', e', E, A, A2, f⟩ := newPE X hx hZ w e (g := mkF K.2.2.2.1 pc ls (.int n :: st)) rfl (hb hc.1 hd) rfl hn hcap hbig hc' hl had
  obtain ⟨hC', hs'⟩ := wExt (s := K.2.2.1) hC hs E
  have F := Arv.new A hn
  refine Go.stp f (k T' h' h.size cA ⟨vm0, locs, k0, X', e', hx, hc, e0, hZ, hown, hS, Nat.le_trans hk E.1, hL, hC', hO.ext E, hE, hw, hz, fun x q => ?_⟩ E rfl (fun m => F.pad (pad_rep [] _ m)) A2)
  rcases List.mem_cons.mp q with rfl | q
  · exact ⟨Safe.ext E hC.1 (Safe.new (Nat.le_refl _)), A.lt, Or.inr hg⟩
  · exact hs' x q
end Own3
end Jvm.Own
namespace Jvm.Own
open Jvm Sem ClassFile Op Lib Jvm.Stand Jvm.Free Jvm.LawKit Jvm.RoadKit Bundle
section B64
variable {l : Launch} {Z : State} {EL : List (String × Nat)} {own nm : String} {cd : ByteArray} {ml : Nat} {ret : Option FieldType} {R : Room} {ws : List Addr} {h0 : Heap} {K : Cx} {sf : List Addr} {T : State} {h h' : Heap} {cells slots : Nat} {P : Outcome → State → Prop} {pc pc' : Nat} {ls : Array Slot} {st : List Value} {a0 : Array Value}
theorem gLdiv (W : Wk l Z EL own nm cd ml ret R ws h0 K sf T h cells slots) {x y z : Int64} (hd : decode cd pc = .ok (.ldiv, 1)) (hy : y ≠ 0) (hz : x / y = z) (hp : pc + 1 = pc') (k : Go K P T pc' ls (.long z :: st)) : Go K P T pc ls (.long y :: .long x :: st) := by
  obtain ⟨vm0, locs, k0, X, e, hx, ⟨hc, -⟩, -⟩ := W
  subst hp
  exact Go.stp (fun t r => XS.ldiv X.here hx rfl (hb hc hd) rfl hy <| hz ▸ r) k
theorem wLdI (W : Wk l Z EL own nm cd ml ret R ws h0 K sf T h cells slots) (hd : decode cd pc = .ok (.iaload, 1)) {a : Addr} {kA : ClassId} {z j : Int32} {vs : List Value} {v dv : Value} (A : Arv Z h a kA .int z vs dv) (hj : ¬ j < 0 ∧ j < z) (hv : vs.getD j.toNatClampNeg dv = v) (hp : pc + 1 = pc')
    (k : Go K P T pc' ls (v :: st)) : Go K P T pc ls (.int j :: .ref a :: st) := by
  obtain ⟨vm0, locs, k0, X, e, hx, hc, e0, hZ, r⟩ := W
  subst hp
  obtain ⟨cl, A1, A2, A3, A4, A5, -⟩ := A
  exact Go.stp (fun t q => X.iaload hx (by rw [e]; exact A1.1) (State.isArrayOf_alike hZ.alike A1.2.1) A1.2.2 (inb_of A3 hj) (A5.at (inb_of A3 hj) hv) (g := mkF K.2.2.2.1 pc ls (.int j :: .ref a :: st)) rfl rfl (hb hc.1 hd) _ q) k
def CtW (l : Launch) (Z : State) (EL : List (String × Nat)) (y : MethodName) (cd : ByteArray) (ml : Nat) (ret : Option FieldType) (hs : List (Nat × Nat × Nat × Nat)) (rm : Room) (as' : Array Value) (h : Heap) (ws : List Addr) (Q : Option Value → Heap → List Addr → Prop) : Prop :=
  MetFree l y (head1 [Cond.codeWith y cd ml ret hs] rm) (fun a U => a = as' ∧ Z.Warmed39 U.vm ∧ U.heap = h ∧ CHv Z EL U.vm h ∧ ∀ x ∈ ws, Safe Z EL U.vm h x ∧ x < h.size) (fun _ _ _ _ _ => True) (fun _ U o U' => Pst Z EL ws U rm.cells rm.slots Q o U')
theorem CtW.mk {y : MethodName} {hs : List (Nat × Nat × Nat × Nat)} (own nm : String) (h1 : y.cls = own) (h2 : y.name = nm) {rm : Room} {as' : Array Value} {Q : Option Value → Heap → List Addr → Prop} (pn : plainFor y = true) (hO : Old Z Z.heap.size h) (hE : EW Z a0 EL) (hw : ∀ x ∈ ws, Z.heap.size ≤ x)
    (k : ∀ (K : Cx) (T : State), Wk l Z EL own nm cd ml ret rm ws h K ws T h 0 0 → Go K (Pst Z EL ws K.2.2.1 rm.cells rm.slots Q) T 0 (entryFrame K.2.2.2.1 as' ml).locals []) : CtW l Z EL y cd ml ret hs rm as' h ws Q := by
  subst h1 h2
  refine MetFree.of_bodySF pn hisWith ?_
  intro p e s m args below meth c s₁ Bd hml hP hK
  obtain ⟨rfl, hZ, hh, hCH, hsf⟩ := hP
  have X0 := Stand.of_body Bd
  have hes : s₁.heap = h := by rw [← hh, Bd.state]; rfl
  have hn := name_of_methodNamed Bd.named Bd.method
  obtain ⟨o, U, r1, r2, r3, r4⟩ := k (p, e, s, m, args, below, meth, c) s₁ ⟨s.vm, [], 0, X0, hes, Bd.exec, ⟨Bd.bytes, hml, Bd.returns, Bd.notSynchronized, hn.1⟩, hh, hZ, findClass_of_methodNamed Bd.named, (State.WarmedH.refl s).since 0, Nat.zero_le _, (fun x q => nomatch q), by rw [← hh] at hCH ⊢; exact CHr.refl hCH, hO, ⟨a0, hE⟩, hw, hO.1 ▸ hO.2.1, fun x q => ⟨(hsf x q).1, (hsf x q).2, Or.inl q⟩⟩
  refine ⟨U, o, ?_, r2, r3, r4⟩
  have ef : entryFrame m args ml = mkF m 0 (entryFrame m args ml).locals [] := rfl
  rw [ef]; exact r1
theorem homeAs {U t : State} {g : JFrame} {mk : MethodId} {a : Array Value} {f : JFrame} (top : U.topJava?.isSome) (e : ({ t with vm := U.vm } : State) = { (U.calling g mk a).setFrames t.frames with heap := t.heap, slotsUsed := t.slotsUsed }) (hf : t.frames = .java f :: U.frames.tail) : t = (({ U with heap := t.heap, slotsUsed := t.slotsUsed } : State).setVm t.vm).setTop f := by
  obtain ⟨g0, hg0⟩ := Option.isSome_iff_exists.mp top
  obtain ⟨r, hr⟩ := State.topJava?_eq_some.mp hg0
  have h1 : t = ({ t with vm := U.vm } : State).setVm t.vm := rfl
  have h2 : (({ U with heap := t.heap, slotsUsed := t.slotsUsed } : State).setVm t.vm).frames = .java g0 :: r := hr
  rw [State.setTop_of_frames _ h2, h1, e, hf, State.calling_eq top, State.setFrames_setFrames, hr]
  rfl
theorem Cb.ctW {y : MethodName} {bytes : ByteArray} {maxL : Nat} {rt : Option FieldType} {hs : List (Nat × Nat × Nat × Nat)} {rm : Room} {len Wd : Nat} {as' : Array Value} {wsc : List Addr} {Q : Option Value → Heap → List Addr → Prop} (C : CtW l Z EL y bytes maxL rt hs rm as' h wsc Q) (wc : (Cond.codeWith y bytes maxL rt hs).before a0 Z = true) (wz : (Cond.initialized y.cls).before a0 Z = true) (hEL : EW Z a0 EL) (hf : rm.frames + 1 ≤ R.frames) (hl : Wd + (maxL + 11) + rm.locals ≤ R.locals) :
    Cb l Z EL R K y len Wd rm.cells rm.slots as' h wsc Q := by
  intro vm0 hZ H hsafe m meth c A g ig mk a X hg hsize hdg hW hn hp
  obtain ⟨U, L0, c0, s0⟩ := A
  dsimp only [Pt.U, Pt.locs, Pt.cells, Pt.slots] at X hn hp ⊢
  obtain ⟨rfl, hh, hkc, hks⟩ := hp
  have hwm : Z.Warmed39 U.vm := wtrans (s := K.2.2.1.setVm vm0) hZ X.warmed
  have hC := CHv.at X hZ hEL H
  have here : At U g.method c K.2.2.2.2.2.1 := by rw [hg]; exact X.here
  obtain ⟨my, methY, cY, hny, hmY, hcY, -, hlY, -⟩ := Cond.codeWith_spec (show (Cond.codeWith y bytes maxL rt hs).before a U = true from mv hwm wc)
  cases hn.symm.trans hny
  obtain ⟨kY, hkY, -⟩ := className_of_methodNamed hn
  have hpre : (head1 [Cond.codeWith y bytes maxL rt hs] rm).pre.before a U = true := by show (Cond.and _ .tt).before a U = true; rw [Cond.before_and, mv hwm wc]; rfl
  have happ := Spec.appliesLoose_calling (S := head1 [Cond.codeWith y bytes maxL rt hs] rm) (args := a) here hdg hn hkY (Cond.initialized_spec (findClass_of_methodNamed hn) hkY (show (Cond.initialized y.cls).before a U = true from mv hwm wz)) (X.room_calling (g := g) (R' := rm) (args' := a) hsize hmY hcY hf (by rw [hlY]; omega) hkc hks) hpre
  obtain ⟨mid, hmid⟩ := here.above
  have hfr : (U.setTop g).frames = (.java g :: mid) ++ K.2.2.2.2.2.1 := by rw [State.frames_setTop' g here.top, hmid]; rfl
  obtain ⟨o, t, hsteps, -, hend, v, L, so, rfl, q1, q2, q3, q4, q5⟩ := Steps.callFree C K.1 X.admits X.cas X.clock (acts := []) hfr happ ⟨rfl, hwm, hh, hC.1, fun x q => ⟨hC.safe (hsafe x q).2 (hsafe x q).1, (hsafe x q).2⟩⟩ trivial
  have ke0 := keep_of (ws := wsc) q5.2.2.2 (fun x q => q3 x q)
  have ke : Keep U.heap t.heap wsc := ke0
  have q2' : ∀ x ∈ so, Safe Z EL t.vm t.heap x ∧ U.heap.size ≤ x ∧ x < t.heap.size := q2
  have q3' : ∀ x ∈ L, x.base ∈ wsc ∨ U.heap.size ≤ x.base := q3
  have q4' : CHr Z EL U.vm U.heap t.vm t.heap := q4
  obtain ⟨-, hW2, hB2, e2, r2, r3, r4, r5, r6⟩ := q5
  have hWU : U.Warmed39 t.vm := hW2
  rw [State.frames_setTop' g here.top] at hend
  obtain ⟨c2, i2, len2, hc2, hd2, hf2⟩ := hend
  have hcc : c2 = c := by
    have z : t.code? g.method = U.code? g.method := by rw [State.code?_eq, State.code?_eq, hWU.alike.method?]
    exact Option.some.inj (hc2.symm.trans (z.trans here.code))
  subst hcc
  have hlen : len2 = len := by rw [hdg] at hd2; cases hd2; rfl
  subst hlen
  have home := homeAs here.top e2 hf2
  have hsame : U.sameButNew ({ U with heap := t.heap, slotsUsed := t.slotsUsed } : State) L rm.cells rm.slots := by
    refine ⟨?_, r2, r3, r4, r5, r6⟩
    obtain ⟨g0, hg0⟩ := Option.isSome_iff_exists.mp here.top
    obtain ⟨r, hr⟩ := State.topJava?_eq_some.mp hg0
    obtain ⟨u, hu, -⟩ := State.frames_cons hr
    show ({ U with heap := t.heap, slotsUsed := t.slotsUsed } : State) = { U.setFrames U.frames with heap := t.heap, slotsUsed := t.slotsUsed }
    rw [State.setFrames_self hu]
  subst hg
  obtain ⟨X2, hS2⟩ := X.movedW (T₂ := (({ U with heap := t.heap, slotsUsed := t.slotsUsed } : State).setVm t.vm)) ((X.here.setHeapUsed t.heap t.slotsUsed).setVm hWU.alike) X.tail rfl rfl hWU hB2 hsame
  rw [hh] at ke q2' q3' q4'
  refine ⟨v, ⟨(({ U with heap := t.heap, slotsUsed := t.slotsUsed } : State).setVm t.vm), L0 ++ L, c0 + rm.cells, s0 + rm.slots⟩, X2, hS2, r2, ⟨L, so, q1, q2', q3', ke, rfl, rfl, rfl, hC.trans q4'⟩, ?_⟩
  show Steps K.1.tables K.2.1 K.2.2.2.2.2.1 _ ((({ U with heap := t.heap, slotsUsed := t.slotsUsed } : State).setVm t.vm).setTop _)
  rw [← home]; exact hsteps
theorem wStaticW (W : Wk l Z EL own nm cd ml ret R ws h0 K sf T h cells slots) {y : MethodName} {index : Nat} (hd : decode cd pc = .ok (.invokestatic index, 3)) (w1 : (Cond.methodLink own index y).before a0 Z = true) (w2 : (Cond.static y).before a0 Z = true) (wz : (Cond.initialized y.cls).before a0 Z = true) {bytes : ByteArray} {maxL : Nat} {rt : Option FieldType} {hs' : List (Nat × Nat × Nat × Nat)} (wc : (Cond.codeWith y bytes maxL rt hs').before a0 Z = true) (hy : y.cls ≠ "java/lang/invoke/MethodHandle" ∧ y.cls ≠ "java/lang/invoke/VarHandle")
    {Wd kc ks : Nat} {argsL rest : List Value} {wsc : List Addr} {Q : Option Value → Heap → List Addr → Prop} (C : Cb l Z EL R K y 3 Wd kc ks argsL.toArray h wsc Q) (hws : ∀ x ∈ wsc, x ∈ sf) (hsz : ls.size = ml) (hlen : ∀ sig, parseMethodDescriptor y.desc = some sig → argsL.length = sig.parameters.length) (hst : st = argsL.reverse ++ rest) (hW : (rest.map fun v => v.category).sum ≤ Wd) (hc' : cells + kc ≤ R.cells) (hl' : slots + ks ≤ R.slots) (hp : pc + 3 = pc')
    (k : ∀ v so T' h', Wk l Z EL own nm cd ml ret R ws h0 K (so ++ sf) T' h' (cells + kc) (slots + ks) → Keep h h' wsc → (∀ x ∈ so, h.size ≤ x ∧ x < h'.size) → Q v h' so → Go K P T' pc' ls (v.toList ++ rest)) : Go K P T pc ls st := by
  obtain ⟨vm0, locs, k0, X, e, hx, hc, e0, hZ, hown, hS, hk, hL, hC, hO, hE, hw, hz, hs⟩ := W
  subst hp
  obtain ⟨mk, methM, cM, hnamed, hmethM, -, -, -, -, -, -, hsig⟩ := Cond.codeWith_spec (show (Cond.codeWith y bytes maxL rt hs').before #[] (K.2.2.1.setVm vm0) = true from mvT hZ wc)
  obtain ⟨v, vm₁, B, -, X', hS', hgr, ⟨L, so, q1, q2, q3, q4, q5, q6, q7, q8⟩, f⟩ := X.staticBackS hx (y := y) hown (mvT hZ w1) (mvT hZ w2) (mvT hZ wz) hnamed hmethM hsig hy (C vm0 hZ hC.1 fun x q => ⟨(hs x (hws x q)).1, (hs x (hws x q)).2.1⟩) (g := mkF K.2.2.2.1 pc ls st) rfl (hsz.trans hc.2.1.symm) (Steps.refl _) hlen hst (by show 2 * 0 + _ ≤ _; omega) (hb hc.1 hd) (fun _ _ => ⟨rfl, e, hc', hl'⟩)
  obtain ⟨X2, hS2, hZ2, hown2⟩ := rebS (Z := Z) (own := own) (n1 := h.size) hS hk X' hS' (by rw [← e]; exact hgr) hZ hown
  obtain ⟨a1, a2, a3, a4⟩ := wAfter (s := K.2.2.1) hC hs hL hO hw hz hws q2 q3 q4 q8
  rw [q5, q6, q7] at X2
  obtain ⟨o, U, r, q⟩ := k v so B.U B.U.heap ⟨B.U.vm, _, _, X2, rfl, hx, hc, e0, hZ2, hown2, hS2, Nat.le_refl _, a3, a1, a4, hE, hw, hz, a2⟩ q4 (fun x z => ⟨(q2 x z).2.1, (q2 x z).2.2⟩) q1
  exact ⟨o, U, f.trans r, q⟩
theorem litExa {vm : Vm} {u : Array UInt16} {a b : Addr} (hal : Z.vm.Alike vm) (S : SlOf (Wst Z vm h) a u) (F : Fld Z h a "java/lang/String" "value" "[B" (.ref b)) : Exa Z h b "[B" := by
  obtain ⟨q, cS, rfl, ⟨⟨s1, s2, s3, ⟨cv, kv, iv, s4, s4'⟩, -, s6, s7, s8, s9, s10, s11, -⟩, -⟩, -, hB, -⟩ := S
  obtain ⟨kv', z4⟩ := ff_back (U := Wst Z vm h) hal s4
  obtain ⟨cell, cf, k, i, f, f1, f2, -, -, -, -, f7⟩ := F
  have e1 : cell = q.sC := Option.some.inj (f1.symm.trans s1)
  subst e1
  cases f2.symm.trans z4
  have e2 : Value.ref b = Value.ref q.sd := Option.some.inj (f7.symm.trans s8)
  injection e2 with e2
  subst e2
  have hBZ : Z.vm.findClass "[B" = some q.SA.cls := by rw [← hal.findClass]; exact hB
  obtain ⟨kb, hkb, -⟩ := Vm.findClass_spec hBZ
  obtain ⟨kb', hkb', ekb⟩ := hal.2.2 _ _ hkb
  obtain ⟨hst, k9, hk9, comp, hkind9⟩ := s11
  have ek9 : k9 = kb' := Option.some.inj (hk9.symm.trans hkb')
  refine ⟨q.SA, kb, s10, hBZ, hkb, ?_, fun ho => ?_⟩
  · cases hv : q.SA.vm <;> first | rfl | exact absurd hv (hst _)
  · rw [ek9, ekb] at hkind9
    have : kb.kind = .array comp .byte := hkind9
    rw [ho] at this; cases this
theorem wLdcE (W : Wk l Z EL own nm cd ml ret R ws h0 K sf T h cells slots) {text : String} {index : Nat} (hd : decode cd pc = .ok (.ldc index, 2)) (w : (Cond.stringLink own index text).before a0 Z = true) (wS : ∀ a ∈ Bundle.stringAtoms, a.before a0 Z = true) (hEL : EW Z a0 EL) (hmem : (own, index) ∈ EL)
    {vs : List Value} {z : Int32} (ht : (∀ c ∈ text.toList, c.toNat < 256) ∧ text.toList.map (fun c => Value.int (Jvm.Lit.byteI c.toNat.toUInt16)) = vs) (hz' : ¬ z < 0) (hl : z.toNatClampNeg = vs.length) {n : Nat} (hn : 4 * text.toList.length ≤ n) (hbig : n ≤ 536870912) (hc' : cells + 2 ≤ R.cells) (hl' : slots + (n + 4) ≤ R.slots) (hp : pc + 2 = pc')
    (k : ∀ T' h' a b kb, Wk l Z EL own nm cd ml ret R ws h0 K sf T' h' (cells + 2) (slots + (n + 4)) → Ext h h' → Exa Z h' a "java/lang/String" → Fld Z h' a "java/lang/String" "coder" "B" (.int 0) → Fld Z h' a "java/lang/String" "value" "[B" (.ref b) → Arv Z h' b kb .byte z vs (.int 0) → (∀ x ∈ sf, x ≠ a ∧ x ≠ b) → Exa Z h' b "[B" → Go K P T' pc' ls (.ref a :: st)) : Go K P T pc ls st := by
  obtain ⟨vm0, locs, k0, X, e, hx, hc, e0, hZ, hown, hS, hk, hL, hC, hO, hE, hw, hz, hs⟩ := W
  subst hp
  obtain ⟨a, T', h', k1, b, kb, X', e', E, hS', hk', hW', hown', A, F1, F2, A2, -, -, hC', hLit, hne, f⟩ := ldcCH X hx hZ hown w wS e hS hk hEL hmem hC.1 ht hz' hl (g := mkF K.2.2.2.1 pc ls st) rfl (hb hc.1 hd) hn hbig hc' hl'
  have hs' : ∀ x ∈ sf, Safe Z EL T'.vm h' x ∧ x < h'.size ∧ (x ∈ ws ∨ h0.size ≤ x) := fun x q => ⟨hC'.safe (hs x q).2.1 (hs x q).1, Nat.lt_of_lt_of_le (hs x q).2.1 E.1, (hs x q).2.2⟩
  have hW2 : Z.Warmed39 T'.vm := hW'
  have hf2 : T'.vm.findClass own = some K.2.2.2.1.cls := hown'
  have w2 : (Cond.stringLink own index text).before a0 (Wst Z T'.vm h') = true := mvS (s := { Z with heap := h' }) hW2 w
  obtain ⟨ko, cf, i, units, hkx, hcf, hpp, hu, -⟩ := Cond.stringLink_spec (s := Wst Z T'.vm h') hf2 w2
  have hres : ko.resolved[index]? = some (some (.string a)) := by
    have q : (K.2.2.1.setVm T'.vm).resolvedAt? own index = some (.string a) := hLit
    have hkx' : T'.vm.classes[K.2.2.2.1.cls]? = some ko := hkx
    simp [State.resolvedAt?, hf2, hkx'] at q
    cases hr : ko.resolved[index]? with
    | none => rw [hr] at q; cases q
    | some o => rw [hr] at q; cases o with
      | none => cases q
      | some r => simpa using q
  have EB := litExa hW2.alike (hC'.1 _ hmem units a ⟨_, ko, cf, i, hf2, hkx, hcf, hpp, hu, Or.inl hres⟩) F2
  exact Go.stp f (k T' h' a b kb ⟨T'.vm, locs, k1, X', e', hx, hc, e0, hW', hown', hS', hk', hL, hC.trans hC', hO.ext E, hE, hw, hz, hs'⟩ E A F1 F2 A2 (fun x q => hne x (hs' x q).1) EB)
end B64
end Jvm.Own

namespace Jvm.Pilot.@@N@@
open Jvm Jvm.ClassFile Sem Op Lib Jvm.Free Jvm.Stand Jvm.LawKit Jvm.RoadKit Bundle Jvm.Own Jvm.Pilot.@@N@@.Jvm.D
theorem owS {a0 : Array Value} {Z : State} (hw : ∀ d ∈ tables_1, d.before a0 Z = true) : ∀ a ∈ Bundle.stringAtoms, a.before a0 Z = true := fun d hd => hw d ((by decide +kernel : ∀ d ∈ Bundle.stringAtoms, d ∈ tables_1) d hd)
theorem hws' {a0 : Array Value} {Z : State} (hw : ∀ d ∈ tables_1, d.before a0 Z = true) : (Jvm.Cond.instantiable "java/lang/String" 4).before a0 Z = true := owS hw _ (by simp [Bundle.stringAtoms, Bundle.sN])
theorem ofNat_toInt {i : Nat} (h : i < 2 ^ 31) : (Int32.ofNat i).toInt = i := Int32.toInt_ofNat_small h
theorem ofNat_nn {i : Nat} (h : i < 2 ^ 31) : ¬ Int32.ofNat i < 0 := by
  rw [lt_i, ofNat_toInt h]; have : (0 : Int32).toInt = 0 := by decide
  omega
theorem ofNat_lt {i j : Nat} (hi : i < 2 ^ 31) (hj : j < 2 ^ 31) : Int32.ofNat i < Int32.ofNat j ↔ i < j := by rw [lt_i, ofNat_toInt hi, ofNat_toInt hj]; omega
theorem lt_big {n : Nat} (h : n ≤ 4000) : Int32.ofNat n < 1073741823 := by
  rw [lt_i, ofNat_toInt (by omega)]
  have q : (1073741823 : Int32).toInt = 1073741823 := by decide
  omega
theorem ofNat_ne0 {n : Nat} (h0 : 0 < n) (h : n ≤ 4000) : ¬ Int32.ofNat n = 0 := fun e => by
  have q := congrArg Int32.toInt e
  rw [ofNat_toInt (by omega)] at q
  have z : (0 : Int32).toInt = 0 := by decide
  omega
theorem ofNat_clamp {i : Nat} (h : i < 2 ^ 31) : (Int32.ofNat i).toNatClampNeg = i := by rw [Int32.toNatClampNeg, ofNat_toInt h]; omega
theorem ofNat_succ {i : Nat} (h : i + 1 < 2 ^ 31) : Int32.ofNat i + Int32.ofInt 1 = Int32.ofNat (i + 1) := by
  apply Int32.toInt_inj.mp
  have q := c_iadd (Int32.ofNat i) (Int32.ofInt 1)
  have r := rng32 (Int32.ofNat i + Int32.ofInt 1)
  have e : (Int32.ofInt 1).toInt = 1 := by decide
  rw [ofNat_toInt (by omega), e] at q
  rw [ofNat_toInt h]; omega
theorem ofNat_inb {i n : Nat} (h : i < n) (hn : n < 2 ^ 31) : ¬ Int32.ofNat i < 0 ∧ Int32.ofNat i < Int32.ofNat n := ⟨ofNat_nn (by omega), (ofNat_lt (by omega) hn).mpr h⟩
theorem shl1 {i : Nat} (h : 2 * i < 2 ^ 31) : Int32.ofNat i <<< ((1 : Int32) &&& 31) = Int32.ofNat (2 * i) := by
  apply Int32.toInt_inj.mp
  have q := c_ishl (Int32.ofNat i) 1 1 (by decide)
  have r := rng32 (Int32.ofNat i <<< ((1 : Int32) &&& 31))
  rw [ofNat_toInt (by omega)] at q
  rw [ofNat_toInt h]; omega
theorem coder1 {n : Nat} (h0 : 0 < n) (hn : n ≤ 4000) {d q : Int32} (e : Int32.ofNat n - Int32.ofNat (2 * n) = d) (e2 : (d.toUInt32 >>> ((31 : Int32) &&& 31).toUInt32).toInt32 = q) : q.toInt8.toInt32 = 1 := by
  subst e
  have s := c_isub (Int32.ofNat n) (Int32.ofNat (2 * n))
  have r := rng32 (Int32.ofNat n - Int32.ofNat (2 * n))
  rw [ofNat_toInt (by omega), ofNat_toInt (by omega)] at s
  have u := c_iushr (Int32.ofNat n - Int32.ofNat (2 * n)) 31 31 (by decide) (by decide)
  rw [e2] at u
  have hq : q.toInt = 1 := by rw [u]; simp only [Nat.reducePow]; omega
  have : q = 1 := i32_of 1 (by decide) hq
  rw [this]; decide
theorem set_get {vs : List Value} {i j : Nat} {v d : Value} : (vs.set i v).getD j d = if i = j ∧ i < vs.length then v else vs.getD j d := by
  simp only [List.getD_eq_getElem?_getD, List.getElem?_set]
  by_cases h : i = j
  · subst h; by_cases h2 : i < vs.length <;> simp [h2]
  · simp [h]
theorem map_getD (cs : List Int32) (i : Nat) (h : i < cs.length) (d : Value) : (cs.map Value.int).getD i d = .int (cs.getD i 0) := by
  simp [List.getD_eq_getElem?_getD, h]
theorem rep_get {n : Nat} (j : Nat) : (List.replicate n (Value.int 0)).getD j (.int 0) = .int 0 := by
  by_cases h : j < n <;> simp [List.getD_eq_getElem?_getD, h]
/-- a char -/
theorem ofNat_pred {n m : Nat} (h : m + 1 = n) (hn : n < 2 ^ 31) : Int32.ofNat n + Int32.ofInt (-1) = Int32.ofNat m := by
  subst h
  apply Int32.toInt_inj.mp
  rw [Int32.toInt_add, ofNat_toInt hn, ofNat_toInt (by omega)]
  have e : (Int32.ofInt (-1)).toInt = -1 := by decide
  rw [e, Int.bmod_def]; simp only [Nat.reducePow]; split <;> omega
theorem byte_id {k : Nat} (h : k ≤ 127) : (Int32.ofNat k).toInt8.toInt32 = Int32.ofNat k := by
  apply Int32.toInt_inj.mp
  rw [Int8.toInt_toInt32, Int32.toInt_toInt8, ofNat_toInt (by omega), Int.bmod_def]; simp only [Nat.reducePow]; split <;> omega
theorem shr0' (x : Int32) : x >>> ((0 : Int32) &&& 31) = x := by simp
theorem shl0' (x : Int32) : x <<< ((0 : Int32) &&& 31) = x := by simp
theorem ofNat_add {a b : Nat} : Int32.ofNat a + Int32.ofNat b = Int32.ofNat (a + b) := by rw [Int32.ofNat_add]
theorem ofNat_inj {a b : Nat} (ha : a < 2 ^ 31) (hb : b < 2 ^ 31) (h : Int32.ofNat a = Int32.ofNat b) : a = b := by
  have q := congrArg Int32.toInt h
  rw [ofNat_toInt ha, ofNat_toInt hb] at q
  omega
theorem ofNat_ltc {i P : Nat} {c : Int32} (hc : c.toInt = P) (hi : i < 2 ^ 31) : Int32.ofNat i < c ↔ i < P := by rw [lt_i, hc, ofNat_toInt hi]; omega
theorem ltc_ofNat {i P : Nat} {c : Int32} (hc : c.toInt = P) (hi : i < 2 ^ 31) : c < Int32.ofNat i ↔ P < i := by rw [lt_i, hc, ofNat_toInt hi]; omega
theorem ofNat_ne {n : Nat} (h0 : 0 < n) (h : n < 2 ^ 31) : ¬ Int32.ofNat n = 0 := fun e => by
  have q := congrArg Int32.toInt e
  rw [ofNat_toInt h] at q
  have z : (0 : Int32).toInt = 0 := by decide
  omega
theorem natOf {r : Int32} {d : Nat} (h : 0 ≤ r.toInt ∧ r.toInt < d) : ∃ n : Nat, n < d ∧ r = Int32.ofNat n := by
  have q := rng32 r
  refine ⟨r.toInt.toNat, by omega, ?_⟩
  apply Int32.toInt_inj.mp
  rw [ofNat_toInt (by omega)]; omega
theorem b8_of {c : Nat} (h : c ≤ 127) : B8 (Int32.ofNat c) := B8.of (by rw [ofNat_toInt (by omega)]; omega)

abbrev PSC (Z : State) (z : Int32) : Prop := Sta Z Z.heap "java/lang/String" "COMPACT_STRINGS" "Z" (.int z)
abbrev PSF (Z : State) (fm : Value) : Prop := Sta Z Z.heap "jdk/internal/util/Preconditions" "SIOOBE_FORMATTER" "Ljava/util/function/BiFunction;" fm
abbrev PSI (Z : State) (a : Addr) : Prop := Sta Z Z.heap "sun/nio/cs/ISO_8859_1" "INSTANCE" "Lsun/nio/cs/ISO_8859_1;" (.ref a)
abbrev PSU (Z : State) (a : Addr) : Prop := Sta Z Z.heap "sun/nio/cs/UTF_8" "INSTANCE" "Lsun/nio/cs/UTF_8;" (.ref a)
abbrev PSD (Z : State) (a : Addr) : Prop := Sta Z Z.heap "java/util/Base64$Decoder" "RFC4648" "Ljava/util/Base64$Decoder;" (.ref a)
abbrev PDE (Z : State) (a : Addr) : Prop := Exa Z Z.heap a "java/util/Base64$Decoder"
abbrev PDU (Z : State) (a : Addr) : Prop := Fld Z Z.heap a "java/util/Base64$Decoder" "isURL" "Z" (.int 0)
abbrev PDM (Z : State) (a : Addr) : Prop := Fld Z Z.heap a "java/util/Base64$Decoder" "isMIME" "Z" (.int 0)
abbrev PTS (Z : State) (a : Addr) : Prop := Sta Z Z.heap "java/util/Base64$Decoder" "fromBase64" "[I" (.ref a)
def sb (x : Nat) : Int32 := (Int32.ofNat x).toInt8.toInt32
def vv (a b c : Nat) : Nat := a * 65536 + b * 256 + c
def sx0 (v : Nat) : Nat := v / 262144 % 64
def sx1 (v : Nat) : Nat := v / 4096 % 64
def sx2 (v : Nat) : Nat := v / 64 % 64
def sx3 (v : Nat) : Nat := v % 64
theorem sx0_lt (v : Nat) : sx0 v < 64 := Nat.mod_lt _ (by decide)
theorem sx1_lt (v : Nat) : sx1 v < 64 := Nat.mod_lt _ (by decide)
theorem sx2_lt (v : Nat) : sx2 v < 64 := Nat.mod_lt _ (by decide)
theorem sx3_lt (v : Nat) : sx3 v < 64 := Nat.mod_lt _ (by decide)
theorem vv_lt {a b c : Nat} (ha : a < 256) (hb : b < 256) (hc : c < 256) : vv a b c < 16777216 := by unfold vv; omega
def symN (s : Nat) : Nat := if s < 26 then 65 + s else if s < 52 then 97 + (s - 26) else if s < 62 then 48 + (s - 52) else if s = 62 then 43 else 47
theorem symN_le (s : Nat) : symN s ≤ 127 := by unfold symN; split; omega; split; omega; split; omega; split <;> omega
theorem symN_61 {s : Nat} : symN s ≠ 61 := by unfold symN; split; omega; split; omega; split; omega; split <;> omega
theorem symN_inj : ∀ a, a < 64 → ∀ b, b < 64 → symN a = symN b → a = b := by decide +kernel
theorem sb_and {x : Nat} (hx : x < 256) : sb x &&& 255 = Int32.ofNat x := by
  apply Int32.toInt_inj.mp
  have q := c_i2b (Int32.ofNat x)
  rw [ofNat_toInt (by omega)] at q
  rw [c_mask (sb x) 255 8 (by decide) (by decide), ofNat_toInt (by omega)]; unfold sb; simp only [Nat.reducePow]; omega
theorem sb_idem (x : Nat) : (sb x).toInt8.toInt32 = sb x := by
  unfold sb
  have q1 := c_i2b (Int32.ofNat x)
  have q2 := c_i2b (Int32.ofNat x).toInt8.toInt32
  apply Int32.toInt_inj.mp; omega
theorem sb_mod {a b : Nat} (h : a % 256 = b % 256) (ha : a < 2 ^ 31) (hb : b < 2 ^ 31) : sb a = sb b := by
  unfold sb
  have q1 := c_i2b (Int32.ofNat a)
  have q2 := c_i2b (Int32.ofNat b)
  rw [ofNat_toInt ha] at q1
  rw [ofNat_toInt hb] at q2
  apply Int32.toInt_inj.mp; omega
theorem i2b_ex {v w : Int32} (e : v.toInt8.toInt32 = w) : ∃ x : Nat, x < 256 ∧ w = sb x := by
  subst e
  refine ⟨(v.toInt % 256).toNat, by omega, ?_⟩
  unfold sb
  have q1 := c_i2b v
  have q2 := c_i2b (Int32.ofNat (v.toInt % 256).toNat)
  rw [ofNat_toInt (by omega)] at q2
  apply Int32.toInt_inj.mp; omega
theorem subc {s c : Nat} (h : c ≤ s) (hs : s < 2 ^ 31) : Int32.ofNat s - Int32.ofNat c = Int32.ofNat (s - c) := by
  apply Int32.toInt_inj.mp
  rw [Int32.toInt_sub, ofNat_toInt hs, ofNat_toInt (by omega), ofNat_toInt (by omega), Int.bmod_def]; simp only [Nat.reducePow]; split <;> omega
theorem addc {a b : Nat} (h : a + b < 2 ^ 31) : Int32.ofNat a + Int32.ofNat b = Int32.ofNat (a + b) := ofNat_add
theorem shlN {x P k : Nat} {c : Int32} (hc : c.toBitVec.toNat % 32 = k) (hP : 2 ^ k = P) (h : x * P < 2 ^ 31) : Int32.ofNat x <<< (c &&& 31) = Int32.ofNat (x * P) := by
  have hP0 : 0 < P := by rw [← hP]; exact Nat.two_pow_pos k
  have hx : x < 2 ^ 31 := Nat.lt_of_le_of_lt (Nat.le_mul_of_pos_right x hP0) h
  apply Int32.toInt_inj.mp
  have q := c_ishl (Int32.ofNat x) c k hc
  have r := rng32 (Int32.ofNat x <<< (c &&& 31))
  rw [ofNat_toInt hx, hP] at q
  rw [ofNat_toInt h]
  have e : ((x * P : Nat) : Int) = (x : Int) * (P : Int) := Int.natCast_mul x P
  rw [← e] at q
  omega
theorem orN {a b P k : Nat} (hk : k ≤ 31) (hP : 2 ^ k = P) (ha : a % P = 0) (hb : b < P) (h : a + b < 2 ^ 31) : Int32.ofNat a ||| Int32.ofNat b = Int32.ofNat (a + b) := by
  apply Int32.toInt_inj.mp
  have q := c_or (Int32.ofNat a) (Int32.ofNat b) k hk (P : Int) (by rw [hP]) (by rw [ofNat_toInt (by omega)]; omega) (by rw [ofNat_toInt (by omega)]; omega) (by rw [ofNat_toInt (by omega)]; omega)
  have r := rng32 (Int32.ofNat a ||| Int32.ofNat b)
  rw [ofNat_toInt (by omega), ofNat_toInt (by omega)] at q
  rw [ofNat_toInt h]; omega
theorem ushrN {n P k : Nat} {c : Int32} (hc : c.toBitVec.toNat % 32 = k) (hk : 0 < k) (hP : 2 ^ k = P) (hn : n < 2 ^ 31) : ((Int32.ofNat n).toUInt32 >>> (c &&& 31).toUInt32).toInt32 = Int32.ofNat (n / P) := by
  apply Int32.toInt_inj.mp
  rw [c_iushr (Int32.ofNat n) c k hc hk, ofNat_toInt hn, ofNat_toInt (Nat.lt_of_le_of_lt (Nat.div_le_self _ _) hn), hP, Int.emod_eq_of_lt (by omega) (by omega)]; rfl
theorem shrN {n P k : Nat} {c : Int32} (hc : c.toBitVec.toNat % 32 = k) (hP : 2 ^ k = P) (hn : n < 2 ^ 31) : Int32.ofNat n >>> (c &&& 31) = Int32.ofNat (n / P) := by
  apply Int32.toInt_inj.mp
  rw [c_ishr (Int32.ofNat n) c k hc, ofNat_toInt hn, ofNat_toInt (Nat.lt_of_le_of_lt (Nat.div_le_self _ _) hn), hP]; rfl
theorem maskN {n P k : Nat} {c : Int32} (hk : k ≤ 31) (hc : c.toBitVec.toNat = 2 ^ k - 1) (hP : 2 ^ k = P) (hn : n < 2 ^ 31) : Int32.ofNat n &&& c = Int32.ofNat (n % P) := by
  apply Int32.toInt_inj.mp
  rw [c_mask (Int32.ofNat n) c k hk hc, ofNat_toInt hn, ofNat_toInt (Nat.lt_of_le_of_lt (Nat.mod_le _ _) hn), hP]; rfl
theorem zor (x : Int32) : (0 : Int32) ||| x = x := Int32.zero_or
theorem or18 (v : Nat) : Int32.ofNat (sx0 v * 262144) ||| Int32.ofNat (sx1 v * 4096) = Int32.ofNat (sx0 v * 262144 + sx1 v * 4096) :=
  orN (k := 18) (P := 262144) (by decide) (by decide) (by omega) (by have := sx1_lt v; omega) (by have := sx0_lt v; have := sx1_lt v; omega)
theorem or12 (v : Nat) : Int32.ofNat (sx0 v * 262144 + sx1 v * 4096) ||| Int32.ofNat (sx2 v * 64) = Int32.ofNat (sx0 v * 262144 + sx1 v * 4096 + sx2 v * 64) :=
  orN (k := 12) (P := 4096) (by decide) (by decide) (by omega) (by have := sx2_lt v; omega) (by have := sx0_lt v; have := sx1_lt v; have := sx2_lt v; omega)
theorem or6 {v : Nat} (hv : v < 16777216) : Int32.ofNat (sx0 v * 262144 + sx1 v * 4096 + sx2 v * 64) ||| Int32.ofNat (sx3 v) = Int32.ofNat v := by
  rw [orN (k := 6) (P := 64) (by decide) (by decide) (by omega) (sx3_lt v) (by have := sx0_lt v; have := sx1_lt v; have := sx2_lt v; have := sx3_lt v; omega)]
  congr 1; unfold sx0 sx1 sx2 sx3; omega
theorem or18z (v : Nat) (hv : v < 16777216) (hz : v % 65536 = 0) : Int32.ofNat (sx0 v * 262144) ||| Int32.ofNat (sx1 v * 4096) = Int32.ofNat v := by
  rw [or18]; congr 1; unfold sx0 sx1; omega
theorem or12z (v : Nat) (hv : v < 16777216) (hz : v % 256 = 0) : Int32.ofNat (sx0 v * 262144 + sx1 v * 4096) ||| Int32.ofNat (sx2 v * 64) = Int32.ofNat v := by
  rw [or12]; congr 1; unfold sx0 sx1 sx2; omega
theorem canon2 {v : Nat} (hz : v % 65536 = 0) : Int32.ofNat (sx1 v) &&& 15 = 0 := by
  rw [maskN (k := 4) (P := 16) (by decide) (by decide) (by decide) (Nat.lt_trans (sx1_lt v) (by decide)), show sx1 v % 16 = 0 from by unfold sx1; omega]; rfl
theorem canon1 {v : Nat} (hz : v % 256 = 0) : Int32.ofNat (sx2 v) &&& 3 = 0 := by
  rw [maskN (k := 2) (P := 4) (by decide) (by decide) (by decide) (Nat.lt_trans (sx2_lt v) (by decide)), show sx2 v % 4 = 0 from by unfold sx2; omega]; rfl
theorem or4_nn {a b c d : Nat} (ha : a < 2 ^ 31) (hb : b < 2 ^ 31) (hc : c < 2 ^ 31) (hd : d < 2 ^ 31) : ¬ (((Int32.ofNat a ||| Int32.ofNat b) ||| Int32.ofNat c) ||| Int32.ofNat d) < 0 := by
  have h1 := (c_orS (Int32.ofNat a) (Int32.ofNat b)).1 (by rw [ofNat_toInt ha]; omega) (by rw [ofNat_toInt hb]; omega)
  have h2 := (c_orS (Int32.ofNat a ||| Int32.ofNat b) (Int32.ofNat c)).1 h1 (by rw [ofNat_toInt hc]; omega)
  have h3 := (c_orS ((Int32.ofNat a ||| Int32.ofNat b) ||| Int32.ofNat c) (Int32.ofNat d)).1 h2 (by rw [ofNat_toInt hd]; omega)
  rw [lt_i, show (0 : Int32).toInt = 0 from by decide]; omega
theorem or4_neg {x d : Int32} (hd : d.toInt < 0) : (x ||| d) < 0 := by
  have h := (c_orS x d).2.2 hd
  rw [lt_i, show (0 : Int32).toInt = 0 from by decide]; exact h
def tab : List Value := [.int (-1), .int (-1), .int (-1), .int (-1), .int (-1), .int (-1), .int (-1), .int (-1), .int (-1), .int (-1), .int (-1), .int (-1), .int (-1), .int (-1), .int (-1), .int (-1), .int (-1), .int (-1), .int (-1), .int (-1), .int (-1), .int (-1), .int (-1), .int (-1), .int (-1), .int (-1), .int (-1), .int (-1), .int (-1), .int (-1), .int (-1), .int (-1), .int (-1), .int (-1), .int (-1), .int (-1), .int (-1), .int (-1), .int (-1), .int (-1), .int (-1), .int (-1), .int (-1), .int 62, .int (-1), .int (-1), .int (-1), .int 63, .int 52, .int 53, .int 54, .int 55, .int 56, .int 57, .int 58, .int 59, .int 60, .int 61, .int (-1), .int (-1), .int (-1), .int (-2), .int (-1), .int (-1), .int (-1), .int 0, .int 1, .int 2, .int 3, .int 4, .int 5, .int 6, .int 7, .int 8, .int 9, .int 10, .int 11, .int 12, .int 13, .int 14, .int 15, .int 16, .int 17, .int 18, .int 19, .int 20, .int 21, .int 22, .int 23, .int 24, .int 25, .int (-1), .int (-1), .int (-1), .int (-1), .int (-1), .int (-1), .int 26, .int 27, .int 28, .int 29, .int 30, .int 31, .int 32, .int 33, .int 34, .int 35, .int 36, .int 37, .int 38, .int 39, .int 40, .int 41, .int 42, .int 43, .int 44, .int 45, .int 46, .int 47, .int 48, .int 49, .int 50, .int 51, .int (-1), .int (-1), .int (-1), .int (-1), .int (-1), .int (-1), .int (-1), .int (-1), .int (-1), .int (-1), .int (-1), .int (-1), .int (-1), .int (-1), .int (-1), .int (-1), .int (-1), .int (-1), .int (-1), .int (-1), .int (-1), .int (-1), .int (-1), .int (-1), .int (-1), .int (-1), .int (-1), .int (-1), .int (-1), .int (-1), .int (-1), .int (-1), .int (-1), .int (-1), .int (-1), .int (-1), .int (-1), .int (-1), .int (-1), .int (-1), .int (-1), .int (-1), .int (-1), .int (-1), .int (-1), .int (-1), .int (-1), .int (-1), .int (-1), .int (-1), .int (-1), .int (-1), .int (-1), .int (-1), .int (-1), .int (-1), .int (-1), .int (-1), .int (-1), .int (-1), .int (-1), .int (-1), .int (-1), .int (-1), .int (-1), .int (-1), .int (-1), .int (-1), .int (-1), .int (-1), .int (-1), .int (-1), .int (-1), .int (-1), .int (-1), .int (-1), .int (-1), .int (-1), .int (-1), .int (-1), .int (-1), .int (-1), .int (-1), .int (-1), .int (-1), .int (-1), .int (-1), .int (-1), .int (-1), .int (-1), .int (-1), .int (-1), .int (-1), .int (-1), .int (-1), .int (-1), .int (-1), .int (-1), .int (-1), .int (-1), .int (-1), .int (-1), .int (-1), .int (-1), .int (-1), .int (-1), .int (-1), .int (-1), .int (-1), .int (-1), .int (-1), .int (-1), .int (-1), .int (-1), .int (-1), .int (-1), .int (-1), .int (-1), .int (-1), .int (-1), .int (-1), .int (-1), .int (-1), .int (-1), .int (-1), .int (-1), .int (-1), .int (-1), .int (-1), .int (-1), .int (-1), .int (-1), .int (-1)]
theorem tab_at' : ∀ q, q < 64 → tab.getD (symN q) (.int 0) = .int (Int32.ofNat q) := by decide +kernel
theorem tab_at {q : Nat} (h : q < 64) : tab.getD (symN q) (.int 0) = .int (Int32.ofNat q) := tab_at' q h
abbrev PTA (Z : State) (a : Addr) (k : ClassId) : Prop := Arv Z Z.heap a k .int (256 : Int32) tab (.int 0)
def tx1 (v : Nat) : List Value := [(.int (Int32.ofNat (symN (sx0 v)))), (.int (Int32.ofNat (symN (sx1 v)))), (.int (61 : Int32)), (.int (61 : Int32))]
def tx2 (v : Nat) : List Value := [(.int (Int32.ofNat (symN (sx0 v)))), (.int (Int32.ofNat (symN (sx1 v)))), (.int (Int32.ofNat (symN (sx2 v)))), (.int (61 : Int32))]
def tx3 (v : Nat) : List Value := [(.int (Int32.ofNat (symN (sx0 v)))), (.int (Int32.ofNat (symN (sx1 v)))), (.int (Int32.ofNat (symN (sx2 v)))), (.int (Int32.ofNat (symN (sx3 v))))]
def tx4 (v : Nat) (g : Nat) : List Value := [(.int (Int32.ofNat (symN (sx0 v)))), (.int (Int32.ofNat (symN (sx1 v)))), (.int (Int32.ofNat (symN (sx2 v)))), (.int (Int32.ofNat (symN (sx3 v)))), (.int (Int32.ofNat (symN (sx0 g)))), (.int (Int32.ofNat (symN (sx1 g)))), (.int (61 : Int32)), (.int (61 : Int32))]
def tx5 (v : Nat) (g : Nat) : List Value := [(.int (Int32.ofNat (symN (sx0 v)))), (.int (Int32.ofNat (symN (sx1 v)))), (.int (Int32.ofNat (symN (sx2 v)))), (.int (Int32.ofNat (symN (sx3 v)))), (.int (Int32.ofNat (symN (sx0 g)))), (.int (Int32.ofNat (symN (sx1 g)))), (.int (Int32.ofNat (symN (sx2 g)))), (.int (61 : Int32))]
def tx6 (v : Nat) (g : Nat) : List Value := [(.int (Int32.ofNat (symN (sx0 v)))), (.int (Int32.ofNat (symN (sx1 v)))), (.int (Int32.ofNat (symN (sx2 v)))), (.int (Int32.ofNat (symN (sx3 v)))), (.int (Int32.ofNat (symN (sx0 g)))), (.int (Int32.ofNat (symN (sx1 g)))), (.int (Int32.ofNat (symN (sx2 g)))), (.int (Int32.ofNat (symN (sx3 g))))]
def alph : List Value := [.int 65, .int 66, .int 67, .int 68, .int 69, .int 70, .int 71, .int 72, .int 73, .int 74, .int 75, .int 76, .int 77, .int 78, .int 79, .int 80, .int 81, .int 82, .int 83, .int 84, .int 85, .int 86, .int 87, .int 88, .int 89, .int 90, .int 97, .int 98, .int 99, .int 100, .int 101, .int 102, .int 103, .int 104, .int 105, .int 106, .int 107, .int 108, .int 109, .int 110, .int 111, .int 112, .int 113, .int 114, .int 115, .int 116, .int 117, .int 118, .int 119, .int 120, .int 121, .int 122, .int 48, .int 49, .int 50, .int 51, .int 52, .int 53, .int 54, .int 55, .int 56, .int 57, .int 43, .int 47]
theorem alph_at' : ∀ q, q < 64 → alph.getD q (.int 0) = .int (Int32.ofNat (symN q)) := by decide +kernel
theorem alph_at {q : Nat} (h : q < 64) : alph.getD q (.int 0) = .int (Int32.ofNat (symN q)) := alph_at' q h
abbrev TH (a0 : Array Value) (Z : State) : Prop := ∀ d ∈ tables_1, d.before a0 Z = true
abbrev Bf (a0 : Array Value) (Z : State) (c : Cond) : Prop := c.before a0 Z = true
abbrev Dc (c : ByteArray) (pc : Nat) (i : Instr) (n : Nat) : Prop := ClassFile.decode c pc = .ok (i, n)
abbrev Ol (Z : State) (h : Heap) : Prop := Old Z Z.heap.size h
abbrev aR (a : Addr) : Slot := .val (.ref a)
abbrev aI (n : Int32) : Slot := .val (.int n)
abbrev aU : Slot := .unset
theorem mo {a0 : Array Value} {Z : State} {c : Cond} (i : Nat) (e : tables_1[i]? = some c) (hw : TH a0 Z) : c.before a0 Z = true := hw _ (List.mem_of_getElem? e)
set_option maxRecDepth 65536
set_option maxHeartbeats 40000000
variable {l : Launch} {Z : State} {a0 : Array Value}
abbrev mN0 : MethodName := (⟨"com/example/drafts_under_key/draftsunderkey/crypto/StrictBase64DecodePinLaw", "sym", "(I)C"⟩ : MethodName)
abbrev cN0 := method_5_code
theorem opn0 : plainName "com/example/drafts_under_key/draftsunderkey/crypto/StrictBase64DecodePinLaw" = true := by first | (simp [plainName, overriddenIn]; done) | decide +kernel
theorem d3_0 : Dc cN0 0 (.iload_n 0) 1 := by decide +kernel
theorem d3_1 : Dc cN0 1 (.bipush 26) 2 := by decide +kernel
theorem d3_3 : Dc cN0 3 (.if_icmp .ge 9) 3 := by decide +kernel
theorem d3_6 : Dc cN0 6 (.bipush 65) 2 := by decide +kernel
theorem d3_8 : Dc cN0 8 (.iload_n 0) 1 := by decide +kernel
theorem d3_9 : Dc cN0 9 (.iadd) 1 := by decide +kernel
theorem d3_10 : Dc cN0 10 (.i2c) 1 := by decide +kernel
theorem d3_11 : Dc cN0 11 (.ireturn) 1 := by decide +kernel
theorem d3_12 : Dc cN0 12 (.iload_n 0) 1 := by decide +kernel
theorem d3_13 : Dc cN0 13 (.bipush 52) 2 := by decide +kernel
theorem d3_15 : Dc cN0 15 (.if_icmp .ge 12) 3 := by decide +kernel
theorem d3_18 : Dc cN0 18 (.bipush 97) 2 := by decide +kernel
theorem d3_20 : Dc cN0 20 (.iload_n 0) 1 := by decide +kernel
theorem d3_21 : Dc cN0 21 (.bipush 26) 2 := by decide +kernel
theorem d3_23 : Dc cN0 23 (.isub) 1 := by decide +kernel
theorem d3_24 : Dc cN0 24 (.iadd) 1 := by decide +kernel
theorem d3_25 : Dc cN0 25 (.i2c) 1 := by decide +kernel
theorem d3_26 : Dc cN0 26 (.ireturn) 1 := by decide +kernel
theorem d3_27 : Dc cN0 27 (.iload_n 0) 1 := by decide +kernel
theorem d3_28 : Dc cN0 28 (.bipush 62) 2 := by decide +kernel
theorem d3_30 : Dc cN0 30 (.if_icmp .ge 12) 3 := by decide +kernel
theorem d3_33 : Dc cN0 33 (.bipush 48) 2 := by decide +kernel
theorem d3_35 : Dc cN0 35 (.iload_n 0) 1 := by decide +kernel
theorem d3_36 : Dc cN0 36 (.bipush 52) 2 := by decide +kernel
theorem d3_38 : Dc cN0 38 (.isub) 1 := by decide +kernel
theorem d3_39 : Dc cN0 39 (.iadd) 1 := by decide +kernel
theorem d3_40 : Dc cN0 40 (.i2c) 1 := by decide +kernel
theorem d3_41 : Dc cN0 41 (.ireturn) 1 := by decide +kernel
theorem d3_42 : Dc cN0 42 (.iload_n 0) 1 := by decide +kernel
theorem d3_43 : Dc cN0 43 (.bipush 62) 2 := by decide +kernel
theorem d3_45 : Dc cN0 45 (.if_icmp .ne 6) 3 := by decide +kernel
theorem d3_48 : Dc cN0 48 (.bipush 43) 2 := by decide +kernel
theorem d3_50 : Dc cN0 50 (.ireturn) 1 := by decide +kernel
theorem d3_51 : Dc cN0 51 (.bipush 47) 2 := by decide +kernel
theorem d3_53 : Dc cN0 53 (.ireturn) 1 := by decide +kernel
theorem oef0 (m_ : MethodId) (y0_ : Int32) : (entryFrame m_ #[.int y0_] 1).locals = #[aI y0_] := by first | (simp [entryFrame, argsToLocals, Value.category]; done) | rfl
theorem ob_sy (hw : TH a0 Z) (hE : EW Z a0 consts_1) (s : Nat) (h : Heap) (hO : Ol Z h) (hs : (s < 64)) :
 Ct l Z consts_1 mN0 cN0 1 (some .char) ⟨0, 0, 0, 0⟩ #[.int (Int32.ofNat s)] h [] (fun rv' hp' so' => rv' = some (.int (Int32.ofNat (symN s))) ∧ so' = []) := by
  refine Ct.mk "com/example/drafts_under_key/draftsunderkey/crypto/StrictBase64DecodePinLaw" "sym" rfl rfl (a0 := a0) (plainFor_of_name opn0) hO hE (fun x q => nomatch q) ?_
  intro K T W
  rw [oef0]
  refine gIloadN W d3_0 rfl rfl ?_
  refine gBipush (z := 26) W d3_1 rfl rfl ?_
  by_cases c26 : s < 26
  · refine gIcmpNo W d3_3 (tlt ((ofNat_ltc (P := 26) (by decide) (by omega)).mpr c26)).2.1 rfl ?_
    refine gBipush (z := 65) W d3_6 rfl rfl ?_
    refine gIloadN W d3_8 rfl rfl ?_
    refine gIadd (z := (Int32.ofNat (65 + s))) W d3_9 (addc (a := 65) (by omega)) rfl ?_
    refine gI2C (z := (Int32.ofNat (symN s))) W d3_10 (by rw [show symN s = (65 + s) from by simp only [symN]; rw [if_pos c26]]; exact (b8_of (by omega)).i2c') rfl ?_
    exact wRetI (so := []) (t := .char) W d3_11 (by simp) (by show Value.int (nar .char (Int32.ofNat (symN s))) = _; rw [(b8_of (symN_le s)).nar]) (by decide) (by decide) (fun _ q => nomatch q) ⟨rfl, rfl⟩
  · refine gIcmpYes (pc' := 12) W d3_3 (flt (fun q => c26 ((ofNat_ltc (P := 26) (by decide) (by omega)).mp q))).2.1 (by decide) rfl ?_
    refine gIloadN W d3_12 rfl rfl ?_
    refine gBipush (z := 52) W d3_13 rfl rfl ?_
    by_cases c52 : s < 52
    · refine gIcmpNo W d3_15 (tlt ((ofNat_ltc (P := 52) (by decide) (by omega)).mpr c52)).2.1 rfl ?_
      refine gBipush (z := 97) W d3_18 rfl rfl ?_
      refine gIloadN W d3_20 rfl rfl ?_
      refine gBipush (z := 26) W d3_21 rfl rfl ?_
      refine gIsub (z := (Int32.ofNat (s - 26))) W d3_23 (subc (c := 26) (by omega) (by omega)) rfl ?_
      refine gIadd (z := (Int32.ofNat (97 + (s - 26)))) W d3_24 (addc (a := 97) (by omega)) rfl ?_
      refine gI2C (z := (Int32.ofNat (symN s))) W d3_25 (by rw [show symN s = (97 + (s - 26)) from by simp only [symN]; rw [if_neg c26, if_pos c52]]; exact (b8_of (by omega)).i2c') rfl ?_
      exact wRetI (so := []) (t := .char) W d3_26 (by simp) (by show Value.int (nar .char (Int32.ofNat (symN s))) = _; rw [(b8_of (symN_le s)).nar]) (by decide) (by decide) (fun _ q => nomatch q) ⟨rfl, rfl⟩
    · refine gIcmpYes (pc' := 27) W d3_15 (flt (fun q => c52 ((ofNat_ltc (P := 52) (by decide) (by omega)).mp q))).2.1 (by decide) rfl ?_
      refine gIloadN W d3_27 rfl rfl ?_
      refine gBipush (z := 62) W d3_28 rfl rfl ?_
      by_cases c62 : s < 62
      · refine gIcmpNo W d3_30 (tlt ((ofNat_ltc (P := 62) (by decide) (by omega)).mpr c62)).2.1 rfl ?_
        refine gBipush (z := 48) W d3_33 rfl rfl ?_
        refine gIloadN W d3_35 rfl rfl ?_
        refine gBipush (z := 52) W d3_36 rfl rfl ?_
        refine gIsub (z := (Int32.ofNat (s - 52))) W d3_38 (subc (c := 52) (by omega) (by omega)) rfl ?_
        refine gIadd (z := (Int32.ofNat (48 + (s - 52)))) W d3_39 (addc (a := 48) (by omega)) rfl ?_
        refine gI2C (z := (Int32.ofNat (symN s))) W d3_40 (by rw [show symN s = (48 + (s - 52)) from by simp only [symN]; rw [if_neg c26, if_neg c52, if_pos c62]]; exact (b8_of (by omega)).i2c') rfl ?_
        exact wRetI (so := []) (t := .char) W d3_41 (by simp) (by show Value.int (nar .char (Int32.ofNat (symN s))) = _; rw [(b8_of (symN_le s)).nar]) (by decide) (by decide) (fun _ q => nomatch q) ⟨rfl, rfl⟩
      · refine gIcmpYes (pc' := 42) W d3_30 (flt (fun q => c62 ((ofNat_ltc (P := 62) (by decide) (by omega)).mp q))).2.1 (by decide) rfl ?_
        refine gIloadN W d3_42 rfl rfl ?_
        refine gBipush (z := 62) W d3_43 rfl rfl ?_
        by_cases d62 : s = 62
        · refine gIcmpNo W d3_45 (teq (congrArg Int32.ofNat d62)).2 rfl ?_
          refine gBipush (z := 43) W d3_48 rfl rfl ?_
          refine Go.top (show Value.int 43 = Value.int (Int32.ofNat (symN s)) from by rw [d62]; rfl) ?_
          exact wRetI (so := []) (t := .char) W d3_50 (by simp) (by show Value.int (nar .char (Int32.ofNat (symN s))) = _; rw [(b8_of (symN_le s)).nar]) (by decide) (by decide) (fun _ q => nomatch q) ⟨rfl, rfl⟩
        · refine gIcmpYes (pc' := 51) W d3_45 (feq (fun q => d62 (ofNat_inj (b := 62) (by omega) (by decide) q))).2 (by decide) rfl ?_
          refine gBipush (z := 47) W d3_51 rfl rfl ?_
          refine Go.top (show Value.int 47 = Value.int (Int32.ofNat (symN s)) from by rw [show s = 63 from by omega]; rfl) ?_
          exact wRetI (so := []) (t := .char) W d3_53 (by simp) (by show Value.int (nar .char (Int32.ofNat (symN s))) = _; rw [(b8_of (symN_le s)).nar]) (by decide) (by decide) (fun _ q => nomatch q) ⟨rfl, rfl⟩
abbrev mN1 : MethodName := (⟨"com/example/drafts_under_key/draftsunderkey/crypto/StrictBase64DecodePinLaw", "at", "([BII)I"⟩ : MethodName)
abbrev cN1 := method_3_code
theorem d1_0 : Dc cN1 0 (.iload_n 2) 1 := by decide +kernel
theorem d1_1 : Dc cN1 1 (.iload_n 1) 1 := by decide +kernel
theorem d1_2 : Dc cN1 2 (.if_icmp .ge 13) 3 := by decide +kernel
theorem d1_5 : Dc cN1 5 (.aload_n 0) 1 := by decide +kernel
theorem d1_6 : Dc cN1 6 (.iload_n 2) 1 := by decide +kernel
theorem d1_7 : Dc cN1 7 (.baload) 1 := by decide +kernel
theorem d1_8 : Dc cN1 8 (.sipush 255) 3 := by decide +kernel
theorem d1_11 : Dc cN1 11 (.iand) 1 := by decide +kernel
theorem d1_12 : Dc cN1 12 (.goto 4) 3 := by decide +kernel
theorem d1_16 : Dc cN1 16 (.ireturn) 1 := by decide +kernel
theorem oef1 (m_ : MethodId) (y0_ : Addr) (y1_ : Int32) (y2_ : Int32) : (entryFrame m_ #[.ref y0_, .int y1_, .int y2_] 3).locals = #[aR y0_, aI y1_, aI y2_] := by first | (simp [entryFrame, argsToLocals, Value.category]; done) | rfl
theorem ob_at0 (hw : TH a0 Z) (hE : EW Z a0 consts_1) (e : Addr) (ke : ClassId) (es : List Value) (n x : Nat) (h : Heap) (hO : Ol Z h) (q0 : Arv Z h e ke .byte 6 es (.int 0)) (hin : (0 < n)) (hn : (n ≤ 6)) (hx : (x < 256)) (hex : (es.getD 0 (.int 0) = .int (sb x))) :
 Ct l Z consts_1 mN1 cN1 3 (some .int) ⟨0, 0, 0, 0⟩ #[.ref e, .int (Int32.ofNat n), .int 0] h [] (fun rv' hp' so' => rv' = some (.int (Int32.ofNat x)) ∧ so' = []) := by
  refine Ct.mk "com/example/drafts_under_key/draftsunderkey/crypto/StrictBase64DecodePinLaw" "at" rfl rfl (a0 := a0) (plainFor_of_name opn0) hO hE (fun x q => nomatch q) ?_
  intro K T W
  rw [oef1]
  refine gIloadN W d1_0 rfl rfl ?_
  refine gIloadN W d1_1 rfl rfl ?_
  refine gIcmpNo W d1_2 (tlt ((ltc_ofNat (P := 0) (by decide) (by omega)).mpr hin)).2.1 rfl ?_
  refine gAloadN W d1_5 rfl rfl rfl ?_
  refine gIloadN W d1_6 rfl rfl ?_
  refine wLdB (v := (.int (sb x))) W d1_7 q0 (by decide) hex rfl ?_
  refine gSipush (z := 255) W d1_8 rfl rfl ?_
  refine gIand (z := (Int32.ofNat x)) W d1_11 (sb_and hx) rfl ?_
  refine gGoto (pc' := 16) W d1_12 (by decide) rfl ?_
  exact wRetI (so := []) (t := .int) W d1_16 (by simp) rfl (by decide) (by decide) (fun _ q => nomatch q) ⟨rfl, rfl⟩
theorem d1_15 : Dc cN1 15 (.iconst 0) 1 := by decide +kernel
theorem ob_an0 (hw : TH a0 Z) (hE : EW Z a0 consts_1) (e : Addr) (n : Nat) (h : Heap) (hO : Ol Z h) (hin : (n ≤ 0)) :
 Ct l Z consts_1 mN1 cN1 3 (some .int) ⟨0, 0, 0, 0⟩ #[.ref e, .int (Int32.ofNat n), .int 0] h [] (fun rv' hp' so' => rv' = some (.int 0) ∧ so' = []) := by
  refine Ct.mk "com/example/drafts_under_key/draftsunderkey/crypto/StrictBase64DecodePinLaw" "at" rfl rfl (a0 := a0) (plainFor_of_name opn0) hO hE (fun x q => nomatch q) ?_
  intro K T W
  rw [oef1]
  refine gIloadN W d1_0 rfl rfl ?_
  refine gIloadN W d1_1 rfl rfl ?_
  refine gIcmpYes (pc' := 15) W d1_2 (flt (fun q => absurd ((ltc_ofNat (P := 0) (by decide) (by omega)).mp q) (by omega))).2.1 (by decide) rfl ?_
  refine gIconst (z := 0) W d1_15 rfl rfl ?_
  exact wRetI (so := []) (t := .int) W d1_16 (by simp) rfl (by decide) (by decide) (fun _ q => nomatch q) ⟨rfl, rfl⟩
abbrev mN2 : MethodName := (⟨"com/example/drafts_under_key/draftsunderkey/crypto/StrictBase64DecodePinLaw", "same", "([B[BII)Z"⟩ : MethodName)
abbrev cN2 := method_6_code
theorem d38_0 : Dc cN2 0 (.iload_n 3) 1 := by decide +kernel
theorem d38_1 : Dc cN2 1 (.iload_n 2) 1 := by decide +kernel
theorem d38_2 : Dc cN2 2 (.if_icmp .ge 12) 3 := by decide +kernel
theorem d38_5 : Dc cN2 5 (.aload_n 0) 1 := by decide +kernel
theorem d38_6 : Dc cN2 6 (.iload_n 3) 1 := by decide +kernel
theorem d38_7 : Dc cN2 7 (.baload) 1 := by decide +kernel
theorem d38_8 : Dc cN2 8 (.aload_n 1) 1 := by decide +kernel
theorem d38_9 : Dc cN2 9 (.iload_n 3) 1 := by decide +kernel
theorem d38_10 : Dc cN2 10 (.baload) 1 := by decide +kernel
theorem d38_11 : Dc cN2 11 (.if_icmp .ne 7) 3 := by decide +kernel
theorem d38_14 : Dc cN2 14 (.iconst 1) 1 := by decide +kernel
theorem d38_15 : Dc cN2 15 (.goto 4) 3 := by decide +kernel
theorem d38_19 : Dc cN2 19 (.ireturn) 1 := by decide +kernel
theorem oef2 (m_ : MethodId) (y0_ : Addr) (y1_ : Addr) (y2_ : Int32) (y3_ : Int32) : (entryFrame m_ #[.ref y0_, .ref y1_, .int y2_, .int y3_] 4).locals = #[aR y0_, aR y1_, aI y2_, aI y3_] := by first | (simp [entryFrame, argsToLocals, Value.category]; done) | rfl
theorem ob_sm0 (hw : TH a0 Z) (hE : EW Z a0 consts_1) (r : Addr) (kr : ClassId) (rs : List Value) (e : Addr) (ke : ClassId) (es : List Value) (n : Nat) (v : Int32) (h : Heap) (hO : Ol Z h) (q0 : Arv Z h r kr .byte (Int32.ofNat n) rs (.int 0)) (q1 : Arv Z h e ke .byte 6 es (.int 0)) (hin : (0 < n)) (hn : (n ≤ 6)) (h1 : (rs.getD 0 (.int 0) = .int v)) (h2 : (es.getD 0 (.int 0) = .int v)) :
 Ct l Z consts_1 mN2 cN2 4 (some .boolean) ⟨0, 0, 0, 0⟩ #[.ref r, .ref e, .int (Int32.ofNat n), .int 0] h [] (fun rv' hp' so' => rv' = some (.int 1) ∧ so' = []) := by
  refine Ct.mk "com/example/drafts_under_key/draftsunderkey/crypto/StrictBase64DecodePinLaw" "same" rfl rfl (a0 := a0) (plainFor_of_name opn0) hO hE (fun x q => nomatch q) ?_
  intro K T W
  rw [oef2]
  refine gIloadN W d38_0 rfl rfl ?_
  refine gIloadN W d38_1 rfl rfl ?_
  refine gIcmpNo W d38_2 (tlt ((ltc_ofNat (P := 0) (by decide) (by omega)).mpr hin)).2.1 rfl ?_
  refine gAloadN W d38_5 rfl rfl rfl ?_
  refine gIloadN W d38_6 rfl rfl ?_
  refine wLdB (v := (.int v)) W d38_7 q0 ⟨by decide, (ltc_ofNat (P := 0) (by decide) (by omega)).mpr hin⟩ h1 rfl ?_
  refine gAloadN W d38_8 rfl rfl rfl ?_
  refine gIloadN W d38_9 rfl rfl ?_
  refine wLdB (v := (.int v)) W d38_10 q1 (by decide) h2 rfl ?_
  refine gIcmpNo W d38_11 (teq rfl).2 rfl ?_
  refine gIconst (z := 1) W d38_14 rfl rfl ?_
  refine gGoto (pc' := 19) W d38_15 (by decide) rfl ?_
  exact wRetI (so := []) (t := .boolean) W d38_19 (by simp) rfl (by decide) (by decide) (fun _ q => nomatch q) ⟨rfl, rfl⟩
theorem ob_sn0 (hw : TH a0 Z) (hE : EW Z a0 consts_1) (r e : Addr) (n : Nat) (h : Heap) (hO : Ol Z h) (hin : (n ≤ 0)) :
 Ct l Z consts_1 mN2 cN2 4 (some .boolean) ⟨0, 0, 0, 0⟩ #[.ref r, .ref e, .int (Int32.ofNat n), .int 0] h [] (fun rv' hp' so' => rv' = some (.int 1) ∧ so' = []) := by
  refine Ct.mk "com/example/drafts_under_key/draftsunderkey/crypto/StrictBase64DecodePinLaw" "same" rfl rfl (a0 := a0) (plainFor_of_name opn0) hO hE (fun x q => nomatch q) ?_
  intro K T W
  rw [oef2]
  refine gIloadN W d38_0 rfl rfl ?_
  refine gIloadN W d38_1 rfl rfl ?_
  refine gIcmpYes (pc' := 14) W d38_2 (flt (fun q => absurd ((ltc_ofNat (P := 0) (by decide) (by omega)).mp q) (by omega))).2.1 (by decide) rfl ?_
  refine gIconst (z := 1) W d38_14 rfl rfl ?_
  refine gGoto (pc' := 19) W d38_15 (by decide) rfl ?_
  exact wRetI (so := []) (t := .boolean) W d38_19 (by simp) rfl (by decide) (by decide) (fun _ q => nomatch q) ⟨rfl, rfl⟩
theorem ob_at1 (hw : TH a0 Z) (hE : EW Z a0 consts_1) (e : Addr) (ke : ClassId) (es : List Value) (n x : Nat) (h : Heap) (hO : Ol Z h) (q0 : Arv Z h e ke .byte 6 es (.int 0)) (hin : (1 < n)) (hn : (n ≤ 6)) (hx : (x < 256)) (hex : (es.getD 1 (.int 0) = .int (sb x))) :
 Ct l Z consts_1 mN1 cN1 3 (some .int) ⟨0, 0, 0, 0⟩ #[.ref e, .int (Int32.ofNat n), .int 1] h [] (fun rv' hp' so' => rv' = some (.int (Int32.ofNat x)) ∧ so' = []) := by
  refine Ct.mk "com/example/drafts_under_key/draftsunderkey/crypto/StrictBase64DecodePinLaw" "at" rfl rfl (a0 := a0) (plainFor_of_name opn0) hO hE (fun x q => nomatch q) ?_
  intro K T W
  rw [oef1]
  refine gIloadN W d1_0 rfl rfl ?_
  refine gIloadN W d1_1 rfl rfl ?_
  refine gIcmpNo W d1_2 (tlt ((ltc_ofNat (P := 1) (by decide) (by omega)).mpr hin)).2.1 rfl ?_
  refine gAloadN W d1_5 rfl rfl rfl ?_
  refine gIloadN W d1_6 rfl rfl ?_
  refine wLdB (v := (.int (sb x))) W d1_7 q0 (by decide) hex rfl ?_
  refine gSipush (z := 255) W d1_8 rfl rfl ?_
  refine gIand (z := (Int32.ofNat x)) W d1_11 (sb_and hx) rfl ?_
  refine gGoto (pc' := 16) W d1_12 (by decide) rfl ?_
  exact wRetI (so := []) (t := .int) W d1_16 (by simp) rfl (by decide) (by decide) (fun _ q => nomatch q) ⟨rfl, rfl⟩
theorem ob_an1 (hw : TH a0 Z) (hE : EW Z a0 consts_1) (e : Addr) (n : Nat) (h : Heap) (hO : Ol Z h) (hin : (n ≤ 1)) :
 Ct l Z consts_1 mN1 cN1 3 (some .int) ⟨0, 0, 0, 0⟩ #[.ref e, .int (Int32.ofNat n), .int 1] h [] (fun rv' hp' so' => rv' = some (.int 0) ∧ so' = []) := by
  refine Ct.mk "com/example/drafts_under_key/draftsunderkey/crypto/StrictBase64DecodePinLaw" "at" rfl rfl (a0 := a0) (plainFor_of_name opn0) hO hE (fun x q => nomatch q) ?_
  intro K T W
  rw [oef1]
  refine gIloadN W d1_0 rfl rfl ?_
  refine gIloadN W d1_1 rfl rfl ?_
  refine gIcmpYes (pc' := 15) W d1_2 (flt (fun q => absurd ((ltc_ofNat (P := 1) (by decide) (by omega)).mp q) (by omega))).2.1 (by decide) rfl ?_
  refine gIconst (z := 0) W d1_15 rfl rfl ?_
  exact wRetI (so := []) (t := .int) W d1_16 (by simp) rfl (by decide) (by decide) (fun _ q => nomatch q) ⟨rfl, rfl⟩
theorem ob_sm1 (hw : TH a0 Z) (hE : EW Z a0 consts_1) (r : Addr) (kr : ClassId) (rs : List Value) (e : Addr) (ke : ClassId) (es : List Value) (n : Nat) (v : Int32) (h : Heap) (hO : Ol Z h) (q0 : Arv Z h r kr .byte (Int32.ofNat n) rs (.int 0)) (q1 : Arv Z h e ke .byte 6 es (.int 0)) (hin : (1 < n)) (hn : (n ≤ 6)) (h1 : (rs.getD 1 (.int 0) = .int v)) (h2 : (es.getD 1 (.int 0) = .int v)) :
 Ct l Z consts_1 mN2 cN2 4 (some .boolean) ⟨0, 0, 0, 0⟩ #[.ref r, .ref e, .int (Int32.ofNat n), .int 1] h [] (fun rv' hp' so' => rv' = some (.int 1) ∧ so' = []) := by
  refine Ct.mk "com/example/drafts_under_key/draftsunderkey/crypto/StrictBase64DecodePinLaw" "same" rfl rfl (a0 := a0) (plainFor_of_name opn0) hO hE (fun x q => nomatch q) ?_
  intro K T W
  rw [oef2]
  refine gIloadN W d38_0 rfl rfl ?_
  refine gIloadN W d38_1 rfl rfl ?_
  refine gIcmpNo W d38_2 (tlt ((ltc_ofNat (P := 1) (by decide) (by omega)).mpr hin)).2.1 rfl ?_
  refine gAloadN W d38_5 rfl rfl rfl ?_
  refine gIloadN W d38_6 rfl rfl ?_
  refine wLdB (v := (.int v)) W d38_7 q0 ⟨by decide, (ltc_ofNat (P := 1) (by decide) (by omega)).mpr hin⟩ h1 rfl ?_
  refine gAloadN W d38_8 rfl rfl rfl ?_
  refine gIloadN W d38_9 rfl rfl ?_
  refine wLdB (v := (.int v)) W d38_10 q1 (by decide) h2 rfl ?_
  refine gIcmpNo W d38_11 (teq rfl).2 rfl ?_
  refine gIconst (z := 1) W d38_14 rfl rfl ?_
  refine gGoto (pc' := 19) W d38_15 (by decide) rfl ?_
  exact wRetI (so := []) (t := .boolean) W d38_19 (by simp) rfl (by decide) (by decide) (fun _ q => nomatch q) ⟨rfl, rfl⟩
theorem ob_sn1 (hw : TH a0 Z) (hE : EW Z a0 consts_1) (r e : Addr) (n : Nat) (h : Heap) (hO : Ol Z h) (hin : (n ≤ 1)) :
 Ct l Z consts_1 mN2 cN2 4 (some .boolean) ⟨0, 0, 0, 0⟩ #[.ref r, .ref e, .int (Int32.ofNat n), .int 1] h [] (fun rv' hp' so' => rv' = some (.int 1) ∧ so' = []) := by
  refine Ct.mk "com/example/drafts_under_key/draftsunderkey/crypto/StrictBase64DecodePinLaw" "same" rfl rfl (a0 := a0) (plainFor_of_name opn0) hO hE (fun x q => nomatch q) ?_
  intro K T W
  rw [oef2]
  refine gIloadN W d38_0 rfl rfl ?_
  refine gIloadN W d38_1 rfl rfl ?_
  refine gIcmpYes (pc' := 14) W d38_2 (flt (fun q => absurd ((ltc_ofNat (P := 1) (by decide) (by omega)).mp q) (by omega))).2.1 (by decide) rfl ?_
  refine gIconst (z := 1) W d38_14 rfl rfl ?_
  refine gGoto (pc' := 19) W d38_15 (by decide) rfl ?_
  exact wRetI (so := []) (t := .boolean) W d38_19 (by simp) rfl (by decide) (by decide) (fun _ q => nomatch q) ⟨rfl, rfl⟩
theorem ob_at2 (hw : TH a0 Z) (hE : EW Z a0 consts_1) (e : Addr) (ke : ClassId) (es : List Value) (n x : Nat) (h : Heap) (hO : Ol Z h) (q0 : Arv Z h e ke .byte 6 es (.int 0)) (hin : (2 < n)) (hn : (n ≤ 6)) (hx : (x < 256)) (hex : (es.getD 2 (.int 0) = .int (sb x))) :
 Ct l Z consts_1 mN1 cN1 3 (some .int) ⟨0, 0, 0, 0⟩ #[.ref e, .int (Int32.ofNat n), .int 2] h [] (fun rv' hp' so' => rv' = some (.int (Int32.ofNat x)) ∧ so' = []) := by
  refine Ct.mk "com/example/drafts_under_key/draftsunderkey/crypto/StrictBase64DecodePinLaw" "at" rfl rfl (a0 := a0) (plainFor_of_name opn0) hO hE (fun x q => nomatch q) ?_
  intro K T W
  rw [oef1]
  refine gIloadN W d1_0 rfl rfl ?_
  refine gIloadN W d1_1 rfl rfl ?_
  refine gIcmpNo W d1_2 (tlt ((ltc_ofNat (P := 2) (by decide) (by omega)).mpr hin)).2.1 rfl ?_
  refine gAloadN W d1_5 rfl rfl rfl ?_
  refine gIloadN W d1_6 rfl rfl ?_
  refine wLdB (v := (.int (sb x))) W d1_7 q0 (by decide) hex rfl ?_
  refine gSipush (z := 255) W d1_8 rfl rfl ?_
  refine gIand (z := (Int32.ofNat x)) W d1_11 (sb_and hx) rfl ?_
  refine gGoto (pc' := 16) W d1_12 (by decide) rfl ?_
  exact wRetI (so := []) (t := .int) W d1_16 (by simp) rfl (by decide) (by decide) (fun _ q => nomatch q) ⟨rfl, rfl⟩
theorem ob_an2 (hw : TH a0 Z) (hE : EW Z a0 consts_1) (e : Addr) (n : Nat) (h : Heap) (hO : Ol Z h) (hin : (n ≤ 2)) :
 Ct l Z consts_1 mN1 cN1 3 (some .int) ⟨0, 0, 0, 0⟩ #[.ref e, .int (Int32.ofNat n), .int 2] h [] (fun rv' hp' so' => rv' = some (.int 0) ∧ so' = []) := by
  refine Ct.mk "com/example/drafts_under_key/draftsunderkey/crypto/StrictBase64DecodePinLaw" "at" rfl rfl (a0 := a0) (plainFor_of_name opn0) hO hE (fun x q => nomatch q) ?_
  intro K T W
  rw [oef1]
  refine gIloadN W d1_0 rfl rfl ?_
  refine gIloadN W d1_1 rfl rfl ?_
  refine gIcmpYes (pc' := 15) W d1_2 (flt (fun q => absurd ((ltc_ofNat (P := 2) (by decide) (by omega)).mp q) (by omega))).2.1 (by decide) rfl ?_
  refine gIconst (z := 0) W d1_15 rfl rfl ?_
  exact wRetI (so := []) (t := .int) W d1_16 (by simp) rfl (by decide) (by decide) (fun _ q => nomatch q) ⟨rfl, rfl⟩
theorem ob_sm2 (hw : TH a0 Z) (hE : EW Z a0 consts_1) (r : Addr) (kr : ClassId) (rs : List Value) (e : Addr) (ke : ClassId) (es : List Value) (n : Nat) (v : Int32) (h : Heap) (hO : Ol Z h) (q0 : Arv Z h r kr .byte (Int32.ofNat n) rs (.int 0)) (q1 : Arv Z h e ke .byte 6 es (.int 0)) (hin : (2 < n)) (hn : (n ≤ 6)) (h1 : (rs.getD 2 (.int 0) = .int v)) (h2 : (es.getD 2 (.int 0) = .int v)) :
 Ct l Z consts_1 mN2 cN2 4 (some .boolean) ⟨0, 0, 0, 0⟩ #[.ref r, .ref e, .int (Int32.ofNat n), .int 2] h [] (fun rv' hp' so' => rv' = some (.int 1) ∧ so' = []) := by
  refine Ct.mk "com/example/drafts_under_key/draftsunderkey/crypto/StrictBase64DecodePinLaw" "same" rfl rfl (a0 := a0) (plainFor_of_name opn0) hO hE (fun x q => nomatch q) ?_
  intro K T W
  rw [oef2]
  refine gIloadN W d38_0 rfl rfl ?_
  refine gIloadN W d38_1 rfl rfl ?_
  refine gIcmpNo W d38_2 (tlt ((ltc_ofNat (P := 2) (by decide) (by omega)).mpr hin)).2.1 rfl ?_
  refine gAloadN W d38_5 rfl rfl rfl ?_
  refine gIloadN W d38_6 rfl rfl ?_
  refine wLdB (v := (.int v)) W d38_7 q0 ⟨by decide, (ltc_ofNat (P := 2) (by decide) (by omega)).mpr hin⟩ h1 rfl ?_
  refine gAloadN W d38_8 rfl rfl rfl ?_
  refine gIloadN W d38_9 rfl rfl ?_
  refine wLdB (v := (.int v)) W d38_10 q1 (by decide) h2 rfl ?_
  refine gIcmpNo W d38_11 (teq rfl).2 rfl ?_
  refine gIconst (z := 1) W d38_14 rfl rfl ?_
  refine gGoto (pc' := 19) W d38_15 (by decide) rfl ?_
  exact wRetI (so := []) (t := .boolean) W d38_19 (by simp) rfl (by decide) (by decide) (fun _ q => nomatch q) ⟨rfl, rfl⟩
theorem ob_sn2 (hw : TH a0 Z) (hE : EW Z a0 consts_1) (r e : Addr) (n : Nat) (h : Heap) (hO : Ol Z h) (hin : (n ≤ 2)) :
 Ct l Z consts_1 mN2 cN2 4 (some .boolean) ⟨0, 0, 0, 0⟩ #[.ref r, .ref e, .int (Int32.ofNat n), .int 2] h [] (fun rv' hp' so' => rv' = some (.int 1) ∧ so' = []) := by
  refine Ct.mk "com/example/drafts_under_key/draftsunderkey/crypto/StrictBase64DecodePinLaw" "same" rfl rfl (a0 := a0) (plainFor_of_name opn0) hO hE (fun x q => nomatch q) ?_
  intro K T W
  rw [oef2]
  refine gIloadN W d38_0 rfl rfl ?_
  refine gIloadN W d38_1 rfl rfl ?_
  refine gIcmpYes (pc' := 14) W d38_2 (flt (fun q => absurd ((ltc_ofNat (P := 2) (by decide) (by omega)).mp q) (by omega))).2.1 (by decide) rfl ?_
  refine gIconst (z := 1) W d38_14 rfl rfl ?_
  refine gGoto (pc' := 19) W d38_15 (by decide) rfl ?_
  exact wRetI (so := []) (t := .boolean) W d38_19 (by simp) rfl (by decide) (by decide) (fun _ q => nomatch q) ⟨rfl, rfl⟩
theorem ob_at3 (hw : TH a0 Z) (hE : EW Z a0 consts_1) (e : Addr) (ke : ClassId) (es : List Value) (n x : Nat) (h : Heap) (hO : Ol Z h) (q0 : Arv Z h e ke .byte 6 es (.int 0)) (hin : (3 < n)) (hn : (n ≤ 6)) (hx : (x < 256)) (hex : (es.getD 3 (.int 0) = .int (sb x))) :
 Ct l Z consts_1 mN1 cN1 3 (some .int) ⟨0, 0, 0, 0⟩ #[.ref e, .int (Int32.ofNat n), .int 3] h [] (fun rv' hp' so' => rv' = some (.int (Int32.ofNat x)) ∧ so' = []) := by
  refine Ct.mk "com/example/drafts_under_key/draftsunderkey/crypto/StrictBase64DecodePinLaw" "at" rfl rfl (a0 := a0) (plainFor_of_name opn0) hO hE (fun x q => nomatch q) ?_
  intro K T W
  rw [oef1]
  refine gIloadN W d1_0 rfl rfl ?_
  refine gIloadN W d1_1 rfl rfl ?_
  refine gIcmpNo W d1_2 (tlt ((ltc_ofNat (P := 3) (by decide) (by omega)).mpr hin)).2.1 rfl ?_
  refine gAloadN W d1_5 rfl rfl rfl ?_
  refine gIloadN W d1_6 rfl rfl ?_
  refine wLdB (v := (.int (sb x))) W d1_7 q0 (by decide) hex rfl ?_
  refine gSipush (z := 255) W d1_8 rfl rfl ?_
  refine gIand (z := (Int32.ofNat x)) W d1_11 (sb_and hx) rfl ?_
  refine gGoto (pc' := 16) W d1_12 (by decide) rfl ?_
  exact wRetI (so := []) (t := .int) W d1_16 (by simp) rfl (by decide) (by decide) (fun _ q => nomatch q) ⟨rfl, rfl⟩
theorem ob_an3 (hw : TH a0 Z) (hE : EW Z a0 consts_1) (e : Addr) (n : Nat) (h : Heap) (hO : Ol Z h) (hin : (n ≤ 3)) :
 Ct l Z consts_1 mN1 cN1 3 (some .int) ⟨0, 0, 0, 0⟩ #[.ref e, .int (Int32.ofNat n), .int 3] h [] (fun rv' hp' so' => rv' = some (.int 0) ∧ so' = []) := by
  refine Ct.mk "com/example/drafts_under_key/draftsunderkey/crypto/StrictBase64DecodePinLaw" "at" rfl rfl (a0 := a0) (plainFor_of_name opn0) hO hE (fun x q => nomatch q) ?_
  intro K T W
  rw [oef1]
  refine gIloadN W d1_0 rfl rfl ?_
  refine gIloadN W d1_1 rfl rfl ?_
  refine gIcmpYes (pc' := 15) W d1_2 (flt (fun q => absurd ((ltc_ofNat (P := 3) (by decide) (by omega)).mp q) (by omega))).2.1 (by decide) rfl ?_
  refine gIconst (z := 0) W d1_15 rfl rfl ?_
  exact wRetI (so := []) (t := .int) W d1_16 (by simp) rfl (by decide) (by decide) (fun _ q => nomatch q) ⟨rfl, rfl⟩
theorem ob_sm3 (hw : TH a0 Z) (hE : EW Z a0 consts_1) (r : Addr) (kr : ClassId) (rs : List Value) (e : Addr) (ke : ClassId) (es : List Value) (n : Nat) (v : Int32) (h : Heap) (hO : Ol Z h) (q0 : Arv Z h r kr .byte (Int32.ofNat n) rs (.int 0)) (q1 : Arv Z h e ke .byte 6 es (.int 0)) (hin : (3 < n)) (hn : (n ≤ 6)) (h1 : (rs.getD 3 (.int 0) = .int v)) (h2 : (es.getD 3 (.int 0) = .int v)) :
 Ct l Z consts_1 mN2 cN2 4 (some .boolean) ⟨0, 0, 0, 0⟩ #[.ref r, .ref e, .int (Int32.ofNat n), .int 3] h [] (fun rv' hp' so' => rv' = some (.int 1) ∧ so' = []) := by
  refine Ct.mk "com/example/drafts_under_key/draftsunderkey/crypto/StrictBase64DecodePinLaw" "same" rfl rfl (a0 := a0) (plainFor_of_name opn0) hO hE (fun x q => nomatch q) ?_
  intro K T W
  rw [oef2]
  refine gIloadN W d38_0 rfl rfl ?_
  refine gIloadN W d38_1 rfl rfl ?_
  refine gIcmpNo W d38_2 (tlt ((ltc_ofNat (P := 3) (by decide) (by omega)).mpr hin)).2.1 rfl ?_
  refine gAloadN W d38_5 rfl rfl rfl ?_
  refine gIloadN W d38_6 rfl rfl ?_
  refine wLdB (v := (.int v)) W d38_7 q0 ⟨by decide, (ltc_ofNat (P := 3) (by decide) (by omega)).mpr hin⟩ h1 rfl ?_
  refine gAloadN W d38_8 rfl rfl rfl ?_
  refine gIloadN W d38_9 rfl rfl ?_
  refine wLdB (v := (.int v)) W d38_10 q1 (by decide) h2 rfl ?_
  refine gIcmpNo W d38_11 (teq rfl).2 rfl ?_
  refine gIconst (z := 1) W d38_14 rfl rfl ?_
  refine gGoto (pc' := 19) W d38_15 (by decide) rfl ?_
  exact wRetI (so := []) (t := .boolean) W d38_19 (by simp) rfl (by decide) (by decide) (fun _ q => nomatch q) ⟨rfl, rfl⟩
theorem ob_sn3 (hw : TH a0 Z) (hE : EW Z a0 consts_1) (r e : Addr) (n : Nat) (h : Heap) (hO : Ol Z h) (hin : (n ≤ 3)) :
 Ct l Z consts_1 mN2 cN2 4 (some .boolean) ⟨0, 0, 0, 0⟩ #[.ref r, .ref e, .int (Int32.ofNat n), .int 3] h [] (fun rv' hp' so' => rv' = some (.int 1) ∧ so' = []) := by
  refine Ct.mk "com/example/drafts_under_key/draftsunderkey/crypto/StrictBase64DecodePinLaw" "same" rfl rfl (a0 := a0) (plainFor_of_name opn0) hO hE (fun x q => nomatch q) ?_
  intro K T W
  rw [oef2]
  refine gIloadN W d38_0 rfl rfl ?_
  refine gIloadN W d38_1 rfl rfl ?_
  refine gIcmpYes (pc' := 14) W d38_2 (flt (fun q => absurd ((ltc_ofNat (P := 3) (by decide) (by omega)).mp q) (by omega))).2.1 (by decide) rfl ?_
  refine gIconst (z := 1) W d38_14 rfl rfl ?_
  refine gGoto (pc' := 19) W d38_15 (by decide) rfl ?_
  exact wRetI (so := []) (t := .boolean) W d38_19 (by simp) rfl (by decide) (by decide) (fun _ q => nomatch q) ⟨rfl, rfl⟩
theorem ob_at4 (hw : TH a0 Z) (hE : EW Z a0 consts_1) (e : Addr) (ke : ClassId) (es : List Value) (n x : Nat) (h : Heap) (hO : Ol Z h) (q0 : Arv Z h e ke .byte 6 es (.int 0)) (hin : (4 < n)) (hn : (n ≤ 6)) (hx : (x < 256)) (hex : (es.getD 4 (.int 0) = .int (sb x))) :
 Ct l Z consts_1 mN1 cN1 3 (some .int) ⟨0, 0, 0, 0⟩ #[.ref e, .int (Int32.ofNat n), .int 4] h [] (fun rv' hp' so' => rv' = some (.int (Int32.ofNat x)) ∧ so' = []) := by
  refine Ct.mk "com/example/drafts_under_key/draftsunderkey/crypto/StrictBase64DecodePinLaw" "at" rfl rfl (a0 := a0) (plainFor_of_name opn0) hO hE (fun x q => nomatch q) ?_
  intro K T W
  rw [oef1]
  refine gIloadN W d1_0 rfl rfl ?_
  refine gIloadN W d1_1 rfl rfl ?_
  refine gIcmpNo W d1_2 (tlt ((ltc_ofNat (P := 4) (by decide) (by omega)).mpr hin)).2.1 rfl ?_
  refine gAloadN W d1_5 rfl rfl rfl ?_
  refine gIloadN W d1_6 rfl rfl ?_
  refine wLdB (v := (.int (sb x))) W d1_7 q0 (by decide) hex rfl ?_
  refine gSipush (z := 255) W d1_8 rfl rfl ?_
  refine gIand (z := (Int32.ofNat x)) W d1_11 (sb_and hx) rfl ?_
  refine gGoto (pc' := 16) W d1_12 (by decide) rfl ?_
  exact wRetI (so := []) (t := .int) W d1_16 (by simp) rfl (by decide) (by decide) (fun _ q => nomatch q) ⟨rfl, rfl⟩
theorem ob_an4 (hw : TH a0 Z) (hE : EW Z a0 consts_1) (e : Addr) (n : Nat) (h : Heap) (hO : Ol Z h) (hin : (n ≤ 4)) :
 Ct l Z consts_1 mN1 cN1 3 (some .int) ⟨0, 0, 0, 0⟩ #[.ref e, .int (Int32.ofNat n), .int 4] h [] (fun rv' hp' so' => rv' = some (.int 0) ∧ so' = []) := by
  refine Ct.mk "com/example/drafts_under_key/draftsunderkey/crypto/StrictBase64DecodePinLaw" "at" rfl rfl (a0 := a0) (plainFor_of_name opn0) hO hE (fun x q => nomatch q) ?_
  intro K T W
  rw [oef1]
  refine gIloadN W d1_0 rfl rfl ?_
  refine gIloadN W d1_1 rfl rfl ?_
  refine gIcmpYes (pc' := 15) W d1_2 (flt (fun q => absurd ((ltc_ofNat (P := 4) (by decide) (by omega)).mp q) (by omega))).2.1 (by decide) rfl ?_
  refine gIconst (z := 0) W d1_15 rfl rfl ?_
  exact wRetI (so := []) (t := .int) W d1_16 (by simp) rfl (by decide) (by decide) (fun _ q => nomatch q) ⟨rfl, rfl⟩
theorem ob_sm4 (hw : TH a0 Z) (hE : EW Z a0 consts_1) (r : Addr) (kr : ClassId) (rs : List Value) (e : Addr) (ke : ClassId) (es : List Value) (n : Nat) (v : Int32) (h : Heap) (hO : Ol Z h) (q0 : Arv Z h r kr .byte (Int32.ofNat n) rs (.int 0)) (q1 : Arv Z h e ke .byte 6 es (.int 0)) (hin : (4 < n)) (hn : (n ≤ 6)) (h1 : (rs.getD 4 (.int 0) = .int v)) (h2 : (es.getD 4 (.int 0) = .int v)) :
 Ct l Z consts_1 mN2 cN2 4 (some .boolean) ⟨0, 0, 0, 0⟩ #[.ref r, .ref e, .int (Int32.ofNat n), .int 4] h [] (fun rv' hp' so' => rv' = some (.int 1) ∧ so' = []) := by
  refine Ct.mk "com/example/drafts_under_key/draftsunderkey/crypto/StrictBase64DecodePinLaw" "same" rfl rfl (a0 := a0) (plainFor_of_name opn0) hO hE (fun x q => nomatch q) ?_
  intro K T W
  rw [oef2]
  refine gIloadN W d38_0 rfl rfl ?_
  refine gIloadN W d38_1 rfl rfl ?_
  refine gIcmpNo W d38_2 (tlt ((ltc_ofNat (P := 4) (by decide) (by omega)).mpr hin)).2.1 rfl ?_
  refine gAloadN W d38_5 rfl rfl rfl ?_
  refine gIloadN W d38_6 rfl rfl ?_
  refine wLdB (v := (.int v)) W d38_7 q0 ⟨by decide, (ltc_ofNat (P := 4) (by decide) (by omega)).mpr hin⟩ h1 rfl ?_
  refine gAloadN W d38_8 rfl rfl rfl ?_
  refine gIloadN W d38_9 rfl rfl ?_
  refine wLdB (v := (.int v)) W d38_10 q1 (by decide) h2 rfl ?_
  refine gIcmpNo W d38_11 (teq rfl).2 rfl ?_
  refine gIconst (z := 1) W d38_14 rfl rfl ?_
  refine gGoto (pc' := 19) W d38_15 (by decide) rfl ?_
  exact wRetI (so := []) (t := .boolean) W d38_19 (by simp) rfl (by decide) (by decide) (fun _ q => nomatch q) ⟨rfl, rfl⟩
theorem ob_sn4 (hw : TH a0 Z) (hE : EW Z a0 consts_1) (r e : Addr) (n : Nat) (h : Heap) (hO : Ol Z h) (hin : (n ≤ 4)) :
 Ct l Z consts_1 mN2 cN2 4 (some .boolean) ⟨0, 0, 0, 0⟩ #[.ref r, .ref e, .int (Int32.ofNat n), .int 4] h [] (fun rv' hp' so' => rv' = some (.int 1) ∧ so' = []) := by
  refine Ct.mk "com/example/drafts_under_key/draftsunderkey/crypto/StrictBase64DecodePinLaw" "same" rfl rfl (a0 := a0) (plainFor_of_name opn0) hO hE (fun x q => nomatch q) ?_
  intro K T W
  rw [oef2]
  refine gIloadN W d38_0 rfl rfl ?_
  refine gIloadN W d38_1 rfl rfl ?_
  refine gIcmpYes (pc' := 14) W d38_2 (flt (fun q => absurd ((ltc_ofNat (P := 4) (by decide) (by omega)).mp q) (by omega))).2.1 (by decide) rfl ?_
  refine gIconst (z := 1) W d38_14 rfl rfl ?_
  refine gGoto (pc' := 19) W d38_15 (by decide) rfl ?_
  exact wRetI (so := []) (t := .boolean) W d38_19 (by simp) rfl (by decide) (by decide) (fun _ q => nomatch q) ⟨rfl, rfl⟩
theorem ob_at5 (hw : TH a0 Z) (hE : EW Z a0 consts_1) (e : Addr) (ke : ClassId) (es : List Value) (n x : Nat) (h : Heap) (hO : Ol Z h) (q0 : Arv Z h e ke .byte 6 es (.int 0)) (hin : (5 < n)) (hn : (n ≤ 6)) (hx : (x < 256)) (hex : (es.getD 5 (.int 0) = .int (sb x))) :
 Ct l Z consts_1 mN1 cN1 3 (some .int) ⟨0, 0, 0, 0⟩ #[.ref e, .int (Int32.ofNat n), .int 5] h [] (fun rv' hp' so' => rv' = some (.int (Int32.ofNat x)) ∧ so' = []) := by
  refine Ct.mk "com/example/drafts_under_key/draftsunderkey/crypto/StrictBase64DecodePinLaw" "at" rfl rfl (a0 := a0) (plainFor_of_name opn0) hO hE (fun x q => nomatch q) ?_
  intro K T W
  rw [oef1]
  refine gIloadN W d1_0 rfl rfl ?_
  refine gIloadN W d1_1 rfl rfl ?_
  refine gIcmpNo W d1_2 (tlt ((ltc_ofNat (P := 5) (by decide) (by omega)).mpr hin)).2.1 rfl ?_
  refine gAloadN W d1_5 rfl rfl rfl ?_
  refine gIloadN W d1_6 rfl rfl ?_
  refine wLdB (v := (.int (sb x))) W d1_7 q0 (by decide) hex rfl ?_
  refine gSipush (z := 255) W d1_8 rfl rfl ?_
  refine gIand (z := (Int32.ofNat x)) W d1_11 (sb_and hx) rfl ?_
  refine gGoto (pc' := 16) W d1_12 (by decide) rfl ?_
  exact wRetI (so := []) (t := .int) W d1_16 (by simp) rfl (by decide) (by decide) (fun _ q => nomatch q) ⟨rfl, rfl⟩
theorem ob_an5 (hw : TH a0 Z) (hE : EW Z a0 consts_1) (e : Addr) (n : Nat) (h : Heap) (hO : Ol Z h) (hin : (n ≤ 5)) :
 Ct l Z consts_1 mN1 cN1 3 (some .int) ⟨0, 0, 0, 0⟩ #[.ref e, .int (Int32.ofNat n), .int 5] h [] (fun rv' hp' so' => rv' = some (.int 0) ∧ so' = []) := by
  refine Ct.mk "com/example/drafts_under_key/draftsunderkey/crypto/StrictBase64DecodePinLaw" "at" rfl rfl (a0 := a0) (plainFor_of_name opn0) hO hE (fun x q => nomatch q) ?_
  intro K T W
  rw [oef1]
  refine gIloadN W d1_0 rfl rfl ?_
  refine gIloadN W d1_1 rfl rfl ?_
  refine gIcmpYes (pc' := 15) W d1_2 (flt (fun q => absurd ((ltc_ofNat (P := 5) (by decide) (by omega)).mp q) (by omega))).2.1 (by decide) rfl ?_
  refine gIconst (z := 0) W d1_15 rfl rfl ?_
  exact wRetI (so := []) (t := .int) W d1_16 (by simp) rfl (by decide) (by decide) (fun _ q => nomatch q) ⟨rfl, rfl⟩
theorem ob_sm5 (hw : TH a0 Z) (hE : EW Z a0 consts_1) (r : Addr) (kr : ClassId) (rs : List Value) (e : Addr) (ke : ClassId) (es : List Value) (n : Nat) (v : Int32) (h : Heap) (hO : Ol Z h) (q0 : Arv Z h r kr .byte (Int32.ofNat n) rs (.int 0)) (q1 : Arv Z h e ke .byte 6 es (.int 0)) (hin : (5 < n)) (hn : (n ≤ 6)) (h1 : (rs.getD 5 (.int 0) = .int v)) (h2 : (es.getD 5 (.int 0) = .int v)) :
 Ct l Z consts_1 mN2 cN2 4 (some .boolean) ⟨0, 0, 0, 0⟩ #[.ref r, .ref e, .int (Int32.ofNat n), .int 5] h [] (fun rv' hp' so' => rv' = some (.int 1) ∧ so' = []) := by
  refine Ct.mk "com/example/drafts_under_key/draftsunderkey/crypto/StrictBase64DecodePinLaw" "same" rfl rfl (a0 := a0) (plainFor_of_name opn0) hO hE (fun x q => nomatch q) ?_
  intro K T W
  rw [oef2]
  refine gIloadN W d38_0 rfl rfl ?_
  refine gIloadN W d38_1 rfl rfl ?_
  refine gIcmpNo W d38_2 (tlt ((ltc_ofNat (P := 5) (by decide) (by omega)).mpr hin)).2.1 rfl ?_
  refine gAloadN W d38_5 rfl rfl rfl ?_
  refine gIloadN W d38_6 rfl rfl ?_
  refine wLdB (v := (.int v)) W d38_7 q0 ⟨by decide, (ltc_ofNat (P := 5) (by decide) (by omega)).mpr hin⟩ h1 rfl ?_
  refine gAloadN W d38_8 rfl rfl rfl ?_
  refine gIloadN W d38_9 rfl rfl ?_
  refine wLdB (v := (.int v)) W d38_10 q1 (by decide) h2 rfl ?_
  refine gIcmpNo W d38_11 (teq rfl).2 rfl ?_
  refine gIconst (z := 1) W d38_14 rfl rfl ?_
  refine gGoto (pc' := 19) W d38_15 (by decide) rfl ?_
  exact wRetI (so := []) (t := .boolean) W d38_19 (by simp) rfl (by decide) (by decide) (fun _ q => nomatch q) ⟨rfl, rfl⟩
theorem ob_sn5 (hw : TH a0 Z) (hE : EW Z a0 consts_1) (r e : Addr) (n : Nat) (h : Heap) (hO : Ol Z h) (hin : (n ≤ 5)) :
 Ct l Z consts_1 mN2 cN2 4 (some .boolean) ⟨0, 0, 0, 0⟩ #[.ref r, .ref e, .int (Int32.ofNat n), .int 5] h [] (fun rv' hp' so' => rv' = some (.int 1) ∧ so' = []) := by
  refine Ct.mk "com/example/drafts_under_key/draftsunderkey/crypto/StrictBase64DecodePinLaw" "same" rfl rfl (a0 := a0) (plainFor_of_name opn0) hO hE (fun x q => nomatch q) ?_
  intro K T W
  rw [oef2]
  refine gIloadN W d38_0 rfl rfl ?_
  refine gIloadN W d38_1 rfl rfl ?_
  refine gIcmpYes (pc' := 14) W d38_2 (flt (fun q => absurd ((ltc_ofNat (P := 5) (by decide) (by omega)).mp q) (by omega))).2.1 (by decide) rfl ?_
  refine gIconst (z := 1) W d38_14 rfl rfl ?_
  refine gGoto (pc' := 19) W d38_15 (by decide) rfl ?_
  exact wRetI (so := []) (t := .boolean) W d38_19 (by simp) rfl (by decide) (by decide) (fun _ q => nomatch q) ⟨rfl, rfl⟩
abbrev mN3 : MethodName := (⟨"com/example/drafts_under_key/draftsunderkey/crypto/StrictBase64DecodePinLaw", "group", "([CIIIII)V"⟩ : MethodName)
abbrev cN3 := method_4_code
theorem d2_0 : Dc cN3 0 (.iload_n 2) 1 := by decide +kernel
theorem d2_1 : Dc cN3 1 (.bipush 16) 2 := by decide +kernel
theorem d2_3 : Dc cN3 3 (.ishl) 1 := by decide +kernel
theorem d2_4 : Dc cN3 4 (.iload_n 3) 1 := by decide +kernel
theorem d2_5 : Dc cN3 5 (.bipush 8) 2 := by decide +kernel
theorem d2_7 : Dc cN3 7 (.ishl) 1 := by decide +kernel
theorem d2_8 : Dc cN3 8 (.ior) 1 := by decide +kernel
theorem d2_9 : Dc cN3 9 (.iload 4) 2 := by decide +kernel
theorem d2_11 : Dc cN3 11 (.ior) 1 := by decide +kernel
theorem d2_12 : Dc cN3 12 (.istore 6) 2 := by decide +kernel
theorem d2_14 : Dc cN3 14 (.aload_n 0) 1 := by decide +kernel
theorem d2_15 : Dc cN3 15 (.iload_n 1) 1 := by decide +kernel
theorem d2_16 : Dc cN3 16 (.iload 6) 2 := by decide +kernel
theorem d2_18 : Dc cN3 18 (.bipush 18) 2 := by decide +kernel
theorem d2_20 : Dc cN3 20 (.iushr) 1 := by decide +kernel
theorem d2_21 : Dc cN3 21 (.bipush 63) 2 := by decide +kernel
theorem d2_23 : Dc cN3 23 (.iand) 1 := by decide +kernel
theorem d2_24 : Dc cN3 24 (.invokestatic 37) 3 := by decide +kernel
theorem ow10 (hw : TH a0 Z) : Bf a0 Z (.methodLink "com/example/drafts_under_key/draftsunderkey/crypto/StrictBase64DecodePinLaw" 37 mN0) := mo 10 rfl hw
theorem ow5 (hw : TH a0 Z) : Bf a0 Z (.initialized "com/example/drafts_under_key/draftsunderkey/crypto/StrictBase64DecodePinLaw") := mo 5 rfl hw
theorem ow12 (hw : TH a0 Z) : Bf a0 Z (.code mN0 cN0 1 (some .char)) := mo 12 rfl hw
theorem opd0 : parseMethodDescriptor "(I)C" = some ⟨[.int], some (.char)⟩ := by decide +kernel
theorem ow11 (hw : TH a0 Z) : Bf a0 Z (.static mN0) := mo 11 rfl hw
theorem d2_27 : Dc cN3 27 (.castore) 1 := by decide +kernel
theorem d2_28 : Dc cN3 28 (.aload_n 0) 1 := by decide +kernel
theorem d2_29 : Dc cN3 29 (.iload_n 1) 1 := by decide +kernel
theorem d2_30 : Dc cN3 30 (.iconst 1) 1 := by decide +kernel
theorem d2_31 : Dc cN3 31 (.iadd) 1 := by decide +kernel
theorem d2_32 : Dc cN3 32 (.iload 6) 2 := by decide +kernel
theorem d2_34 : Dc cN3 34 (.bipush 12) 2 := by decide +kernel
theorem d2_36 : Dc cN3 36 (.iushr) 1 := by decide +kernel
theorem d2_37 : Dc cN3 37 (.bipush 63) 2 := by decide +kernel
theorem d2_39 : Dc cN3 39 (.iand) 1 := by decide +kernel
theorem d2_40 : Dc cN3 40 (.invokestatic 37) 3 := by decide +kernel
theorem d2_43 : Dc cN3 43 (.castore) 1 := by decide +kernel
theorem d2_44 : Dc cN3 44 (.aload_n 0) 1 := by decide +kernel
theorem d2_45 : Dc cN3 45 (.iload_n 1) 1 := by decide +kernel
theorem d2_46 : Dc cN3 46 (.iconst 2) 1 := by decide +kernel
theorem d2_47 : Dc cN3 47 (.iadd) 1 := by decide +kernel
theorem d2_48 : Dc cN3 48 (.iload 5) 2 := by decide +kernel
theorem d2_50 : Dc cN3 50 (.iconst 2) 1 := by decide +kernel
theorem d2_51 : Dc cN3 51 (.if_icmp .lt 17) 3 := by decide +kernel
theorem d2_68 : Dc cN3 68 (.bipush 61) 2 := by decide +kernel
theorem d2_70 : Dc cN3 70 (.castore) 1 := by decide +kernel
theorem d2_71 : Dc cN3 71 (.aload_n 0) 1 := by decide +kernel
theorem d2_72 : Dc cN3 72 (.iload_n 1) 1 := by decide +kernel
theorem d2_73 : Dc cN3 73 (.iconst 3) 1 := by decide +kernel
theorem d2_74 : Dc cN3 74 (.iadd) 1 := by decide +kernel
theorem d2_75 : Dc cN3 75 (.iload 5) 2 := by decide +kernel
theorem d2_77 : Dc cN3 77 (.iconst 3) 1 := by decide +kernel
theorem d2_78 : Dc cN3 78 (.if_icmp .ne 14) 3 := by decide +kernel
theorem d2_92 : Dc cN3 92 (.bipush 61) 2 := by decide +kernel
theorem d2_94 : Dc cN3 94 (.castore) 1 := by decide +kernel
theorem d2_95 : Dc cN3 95 (.return_) 1 := by decide +kernel
theorem oef3 (m_ : MethodId) (y0_ : Addr) (y1_ : Int32) (y2_ : Int32) (y3_ : Int32) (y4_ : Int32) (y5_ : Int32) : (entryFrame m_ #[.ref y0_, .int y1_, .int y2_, .int y3_, .int y4_, .int y5_] 7).locals = #[aR y0_, aI y1_, aI y2_, aI y3_, aI y4_, aI y5_, aU] := by first | (simp [entryFrame, argsToLocals, Value.category]; done) | rfl
theorem ob_gr401 (hw : TH a0 Z) (hE : EW Z a0 consts_1) (c : Addr) (kc : ClassId) (p q r : Nat) (h : Heap) (hO : Ol Z h) (q0 : Arv Z h c kc .char 4 [.int 0, .int 0, .int 0, .int 0] (.int 0)) (hp : (p < 256)) (hq : (q < 256)) (hr : (r < 256)) (ge_c : Z.heap.size ≤ c) :
 Ct l Z consts_1 mN3 cN3 7 none ⟨1, 0, 0, 14⟩ #[.ref c, .int 0, .int (Int32.ofNat p), .int (Int32.ofNat q), .int (Int32.ofNat r), .int 1] h [c] (fun rv' hp' so' => rv' = none ∧ so' = [] ∧ Arv Z hp' c kc .char 4 [(.int (Int32.ofNat (symN (sx0 (vv p q r))))), (.int (Int32.ofNat (symN (sx1 (vv p q r))))), .int 61, .int 61] (.int 0)) := by
  refine Ct.mk "com/example/drafts_under_key/draftsunderkey/crypto/StrictBase64DecodePinLaw" "group" rfl rfl (a0 := a0) (plainFor_of_name opn0) hO hE (fun x q => by simp at q; subst q; exact ge_c) ?_
  intro K T W
  rw [oef3]
  have hvv : vv p q r < 16777216 := by unfold vv; omega
  refine gIloadN W d2_0 rfl rfl ?_
  refine gBipush (z := 16) W d2_1 rfl rfl ?_
  refine gIshl (z := (Int32.ofNat (p * 65536))) W d2_3 (shlN (k := 16) (by decide) (by decide) (by omega)) rfl ?_
  refine gIloadN W d2_4 rfl rfl ?_
  refine gBipush (z := 8) W d2_5 rfl rfl ?_
  refine gIshl (z := (Int32.ofNat (q * 256))) W d2_7 (shlN (k := 8) (by decide) (by decide) (by omega)) rfl ?_
  refine gIor (z := (Int32.ofNat (p * 65536 + q * 256))) W d2_8 (orN (k := 16) (P := 65536) (by decide) (by decide) (by omega) (by omega) (by omega)) rfl ?_
  refine gIload W d2_9 rfl rfl ?_
  refine gIor (z := (Int32.ofNat (vv p q r))) W d2_11 (orN (k := 8) (P := 256) (by decide) (by decide) (by omega) (by omega) (by omega)) rfl ?_
  refine gIstore (ls' := #[aR c, aI 0, aI (Int32.ofNat p), aI (Int32.ofNat q), aI (Int32.ofNat r), aI 1, aI (Int32.ofNat (vv p q r))]) W d2_12 rfl rfl ?_
  refine gAloadN W d2_14 rfl rfl rfl ?_
  refine gIloadN W d2_15 rfl rfl ?_
  refine gIload W d2_16 rfl rfl ?_
  refine gBipush (z := 18) W d2_18 rfl rfl ?_
  refine gIushr (z := (Int32.ofNat ((vv p q r) / 262144))) W d2_20 (ushrN (k := 18) (by decide) (by decide) (by decide) (by omega)) rfl ?_
  refine gBipush (z := 63) W d2_21 rfl rfl ?_
  refine gIand (z := (Int32.ofNat (sx0 (vv p q r)))) W d2_23 (maskN (k := 6) (by decide) (by decide) (by decide) (by omega)) rfl ?_
  refine wStatic (y := mN0) (Wd := 2) (argsL := [.int (Int32.ofNat (sx0 (vv p q r)))]) (rest := [.int 0, .ref c]) W d2_24 (ow10 hw) (ow11 hw) (ow5 hw) (ow12 hw) (by decide) (Cb.ct (ob_sy hw hE (sx0 (vv p q r)) h W.old (sx0_lt _)) (ow12 hw) (ow5 hw) hE (by decide) (by decide)) (by simp) rfl (lenOf opd0 rfl) rfl (Nat.le_of_eq rfl) (by decide) (by decide) rfl fun _ _ _ h3 E F _ q8 => ?_
  obtain ⟨rfl, rfl⟩ := q8
  show Go K _ _ _ _ [(.int (Int32.ofNat (symN (sx0 (vv p q r))))), .int 0, .ref c]
  have G := q0.keep F nin0
  refine wStC (y := (Int32.ofNat (symN (sx0 (vv p q r))))) E d2_27 (by simp) G (by decide) (b8_of (symN_le _)).nar 0 (by decide) (show 0 < 4 from by decide) rfl fun _ D A _ H => ?_
  have I : Arv Z D c kc .char 4 [(.int (Int32.ofNat (symN (sx0 (vv p q r))))), .int 0, .int 0, .int 0] (.int 0) := H
  refine gAloadN A d2_28 rfl rfl rfl ?_
  refine gIloadN A d2_29 rfl rfl ?_
  refine gIconst (z := 1) A d2_30 rfl rfl ?_
  refine gIadd (z := 1) A d2_31 (by decide) rfl ?_
  refine gIload A d2_32 rfl rfl ?_
  refine gBipush (z := 12) A d2_34 rfl rfl ?_
  refine gIushr (z := (Int32.ofNat ((vv p q r) / 4096))) A d2_36 (ushrN (k := 12) (by decide) (by decide) (by decide) (by omega)) rfl ?_
  refine gBipush (z := 63) A d2_37 rfl rfl ?_
  refine gIand (z := (Int32.ofNat (sx1 (vv p q r)))) A d2_39 (maskN (k := 6) (by decide) (by decide) (by decide) (by omega)) rfl ?_
  refine wStatic (y := mN0) (Wd := 2) (argsL := [.int (Int32.ofNat (sx1 (vv p q r)))]) (rest := [.int 1, .ref c]) A d2_40 (ow10 hw) (ow11 hw) (ow5 hw) (ow12 hw) (by decide) (Cb.ct (ob_sy hw hE (sx1 (vv p q r)) D A.old (sx1_lt _)) (ow12 hw) (ow5 hw) hE (by decide) (by decide)) (by simp) rfl (lenOf opd0 rfl) rfl (Nat.le_of_eq rfl) (by decide) (by decide) rfl fun _ _ _ _ J L _ M => ?_
  obtain ⟨rfl, rfl⟩ := M
  show Go K _ _ _ _ [(.int (Int32.ofNat (symN (sx1 (vv p q r))))), .int 1, .ref c]
  have N := I.keep L nin0
  refine wStC (y := (Int32.ofNat (symN (sx1 (vv p q r))))) J d2_43 (by simp) N (by decide) (b8_of (symN_le _)).nar 1 (by decide) (show 1 < 4 from by decide) rfl fun _ O B _ Q => ?_
  have R : Arv Z O c kc .char 4 [(.int (Int32.ofNat (symN (sx0 (vv p q r))))), (.int (Int32.ofNat (symN (sx1 (vv p q r))))), .int 0, .int 0] (.int 0) := Q
  refine gAloadN B d2_44 rfl rfl rfl ?_
  refine gIloadN B d2_45 rfl rfl ?_
  refine gIconst (z := 2) B d2_46 rfl rfl ?_
  refine gIadd (z := 2) B d2_47 (by decide) rfl ?_
  refine gIload B d2_48 rfl rfl ?_
  refine gIconst (z := 2) B d2_50 rfl rfl ?_
  refine gIcmpYes (pc' := 68) B d2_51 (tlt (by decide)).1 (by decide) rfl ?_
  refine gBipush (z := 61) B d2_68 rfl rfl ?_
  refine wStC (y := 61) B d2_70 (by simp) R (by decide) (by decide) 2 (by decide) (show 2 < 4 from by decide) rfl fun _ S C _ U => ?_
  have V : Arv Z S c kc .char 4 [(.int (Int32.ofNat (symN (sx0 (vv p q r))))), (.int (Int32.ofNat (symN (sx1 (vv p q r))))), .int 61, .int 0] (.int 0) := U
  refine gAloadN C d2_71 rfl rfl rfl ?_
  refine gIloadN C d2_72 rfl rfl ?_
  refine gIconst (z := 3) C d2_73 rfl rfl ?_
  refine gIadd (z := 3) C d2_74 (by decide) rfl ?_
  refine gIload C d2_75 rfl rfl ?_
  refine gIconst (z := 3) C d2_77 rfl rfl ?_
  refine gIcmpYes (pc' := 92) C d2_78 (feq (by decide)).2 (by decide) rfl ?_
  refine gBipush (z := 61) C d2_92 rfl rfl ?_
  refine wStC (y := 61) C d2_94 (by simp) V (by decide) (by decide) 3 (by decide) (show 3 < 4 from by decide) rfl fun _ X Y _ Aa => ?_
  have Ab : Arv Z X c kc .char 4 [(.int (Int32.ofNat (symN (sx0 (vv p q r))))), (.int (Int32.ofNat (symN (sx1 (vv p q r))))), .int 61, .int 61] (.int 0) := Aa
  exact wRet0 (so := []) Y d2_95 (by decide) (by decide) (fun _ q => nomatch q) ⟨rfl, rfl, Ab⟩
theorem d2_54 : Dc cN3 54 (.iload 6) 2 := by decide +kernel
theorem d2_56 : Dc cN3 56 (.bipush 6) 2 := by decide +kernel
theorem d2_58 : Dc cN3 58 (.iushr) 1 := by decide +kernel
theorem d2_59 : Dc cN3 59 (.bipush 63) 2 := by decide +kernel
theorem d2_61 : Dc cN3 61 (.iand) 1 := by decide +kernel
theorem d2_62 : Dc cN3 62 (.invokestatic 37) 3 := by decide +kernel
theorem d2_65 : Dc cN3 65 (.goto 5) 3 := by decide +kernel
theorem ob_gr402 (hw : TH a0 Z) (hE : EW Z a0 consts_1) (c : Addr) (kc : ClassId) (p q r : Nat) (h : Heap) (hO : Ol Z h) (q0 : Arv Z h c kc .char 4 [.int 0, .int 0, .int 0, .int 0] (.int 0)) (hp : (p < 256)) (hq : (q < 256)) (hr : (r < 256)) (ge_c : Z.heap.size ≤ c) :
 Ct l Z consts_1 mN3 cN3 7 none ⟨1, 0, 0, 14⟩ #[.ref c, .int 0, .int (Int32.ofNat p), .int (Int32.ofNat q), .int (Int32.ofNat r), .int 2] h [c] (fun rv' hp' so' => rv' = none ∧ so' = [] ∧ Arv Z hp' c kc .char 4 [(.int (Int32.ofNat (symN (sx0 (vv p q r))))), (.int (Int32.ofNat (symN (sx1 (vv p q r))))), (.int (Int32.ofNat (symN (sx2 (vv p q r))))), .int 61] (.int 0)) := by
  refine Ct.mk "com/example/drafts_under_key/draftsunderkey/crypto/StrictBase64DecodePinLaw" "group" rfl rfl (a0 := a0) (plainFor_of_name opn0) hO hE (fun x q => by simp at q; subst q; exact ge_c) ?_
  intro K T W
  rw [oef3]
  have hvv : vv p q r < 16777216 := by unfold vv; omega
  refine gIloadN W d2_0 rfl rfl ?_
  refine gBipush (z := 16) W d2_1 rfl rfl ?_
  refine gIshl (z := (Int32.ofNat (p * 65536))) W d2_3 (shlN (k := 16) (by decide) (by decide) (by omega)) rfl ?_
  refine gIloadN W d2_4 rfl rfl ?_
  refine gBipush (z := 8) W d2_5 rfl rfl ?_
  refine gIshl (z := (Int32.ofNat (q * 256))) W d2_7 (shlN (k := 8) (by decide) (by decide) (by omega)) rfl ?_
  refine gIor (z := (Int32.ofNat (p * 65536 + q * 256))) W d2_8 (orN (k := 16) (P := 65536) (by decide) (by decide) (by omega) (by omega) (by omega)) rfl ?_
  refine gIload W d2_9 rfl rfl ?_
  refine gIor (z := (Int32.ofNat (vv p q r))) W d2_11 (orN (k := 8) (P := 256) (by decide) (by decide) (by omega) (by omega) (by omega)) rfl ?_
  refine gIstore (ls' := #[aR c, aI 0, aI (Int32.ofNat p), aI (Int32.ofNat q), aI (Int32.ofNat r), aI 2, aI (Int32.ofNat (vv p q r))]) W d2_12 rfl rfl ?_
  refine gAloadN W d2_14 rfl rfl rfl ?_
  refine gIloadN W d2_15 rfl rfl ?_
  refine gIload W d2_16 rfl rfl ?_
  refine gBipush (z := 18) W d2_18 rfl rfl ?_
  refine gIushr (z := (Int32.ofNat ((vv p q r) / 262144))) W d2_20 (ushrN (k := 18) (by decide) (by decide) (by decide) (by omega)) rfl ?_
  refine gBipush (z := 63) W d2_21 rfl rfl ?_
  refine gIand (z := (Int32.ofNat (sx0 (vv p q r)))) W d2_23 (maskN (k := 6) (by decide) (by decide) (by decide) (by omega)) rfl ?_
  refine wStatic (y := mN0) (Wd := 2) (argsL := [.int (Int32.ofNat (sx0 (vv p q r)))]) (rest := [.int 0, .ref c]) W d2_24 (ow10 hw) (ow11 hw) (ow5 hw) (ow12 hw) (by decide) (Cb.ct (ob_sy hw hE (sx0 (vv p q r)) h W.old (sx0_lt _)) (ow12 hw) (ow5 hw) hE (by decide) (by decide)) (by simp) rfl (lenOf opd0 rfl) rfl (Nat.le_of_eq rfl) (by decide) (by decide) rfl fun _ _ _ _ G H _ I => ?_
  obtain ⟨rfl, rfl⟩ := I
  show Go K _ _ _ _ [(.int (Int32.ofNat (symN (sx0 (vv p q r))))), .int 0, .ref c]
  have J := q0.keep H nin0
  refine wStC (y := (Int32.ofNat (symN (sx0 (vv p q r))))) G d2_27 (by simp) J (by decide) (b8_of (symN_le _)).nar 0 (by decide) (show 0 < 4 from by decide) rfl fun _ D B _ L => ?_
  have M : Arv Z D c kc .char 4 [(.int (Int32.ofNat (symN (sx0 (vv p q r))))), .int 0, .int 0, .int 0] (.int 0) := L
  refine gAloadN B d2_28 rfl rfl rfl ?_
  refine gIloadN B d2_29 rfl rfl ?_
  refine gIconst (z := 1) B d2_30 rfl rfl ?_
  refine gIadd (z := 1) B d2_31 (by decide) rfl ?_
  refine gIload B d2_32 rfl rfl ?_
  refine gBipush (z := 12) B d2_34 rfl rfl ?_
  refine gIushr (z := (Int32.ofNat ((vv p q r) / 4096))) B d2_36 (ushrN (k := 12) (by decide) (by decide) (by decide) (by omega)) rfl ?_
  refine gBipush (z := 63) B d2_37 rfl rfl ?_
  refine gIand (z := (Int32.ofNat (sx1 (vv p q r)))) B d2_39 (maskN (k := 6) (by decide) (by decide) (by decide) (by omega)) rfl ?_
  refine wStatic (y := mN0) (Wd := 2) (argsL := [.int (Int32.ofNat (sx1 (vv p q r)))]) (rest := [.int 1, .ref c]) B d2_40 (ow10 hw) (ow11 hw) (ow5 hw) (ow12 hw) (by decide) (Cb.ct (ob_sy hw hE (sx1 (vv p q r)) D B.old (sx1_lt _)) (ow12 hw) (ow5 hw) hE (by decide) (by decide)) (by simp) rfl (lenOf opd0 rfl) rfl (Nat.le_of_eq rfl) (by decide) (by decide) rfl fun _ _ _ _ N O _ Q => ?_
  obtain ⟨rfl, rfl⟩ := Q
  show Go K _ _ _ _ [(.int (Int32.ofNat (symN (sx1 (vv p q r))))), .int 1, .ref c]
  have R := M.keep O nin0
  refine wStC (y := (Int32.ofNat (symN (sx1 (vv p q r))))) N d2_43 (by simp) R (by decide) (b8_of (symN_le _)).nar 1 (by decide) (show 1 < 4 from by decide) rfl fun _ E A _ S => ?_
  have U : Arv Z E c kc .char 4 [(.int (Int32.ofNat (symN (sx0 (vv p q r))))), (.int (Int32.ofNat (symN (sx1 (vv p q r))))), .int 0, .int 0] (.int 0) := S
  refine gAloadN A d2_44 rfl rfl rfl ?_
  refine gIloadN A d2_45 rfl rfl ?_
  refine gIconst (z := 2) A d2_46 rfl rfl ?_
  refine gIadd (z := 2) A d2_47 (by decide) rfl ?_
  refine gIload A d2_48 rfl rfl ?_
  refine gIconst (z := 2) A d2_50 rfl rfl ?_
  refine gIcmpNo A d2_51 (flt (by decide)).1 rfl ?_
  refine gIload A d2_54 rfl rfl ?_
  refine gBipush (z := 6) A d2_56 rfl rfl ?_
  refine gIushr (z := (Int32.ofNat ((vv p q r) / 64))) A d2_58 (ushrN (k := 6) (by decide) (by decide) (by decide) (by omega)) rfl ?_
  refine gBipush (z := 63) A d2_59 rfl rfl ?_
  refine gIand (z := (Int32.ofNat (sx2 (vv p q r)))) A d2_61 (maskN (k := 6) (by decide) (by decide) (by decide) (by omega)) rfl ?_
  refine wStatic (y := mN0) (Wd := 2) (argsL := [.int (Int32.ofNat (sx2 (vv p q r)))]) (rest := [.int 2, .ref c]) A d2_62 (ow10 hw) (ow11 hw) (ow5 hw) (ow12 hw) (by decide) (Cb.ct (ob_sy hw hE (sx2 (vv p q r)) E A.old (sx2_lt _)) (ow12 hw) (ow5 hw) hE (by decide) (by decide)) (by simp) rfl (lenOf opd0 rfl) rfl (Nat.le_of_eq rfl) (by decide) (by decide) rfl fun _ _ _ _ F V _ X => ?_
  obtain ⟨rfl, rfl⟩ := X
  show Go K _ _ _ _ [(.int (Int32.ofNat (symN (sx2 (vv p q r))))), .int 2, .ref c]
  refine gGoto (pc' := 70) F d2_65 (by decide) rfl ?_
  have Y := U.keep V nin0
  refine wStC (y := (Int32.ofNat (symN (sx2 (vv p q r))))) F d2_70 (by simp) Y (by decide) (b8_of (symN_le _)).nar 2 (by decide) (show 2 < 4 from by decide) rfl fun _ Aa C _ Ab => ?_
  have Ac : Arv Z Aa c kc .char 4 [(.int (Int32.ofNat (symN (sx0 (vv p q r))))), (.int (Int32.ofNat (symN (sx1 (vv p q r))))), (.int (Int32.ofNat (symN (sx2 (vv p q r))))), .int 0] (.int 0) := Ab
  refine gAloadN C d2_71 rfl rfl rfl ?_
  refine gIloadN C d2_72 rfl rfl ?_
  refine gIconst (z := 3) C d2_73 rfl rfl ?_
  refine gIadd (z := 3) C d2_74 (by decide) rfl ?_
  refine gIload C d2_75 rfl rfl ?_
  refine gIconst (z := 3) C d2_77 rfl rfl ?_
  refine gIcmpYes (pc' := 92) C d2_78 (feq (by decide)).2 (by decide) rfl ?_
  refine gBipush (z := 61) C d2_92 rfl rfl ?_
  refine wStC (y := 61) C d2_94 (by simp) Ac (by decide) (by decide) 3 (by decide) (show 3 < 4 from by decide) rfl fun _ Ad Ae _ Af => ?_
  have Ag : Arv Z Ad c kc .char 4 [(.int (Int32.ofNat (symN (sx0 (vv p q r))))), (.int (Int32.ofNat (symN (sx1 (vv p q r))))), (.int (Int32.ofNat (symN (sx2 (vv p q r))))), .int 61] (.int 0) := Af
  exact wRet0 (so := []) Ae d2_95 (by decide) (by decide) (fun _ q => nomatch q) ⟨rfl, rfl, Ag⟩
theorem d2_81 : Dc cN3 81 (.iload 6) 2 := by decide +kernel
theorem d2_83 : Dc cN3 83 (.bipush 63) 2 := by decide +kernel
theorem d2_85 : Dc cN3 85 (.iand) 1 := by decide +kernel
theorem d2_86 : Dc cN3 86 (.invokestatic 37) 3 := by decide +kernel
theorem d2_89 : Dc cN3 89 (.goto 5) 3 := by decide +kernel
theorem ob_gr403 (hw : TH a0 Z) (hE : EW Z a0 consts_1) (c : Addr) (kc : ClassId) (p q r : Nat) (h : Heap) (hO : Ol Z h) (q0 : Arv Z h c kc .char 4 [.int 0, .int 0, .int 0, .int 0] (.int 0)) (hp : (p < 256)) (hq : (q < 256)) (hr : (r < 256)) (ge_c : Z.heap.size ≤ c) :
 Ct l Z consts_1 mN3 cN3 7 none ⟨1, 0, 0, 14⟩ #[.ref c, .int 0, .int (Int32.ofNat p), .int (Int32.ofNat q), .int (Int32.ofNat r), .int 3] h [c] (fun rv' hp' so' => rv' = none ∧ so' = [] ∧ Arv Z hp' c kc .char 4 [(.int (Int32.ofNat (symN (sx0 (vv p q r))))), (.int (Int32.ofNat (symN (sx1 (vv p q r))))), (.int (Int32.ofNat (symN (sx2 (vv p q r))))), (.int (Int32.ofNat (symN (sx3 (vv p q r)))))] (.int 0)) := by
  refine Ct.mk "com/example/drafts_under_key/draftsunderkey/crypto/StrictBase64DecodePinLaw" "group" rfl rfl (a0 := a0) (plainFor_of_name opn0) hO hE (fun x q => by simp at q; subst q; exact ge_c) ?_
  intro K T W
  rw [oef3]
  have hvv : vv p q r < 16777216 := by unfold vv; omega
  refine gIloadN W d2_0 rfl rfl ?_
  refine gBipush (z := 16) W d2_1 rfl rfl ?_
  refine gIshl (z := (Int32.ofNat (p * 65536))) W d2_3 (shlN (k := 16) (by decide) (by decide) (by omega)) rfl ?_
  refine gIloadN W d2_4 rfl rfl ?_
  refine gBipush (z := 8) W d2_5 rfl rfl ?_
  refine gIshl (z := (Int32.ofNat (q * 256))) W d2_7 (shlN (k := 8) (by decide) (by decide) (by omega)) rfl ?_
  refine gIor (z := (Int32.ofNat (p * 65536 + q * 256))) W d2_8 (orN (k := 16) (P := 65536) (by decide) (by decide) (by omega) (by omega) (by omega)) rfl ?_
  refine gIload W d2_9 rfl rfl ?_
  refine gIor (z := (Int32.ofNat (vv p q r))) W d2_11 (orN (k := 8) (P := 256) (by decide) (by decide) (by omega) (by omega) (by omega)) rfl ?_
  refine gIstore (ls' := #[aR c, aI 0, aI (Int32.ofNat p), aI (Int32.ofNat q), aI (Int32.ofNat r), aI 3, aI (Int32.ofNat (vv p q r))]) W d2_12 rfl rfl ?_
  refine gAloadN W d2_14 rfl rfl rfl ?_
  refine gIloadN W d2_15 rfl rfl ?_
  refine gIload W d2_16 rfl rfl ?_
  refine gBipush (z := 18) W d2_18 rfl rfl ?_
  refine gIushr (z := (Int32.ofNat ((vv p q r) / 262144))) W d2_20 (ushrN (k := 18) (by decide) (by decide) (by decide) (by omega)) rfl ?_
  refine gBipush (z := 63) W d2_21 rfl rfl ?_
  refine gIand (z := (Int32.ofNat (sx0 (vv p q r)))) W d2_23 (maskN (k := 6) (by decide) (by decide) (by decide) (by omega)) rfl ?_
  refine wStatic (y := mN0) (Wd := 2) (argsL := [.int (Int32.ofNat (sx0 (vv p q r)))]) (rest := [.int 0, .ref c]) W d2_24 (ow10 hw) (ow11 hw) (ow5 hw) (ow12 hw) (by decide) (Cb.ct (ob_sy hw hE (sx0 (vv p q r)) h W.old (sx0_lt _)) (ow12 hw) (ow5 hw) hE (by decide) (by decide)) (by simp) rfl (lenOf opd0 rfl) rfl (Nat.le_of_eq rfl) (by decide) (by decide) rfl fun _ _ _ _ I J _ L => ?_
  obtain ⟨rfl, rfl⟩ := L
  show Go K _ _ _ _ [(.int (Int32.ofNat (symN (sx0 (vv p q r))))), .int 0, .ref c]
  have M := q0.keep J nin0
  refine wStC (y := (Int32.ofNat (symN (sx0 (vv p q r))))) I d2_27 (by simp) M (by decide) (b8_of (symN_le _)).nar 0 (by decide) (show 0 < 4 from by decide) rfl fun _ D C _ N => ?_
  have O : Arv Z D c kc .char 4 [(.int (Int32.ofNat (symN (sx0 (vv p q r))))), .int 0, .int 0, .int 0] (.int 0) := N
  refine gAloadN C d2_28 rfl rfl rfl ?_
  refine gIloadN C d2_29 rfl rfl ?_
  refine gIconst (z := 1) C d2_30 rfl rfl ?_
  refine gIadd (z := 1) C d2_31 (by decide) rfl ?_
  refine gIload C d2_32 rfl rfl ?_
  refine gBipush (z := 12) C d2_34 rfl rfl ?_
  refine gIushr (z := (Int32.ofNat ((vv p q r) / 4096))) C d2_36 (ushrN (k := 12) (by decide) (by decide) (by decide) (by omega)) rfl ?_
  refine gBipush (z := 63) C d2_37 rfl rfl ?_
  refine gIand (z := (Int32.ofNat (sx1 (vv p q r)))) C d2_39 (maskN (k := 6) (by decide) (by decide) (by decide) (by omega)) rfl ?_
  refine wStatic (y := mN0) (Wd := 2) (argsL := [.int (Int32.ofNat (sx1 (vv p q r)))]) (rest := [.int 1, .ref c]) C d2_40 (ow10 hw) (ow11 hw) (ow5 hw) (ow12 hw) (by decide) (Cb.ct (ob_sy hw hE (sx1 (vv p q r)) D C.old (sx1_lt _)) (ow12 hw) (ow5 hw) hE (by decide) (by decide)) (by simp) rfl (lenOf opd0 rfl) rfl (Nat.le_of_eq rfl) (by decide) (by decide) rfl fun _ _ _ _ Q R _ S => ?_
  obtain ⟨rfl, rfl⟩ := S
  show Go K _ _ _ _ [(.int (Int32.ofNat (symN (sx1 (vv p q r))))), .int 1, .ref c]
  have U := O.keep R nin0
  refine wStC (y := (Int32.ofNat (symN (sx1 (vv p q r))))) Q d2_43 (by simp) U (by decide) (b8_of (symN_le _)).nar 1 (by decide) (show 1 < 4 from by decide) rfl fun _ E A _ V => ?_
  have X : Arv Z E c kc .char 4 [(.int (Int32.ofNat (symN (sx0 (vv p q r))))), (.int (Int32.ofNat (symN (sx1 (vv p q r))))), .int 0, .int 0] (.int 0) := V
  refine gAloadN A d2_44 rfl rfl rfl ?_
  refine gIloadN A d2_45 rfl rfl ?_
  refine gIconst (z := 2) A d2_46 rfl rfl ?_
  refine gIadd (z := 2) A d2_47 (by decide) rfl ?_
  refine gIload A d2_48 rfl rfl ?_
  refine gIconst (z := 2) A d2_50 rfl rfl ?_
  refine gIcmpNo A d2_51 (flt (by decide)).1 rfl ?_
  refine gIload A d2_54 rfl rfl ?_
  refine gBipush (z := 6) A d2_56 rfl rfl ?_
  refine gIushr (z := (Int32.ofNat ((vv p q r) / 64))) A d2_58 (ushrN (k := 6) (by decide) (by decide) (by decide) (by omega)) rfl ?_
  refine gBipush (z := 63) A d2_59 rfl rfl ?_
  refine gIand (z := (Int32.ofNat (sx2 (vv p q r)))) A d2_61 (maskN (k := 6) (by decide) (by decide) (by decide) (by omega)) rfl ?_
  refine wStatic (y := mN0) (Wd := 2) (argsL := [.int (Int32.ofNat (sx2 (vv p q r)))]) (rest := [.int 2, .ref c]) A d2_62 (ow10 hw) (ow11 hw) (ow5 hw) (ow12 hw) (by decide) (Cb.ct (ob_sy hw hE (sx2 (vv p q r)) E A.old (sx2_lt _)) (ow12 hw) (ow5 hw) hE (by decide) (by decide)) (by simp) rfl (lenOf opd0 rfl) rfl (Nat.le_of_eq rfl) (by decide) (by decide) rfl fun _ _ _ _ F Y _ Aa => ?_
  obtain ⟨rfl, rfl⟩ := Aa
  show Go K _ _ _ _ [(.int (Int32.ofNat (symN (sx2 (vv p q r))))), .int 2, .ref c]
  refine gGoto (pc' := 70) F d2_65 (by decide) rfl ?_
  have Ab := X.keep Y nin0
  refine wStC (y := (Int32.ofNat (symN (sx2 (vv p q r))))) F d2_70 (by simp) Ab (by decide) (b8_of (symN_le _)).nar 2 (by decide) (show 2 < 4 from by decide) rfl fun _ G B _ Ac => ?_
  have Ad : Arv Z G c kc .char 4 [(.int (Int32.ofNat (symN (sx0 (vv p q r))))), (.int (Int32.ofNat (symN (sx1 (vv p q r))))), (.int (Int32.ofNat (symN (sx2 (vv p q r))))), .int 0] (.int 0) := Ac
  refine gAloadN B d2_71 rfl rfl rfl ?_
  refine gIloadN B d2_72 rfl rfl ?_
  refine gIconst (z := 3) B d2_73 rfl rfl ?_
  refine gIadd (z := 3) B d2_74 (by decide) rfl ?_
  refine gIload B d2_75 rfl rfl ?_
  refine gIconst (z := 3) B d2_77 rfl rfl ?_
  refine gIcmpNo B d2_78 (teq (by decide)).2 rfl ?_
  refine gIload B d2_81 rfl rfl ?_
  refine gBipush (z := 63) B d2_83 rfl rfl ?_
  refine gIand (z := (Int32.ofNat (sx3 (vv p q r)))) B d2_85 (maskN (k := 6) (by decide) (by decide) (by decide) (by omega)) rfl ?_
  refine wStatic (y := mN0) (Wd := 2) (argsL := [.int (Int32.ofNat (sx3 (vv p q r)))]) (rest := [.int 3, .ref c]) B d2_86 (ow10 hw) (ow11 hw) (ow5 hw) (ow12 hw) (by decide) (Cb.ct (ob_sy hw hE (sx3 (vv p q r)) G B.old (sx3_lt _)) (ow12 hw) (ow5 hw) hE (by decide) (by decide)) (by simp) rfl (lenOf opd0 rfl) rfl (Nat.le_of_eq rfl) (by decide) (by decide) rfl fun _ _ _ _ H Ae _ Af => ?_
  obtain ⟨rfl, rfl⟩ := Af
  show Go K _ _ _ _ [(.int (Int32.ofNat (symN (sx3 (vv p q r))))), .int 3, .ref c]
  refine gGoto (pc' := 94) H d2_89 (by decide) rfl ?_
  have Ag := Ad.keep Ae nin0
  refine wStC (y := (Int32.ofNat (symN (sx3 (vv p q r))))) H d2_94 (by simp) Ag (by decide) (b8_of (symN_le _)).nar 3 (by decide) (show 3 < 4 from by decide) rfl fun _ Ah Ai _ Aj => ?_
  have Ak : Arv Z Ah c kc .char 4 [(.int (Int32.ofNat (symN (sx0 (vv p q r))))), (.int (Int32.ofNat (symN (sx1 (vv p q r))))), (.int (Int32.ofNat (symN (sx2 (vv p q r))))), (.int (Int32.ofNat (symN (sx3 (vv p q r)))))] (.int 0) := Aj
  exact wRet0 (so := []) Ai d2_95 (by decide) (by decide) (fun _ q => nomatch q) ⟨rfl, rfl, Ak⟩
theorem ob_gr803 (hw : TH a0 Z) (hE : EW Z a0 consts_1) (c : Addr) (kc : ClassId) (p q r : Nat) (h : Heap) (hO : Ol Z h) (q0 : Arv Z h c kc .char 8 [.int 0, .int 0, .int 0, .int 0, .int 0, .int 0, .int 0, .int 0] (.int 0)) (hp : (p < 256)) (hq : (q < 256)) (hr : (r < 256)) (ge_c : Z.heap.size ≤ c) :
 Ct l Z consts_1 mN3 cN3 7 none ⟨1, 0, 0, 14⟩ #[.ref c, .int 0, .int (Int32.ofNat p), .int (Int32.ofNat q), .int (Int32.ofNat r), .int 3] h [c] (fun rv' hp' so' => rv' = none ∧ so' = [] ∧ Arv Z hp' c kc .char 8 [(.int (Int32.ofNat (symN (sx0 (vv p q r))))), (.int (Int32.ofNat (symN (sx1 (vv p q r))))), (.int (Int32.ofNat (symN (sx2 (vv p q r))))), (.int (Int32.ofNat (symN (sx3 (vv p q r))))), .int 0, .int 0, .int 0, .int 0] (.int 0)) := by
  refine Ct.mk "com/example/drafts_under_key/draftsunderkey/crypto/StrictBase64DecodePinLaw" "group" rfl rfl (a0 := a0) (plainFor_of_name opn0) hO hE (fun x q => by simp at q; subst q; exact ge_c) ?_
  intro K T W
  rw [oef3]
  have hvv : vv p q r < 16777216 := by unfold vv; omega
  refine gIloadN W d2_0 rfl rfl ?_
  refine gBipush (z := 16) W d2_1 rfl rfl ?_
  refine gIshl (z := (Int32.ofNat (p * 65536))) W d2_3 (shlN (k := 16) (by decide) (by decide) (by omega)) rfl ?_
  refine gIloadN W d2_4 rfl rfl ?_
  refine gBipush (z := 8) W d2_5 rfl rfl ?_
  refine gIshl (z := (Int32.ofNat (q * 256))) W d2_7 (shlN (k := 8) (by decide) (by decide) (by omega)) rfl ?_
  refine gIor (z := (Int32.ofNat (p * 65536 + q * 256))) W d2_8 (orN (k := 16) (P := 65536) (by decide) (by decide) (by omega) (by omega) (by omega)) rfl ?_
  refine gIload W d2_9 rfl rfl ?_
  refine gIor (z := (Int32.ofNat (vv p q r))) W d2_11 (orN (k := 8) (P := 256) (by decide) (by decide) (by omega) (by omega) (by omega)) rfl ?_
  refine gIstore (ls' := #[aR c, aI 0, aI (Int32.ofNat p), aI (Int32.ofNat q), aI (Int32.ofNat r), aI 3, aI (Int32.ofNat (vv p q r))]) W d2_12 rfl rfl ?_
  refine gAloadN W d2_14 rfl rfl rfl ?_
  refine gIloadN W d2_15 rfl rfl ?_
  refine gIload W d2_16 rfl rfl ?_
  refine gBipush (z := 18) W d2_18 rfl rfl ?_
  refine gIushr (z := (Int32.ofNat ((vv p q r) / 262144))) W d2_20 (ushrN (k := 18) (by decide) (by decide) (by decide) (by omega)) rfl ?_
  refine gBipush (z := 63) W d2_21 rfl rfl ?_
  refine gIand (z := (Int32.ofNat (sx0 (vv p q r)))) W d2_23 (maskN (k := 6) (by decide) (by decide) (by decide) (by omega)) rfl ?_
  refine wStatic (y := mN0) (Wd := 2) (argsL := [.int (Int32.ofNat (sx0 (vv p q r)))]) (rest := [.int 0, .ref c]) W d2_24 (ow10 hw) (ow11 hw) (ow5 hw) (ow12 hw) (by decide) (Cb.ct (ob_sy hw hE (sx0 (vv p q r)) h W.old (sx0_lt _)) (ow12 hw) (ow5 hw) hE (by decide) (by decide)) (by simp) rfl (lenOf opd0 rfl) rfl (Nat.le_of_eq rfl) (by decide) (by decide) rfl fun _ _ _ _ I J _ L => ?_
  obtain ⟨rfl, rfl⟩ := L
  show Go K _ _ _ _ [(.int (Int32.ofNat (symN (sx0 (vv p q r))))), .int 0, .ref c]
  have M := q0.keep J nin0
  refine wStC (y := (Int32.ofNat (symN (sx0 (vv p q r))))) I d2_27 (by simp) M (by decide) (b8_of (symN_le _)).nar 0 (by decide) (show 0 < 8 from by decide) rfl fun _ D C _ N => ?_
  have O : Arv Z D c kc .char 8 [(.int (Int32.ofNat (symN (sx0 (vv p q r))))), .int 0, .int 0, .int 0, .int 0, .int 0, .int 0, .int 0] (.int 0) := N
  refine gAloadN C d2_28 rfl rfl rfl ?_
  refine gIloadN C d2_29 rfl rfl ?_
  refine gIconst (z := 1) C d2_30 rfl rfl ?_
  refine gIadd (z := 1) C d2_31 (by decide) rfl ?_
  refine gIload C d2_32 rfl rfl ?_
  refine gBipush (z := 12) C d2_34 rfl rfl ?_
  refine gIushr (z := (Int32.ofNat ((vv p q r) / 4096))) C d2_36 (ushrN (k := 12) (by decide) (by decide) (by decide) (by omega)) rfl ?_
  refine gBipush (z := 63) C d2_37 rfl rfl ?_
  refine gIand (z := (Int32.ofNat (sx1 (vv p q r)))) C d2_39 (maskN (k := 6) (by decide) (by decide) (by decide) (by omega)) rfl ?_
  refine wStatic (y := mN0) (Wd := 2) (argsL := [.int (Int32.ofNat (sx1 (vv p q r)))]) (rest := [.int 1, .ref c]) C d2_40 (ow10 hw) (ow11 hw) (ow5 hw) (ow12 hw) (by decide) (Cb.ct (ob_sy hw hE (sx1 (vv p q r)) D C.old (sx1_lt _)) (ow12 hw) (ow5 hw) hE (by decide) (by decide)) (by simp) rfl (lenOf opd0 rfl) rfl (Nat.le_of_eq rfl) (by decide) (by decide) rfl fun _ _ _ _ Q R _ S => ?_
  obtain ⟨rfl, rfl⟩ := S
  show Go K _ _ _ _ [(.int (Int32.ofNat (symN (sx1 (vv p q r))))), .int 1, .ref c]
  have U := O.keep R nin0
  refine wStC (y := (Int32.ofNat (symN (sx1 (vv p q r))))) Q d2_43 (by simp) U (by decide) (b8_of (symN_le _)).nar 1 (by decide) (show 1 < 8 from by decide) rfl fun _ E A _ V => ?_
  have X : Arv Z E c kc .char 8 [(.int (Int32.ofNat (symN (sx0 (vv p q r))))), (.int (Int32.ofNat (symN (sx1 (vv p q r))))), .int 0, .int 0, .int 0, .int 0, .int 0, .int 0] (.int 0) := V
  refine gAloadN A d2_44 rfl rfl rfl ?_
  refine gIloadN A d2_45 rfl rfl ?_
  refine gIconst (z := 2) A d2_46 rfl rfl ?_
  refine gIadd (z := 2) A d2_47 (by decide) rfl ?_
  refine gIload A d2_48 rfl rfl ?_
  refine gIconst (z := 2) A d2_50 rfl rfl ?_
  refine gIcmpNo A d2_51 (flt (by decide)).1 rfl ?_
  refine gIload A d2_54 rfl rfl ?_
  refine gBipush (z := 6) A d2_56 rfl rfl ?_
  refine gIushr (z := (Int32.ofNat ((vv p q r) / 64))) A d2_58 (ushrN (k := 6) (by decide) (by decide) (by decide) (by omega)) rfl ?_
  refine gBipush (z := 63) A d2_59 rfl rfl ?_
  refine gIand (z := (Int32.ofNat (sx2 (vv p q r)))) A d2_61 (maskN (k := 6) (by decide) (by decide) (by decide) (by omega)) rfl ?_
  refine wStatic (y := mN0) (Wd := 2) (argsL := [.int (Int32.ofNat (sx2 (vv p q r)))]) (rest := [.int 2, .ref c]) A d2_62 (ow10 hw) (ow11 hw) (ow5 hw) (ow12 hw) (by decide) (Cb.ct (ob_sy hw hE (sx2 (vv p q r)) E A.old (sx2_lt _)) (ow12 hw) (ow5 hw) hE (by decide) (by decide)) (by simp) rfl (lenOf opd0 rfl) rfl (Nat.le_of_eq rfl) (by decide) (by decide) rfl fun _ _ _ _ F Y _ Aa => ?_
  obtain ⟨rfl, rfl⟩ := Aa
  show Go K _ _ _ _ [(.int (Int32.ofNat (symN (sx2 (vv p q r))))), .int 2, .ref c]
  refine gGoto (pc' := 70) F d2_65 (by decide) rfl ?_
  have Ab := X.keep Y nin0
  refine wStC (y := (Int32.ofNat (symN (sx2 (vv p q r))))) F d2_70 (by simp) Ab (by decide) (b8_of (symN_le _)).nar 2 (by decide) (show 2 < 8 from by decide) rfl fun _ G B _ Ac => ?_
  have Ad : Arv Z G c kc .char 8 [(.int (Int32.ofNat (symN (sx0 (vv p q r))))), (.int (Int32.ofNat (symN (sx1 (vv p q r))))), (.int (Int32.ofNat (symN (sx2 (vv p q r))))), .int 0, .int 0, .int 0, .int 0, .int 0] (.int 0) := Ac
  refine gAloadN B d2_71 rfl rfl rfl ?_
  refine gIloadN B d2_72 rfl rfl ?_
  refine gIconst (z := 3) B d2_73 rfl rfl ?_
  refine gIadd (z := 3) B d2_74 (by decide) rfl ?_
  refine gIload B d2_75 rfl rfl ?_
  refine gIconst (z := 3) B d2_77 rfl rfl ?_
  refine gIcmpNo B d2_78 (teq (by decide)).2 rfl ?_
  refine gIload B d2_81 rfl rfl ?_
  refine gBipush (z := 63) B d2_83 rfl rfl ?_
  refine gIand (z := (Int32.ofNat (sx3 (vv p q r)))) B d2_85 (maskN (k := 6) (by decide) (by decide) (by decide) (by omega)) rfl ?_
  refine wStatic (y := mN0) (Wd := 2) (argsL := [.int (Int32.ofNat (sx3 (vv p q r)))]) (rest := [.int 3, .ref c]) B d2_86 (ow10 hw) (ow11 hw) (ow5 hw) (ow12 hw) (by decide) (Cb.ct (ob_sy hw hE (sx3 (vv p q r)) G B.old (sx3_lt _)) (ow12 hw) (ow5 hw) hE (by decide) (by decide)) (by simp) rfl (lenOf opd0 rfl) rfl (Nat.le_of_eq rfl) (by decide) (by decide) rfl fun _ _ _ _ H Ae _ Af => ?_
  obtain ⟨rfl, rfl⟩ := Af
  show Go K _ _ _ _ [(.int (Int32.ofNat (symN (sx3 (vv p q r))))), .int 3, .ref c]
  refine gGoto (pc' := 94) H d2_89 (by decide) rfl ?_
  have Ag := Ad.keep Ae nin0
  refine wStC (y := (Int32.ofNat (symN (sx3 (vv p q r))))) H d2_94 (by simp) Ag (by decide) (b8_of (symN_le _)).nar 3 (by decide) (show 3 < 8 from by decide) rfl fun _ Ah Ai _ Aj => ?_
  have Ak : Arv Z Ah c kc .char 8 [(.int (Int32.ofNat (symN (sx0 (vv p q r))))), (.int (Int32.ofNat (symN (sx1 (vv p q r))))), (.int (Int32.ofNat (symN (sx2 (vv p q r))))), (.int (Int32.ofNat (symN (sx3 (vv p q r))))), .int 0, .int 0, .int 0, .int 0] (.int 0) := Aj
  exact wRet0 (so := []) Ai d2_95 (by decide) (by decide) (fun _ q => nomatch q) ⟨rfl, rfl, Ak⟩
theorem ob_gr841 (hw : TH a0 Z) (hE : EW Z a0 consts_1) (c : Addr) (kc : ClassId) (p q r y0 y1 y2 y3 : Nat) (h : Heap) (hO : Ol Z h) (q0 : Arv Z h c kc .char 8 [.int (Int32.ofNat y0), .int (Int32.ofNat y1), .int (Int32.ofNat y2), .int (Int32.ofNat y3), .int 0, .int 0, .int 0, .int 0] (.int 0)) (hp : (p < 256)) (hq : (q < 256)) (hr : (r < 256)) (ge_c : Z.heap.size ≤ c) :
 Ct l Z consts_1 mN3 cN3 7 none ⟨1, 0, 0, 14⟩ #[.ref c, .int 4, .int (Int32.ofNat p), .int (Int32.ofNat q), .int (Int32.ofNat r), .int 1] h [c] (fun rv' hp' so' => rv' = none ∧ so' = [] ∧ Arv Z hp' c kc .char 8 [.int (Int32.ofNat y0), .int (Int32.ofNat y1), .int (Int32.ofNat y2), .int (Int32.ofNat y3), (.int (Int32.ofNat (symN (sx0 (vv p q r))))), (.int (Int32.ofNat (symN (sx1 (vv p q r))))), .int 61, .int 61] (.int 0)) := by
  refine Ct.mk "com/example/drafts_under_key/draftsunderkey/crypto/StrictBase64DecodePinLaw" "group" rfl rfl (a0 := a0) (plainFor_of_name opn0) hO hE (fun x q => by simp at q; subst q; exact ge_c) ?_
  intro K T W
  rw [oef3]
  have hvv : vv p q r < 16777216 := by unfold vv; omega
  refine gIloadN W d2_0 rfl rfl ?_
  refine gBipush (z := 16) W d2_1 rfl rfl ?_
  refine gIshl (z := (Int32.ofNat (p * 65536))) W d2_3 (shlN (k := 16) (by decide) (by decide) (by omega)) rfl ?_
  refine gIloadN W d2_4 rfl rfl ?_
  refine gBipush (z := 8) W d2_5 rfl rfl ?_
  refine gIshl (z := (Int32.ofNat (q * 256))) W d2_7 (shlN (k := 8) (by decide) (by decide) (by omega)) rfl ?_
  refine gIor (z := (Int32.ofNat (p * 65536 + q * 256))) W d2_8 (orN (k := 16) (P := 65536) (by decide) (by decide) (by omega) (by omega) (by omega)) rfl ?_
  refine gIload W d2_9 rfl rfl ?_
  refine gIor (z := (Int32.ofNat (vv p q r))) W d2_11 (orN (k := 8) (P := 256) (by decide) (by decide) (by omega) (by omega) (by omega)) rfl ?_
  refine gIstore (ls' := #[aR c, aI 4, aI (Int32.ofNat p), aI (Int32.ofNat q), aI (Int32.ofNat r), aI 1, aI (Int32.ofNat (vv p q r))]) W d2_12 rfl rfl ?_
  refine gAloadN W d2_14 rfl rfl rfl ?_
  refine gIloadN W d2_15 rfl rfl ?_
  refine gIload W d2_16 rfl rfl ?_
  refine gBipush (z := 18) W d2_18 rfl rfl ?_
  refine gIushr (z := (Int32.ofNat ((vv p q r) / 262144))) W d2_20 (ushrN (k := 18) (by decide) (by decide) (by decide) (by omega)) rfl ?_
  refine gBipush (z := 63) W d2_21 rfl rfl ?_
  refine gIand (z := (Int32.ofNat (sx0 (vv p q r)))) W d2_23 (maskN (k := 6) (by decide) (by decide) (by decide) (by omega)) rfl ?_
  refine wStatic (y := mN0) (Wd := 2) (argsL := [.int (Int32.ofNat (sx0 (vv p q r)))]) (rest := [.int 4, .ref c]) W d2_24 (ow10 hw) (ow11 hw) (ow5 hw) (ow12 hw) (by decide) (Cb.ct (ob_sy hw hE (sx0 (vv p q r)) h W.old (sx0_lt _)) (ow12 hw) (ow5 hw) hE (by decide) (by decide)) (by simp) rfl (lenOf opd0 rfl) rfl (Nat.le_of_eq rfl) (by decide) (by decide) rfl fun _ _ _ _ E F _ G => ?_
  obtain ⟨rfl, rfl⟩ := G
  show Go K _ _ _ _ [(.int (Int32.ofNat (symN (sx0 (vv p q r))))), .int 4, .ref c]
  have H := q0.keep F nin0
  refine wStC (y := (Int32.ofNat (symN (sx0 (vv p q r))))) E d2_27 (by simp) H (by decide) (b8_of (symN_le _)).nar 4 (by decide) (show 4 < 8 from by decide) rfl fun _ D A _ I => ?_
  have J : Arv Z D c kc .char 8 [.int (Int32.ofNat y0), .int (Int32.ofNat y1), .int (Int32.ofNat y2), .int (Int32.ofNat y3), (.int (Int32.ofNat (symN (sx0 (vv p q r))))), .int 0, .int 0, .int 0] (.int 0) := I
  refine gAloadN A d2_28 rfl rfl rfl ?_
  refine gIloadN A d2_29 rfl rfl ?_
  refine gIconst (z := 1) A d2_30 rfl rfl ?_
  refine gIadd (z := 5) A d2_31 (by decide) rfl ?_
  refine gIload A d2_32 rfl rfl ?_
  refine gBipush (z := 12) A d2_34 rfl rfl ?_
  refine gIushr (z := (Int32.ofNat ((vv p q r) / 4096))) A d2_36 (ushrN (k := 12) (by decide) (by decide) (by decide) (by omega)) rfl ?_
  refine gBipush (z := 63) A d2_37 rfl rfl ?_
  refine gIand (z := (Int32.ofNat (sx1 (vv p q r)))) A d2_39 (maskN (k := 6) (by decide) (by decide) (by decide) (by omega)) rfl ?_
  refine wStatic (y := mN0) (Wd := 2) (argsL := [.int (Int32.ofNat (sx1 (vv p q r)))]) (rest := [.int 5, .ref c]) A d2_40 (ow10 hw) (ow11 hw) (ow5 hw) (ow12 hw) (by decide) (Cb.ct (ob_sy hw hE (sx1 (vv p q r)) D A.old (sx1_lt _)) (ow12 hw) (ow5 hw) hE (by decide) (by decide)) (by simp) rfl (lenOf opd0 rfl) rfl (Nat.le_of_eq rfl) (by decide) (by decide) rfl fun _ _ _ _ L M _ N => ?_
  obtain ⟨rfl, rfl⟩ := N
  show Go K _ _ _ _ [(.int (Int32.ofNat (symN (sx1 (vv p q r))))), .int 5, .ref c]
  have O := J.keep M nin0
  refine wStC (y := (Int32.ofNat (symN (sx1 (vv p q r))))) L d2_43 (by simp) O (by decide) (b8_of (symN_le _)).nar 5 (by decide) (show 5 < 8 from by decide) rfl fun _ Q B _ R => ?_
  have S : Arv Z Q c kc .char 8 [.int (Int32.ofNat y0), .int (Int32.ofNat y1), .int (Int32.ofNat y2), .int (Int32.ofNat y3), (.int (Int32.ofNat (symN (sx0 (vv p q r))))), (.int (Int32.ofNat (symN (sx1 (vv p q r))))), .int 0, .int 0] (.int 0) := R
  refine gAloadN B d2_44 rfl rfl rfl ?_
  refine gIloadN B d2_45 rfl rfl ?_
  refine gIconst (z := 2) B d2_46 rfl rfl ?_
  refine gIadd (z := 6) B d2_47 (by decide) rfl ?_
  refine gIload B d2_48 rfl rfl ?_
  refine gIconst (z := 2) B d2_50 rfl rfl ?_
  refine gIcmpYes (pc' := 68) B d2_51 (tlt (by decide)).1 (by decide) rfl ?_
  refine gBipush (z := 61) B d2_68 rfl rfl ?_
  refine wStC (y := 61) B d2_70 (by simp) S (by decide) (by decide) 6 (by decide) (show 6 < 8 from by decide) rfl fun _ U C _ V => ?_
  have X : Arv Z U c kc .char 8 [.int (Int32.ofNat y0), .int (Int32.ofNat y1), .int (Int32.ofNat y2), .int (Int32.ofNat y3), (.int (Int32.ofNat (symN (sx0 (vv p q r))))), (.int (Int32.ofNat (symN (sx1 (vv p q r))))), .int 61, .int 0] (.int 0) := V
  refine gAloadN C d2_71 rfl rfl rfl ?_
  refine gIloadN C d2_72 rfl rfl ?_
  refine gIconst (z := 3) C d2_73 rfl rfl ?_
  refine gIadd (z := 7) C d2_74 (by decide) rfl ?_
  refine gIload C d2_75 rfl rfl ?_
  refine gIconst (z := 3) C d2_77 rfl rfl ?_
  refine gIcmpYes (pc' := 92) C d2_78 (feq (by decide)).2 (by decide) rfl ?_
  refine gBipush (z := 61) C d2_92 rfl rfl ?_
  refine wStC (y := 61) C d2_94 (by simp) X (by decide) (by decide) 7 (by decide) (show 7 < 8 from by decide) rfl fun _ Y Aa _ Ab => ?_
  have Ac : Arv Z Y c kc .char 8 [.int (Int32.ofNat y0), .int (Int32.ofNat y1), .int (Int32.ofNat y2), .int (Int32.ofNat y3), (.int (Int32.ofNat (symN (sx0 (vv p q r))))), (.int (Int32.ofNat (symN (sx1 (vv p q r))))), .int 61, .int 61] (.int 0) := Ab
  exact wRet0 (so := []) Aa d2_95 (by decide) (by decide) (fun _ q => nomatch q) ⟨rfl, rfl, Ac⟩
theorem ob_gr842 (hw : TH a0 Z) (hE : EW Z a0 consts_1) (c : Addr) (kc : ClassId) (p q r y0 y1 y2 y3 : Nat) (h : Heap) (hO : Ol Z h) (q0 : Arv Z h c kc .char 8 [.int (Int32.ofNat y0), .int (Int32.ofNat y1), .int (Int32.ofNat y2), .int (Int32.ofNat y3), .int 0, .int 0, .int 0, .int 0] (.int 0)) (hp : (p < 256)) (hq : (q < 256)) (hr : (r < 256)) (ge_c : Z.heap.size ≤ c) :
 Ct l Z consts_1 mN3 cN3 7 none ⟨1, 0, 0, 14⟩ #[.ref c, .int 4, .int (Int32.ofNat p), .int (Int32.ofNat q), .int (Int32.ofNat r), .int 2] h [c] (fun rv' hp' so' => rv' = none ∧ so' = [] ∧ Arv Z hp' c kc .char 8 [.int (Int32.ofNat y0), .int (Int32.ofNat y1), .int (Int32.ofNat y2), .int (Int32.ofNat y3), (.int (Int32.ofNat (symN (sx0 (vv p q r))))), (.int (Int32.ofNat (symN (sx1 (vv p q r))))), (.int (Int32.ofNat (symN (sx2 (vv p q r))))), .int 61] (.int 0)) := by
  refine Ct.mk "com/example/drafts_under_key/draftsunderkey/crypto/StrictBase64DecodePinLaw" "group" rfl rfl (a0 := a0) (plainFor_of_name opn0) hO hE (fun x q => by simp at q; subst q; exact ge_c) ?_
  intro K T W
  rw [oef3]
  have hvv : vv p q r < 16777216 := by unfold vv; omega
  refine gIloadN W d2_0 rfl rfl ?_
  refine gBipush (z := 16) W d2_1 rfl rfl ?_
  refine gIshl (z := (Int32.ofNat (p * 65536))) W d2_3 (shlN (k := 16) (by decide) (by decide) (by omega)) rfl ?_
  refine gIloadN W d2_4 rfl rfl ?_
  refine gBipush (z := 8) W d2_5 rfl rfl ?_
  refine gIshl (z := (Int32.ofNat (q * 256))) W d2_7 (shlN (k := 8) (by decide) (by decide) (by omega)) rfl ?_
  refine gIor (z := (Int32.ofNat (p * 65536 + q * 256))) W d2_8 (orN (k := 16) (P := 65536) (by decide) (by decide) (by omega) (by omega) (by omega)) rfl ?_
  refine gIload W d2_9 rfl rfl ?_
  refine gIor (z := (Int32.ofNat (vv p q r))) W d2_11 (orN (k := 8) (P := 256) (by decide) (by decide) (by omega) (by omega) (by omega)) rfl ?_
  refine gIstore (ls' := #[aR c, aI 4, aI (Int32.ofNat p), aI (Int32.ofNat q), aI (Int32.ofNat r), aI 2, aI (Int32.ofNat (vv p q r))]) W d2_12 rfl rfl ?_
  refine gAloadN W d2_14 rfl rfl rfl ?_
  refine gIloadN W d2_15 rfl rfl ?_
  refine gIload W d2_16 rfl rfl ?_
  refine gBipush (z := 18) W d2_18 rfl rfl ?_
  refine gIushr (z := (Int32.ofNat ((vv p q r) / 262144))) W d2_20 (ushrN (k := 18) (by decide) (by decide) (by decide) (by omega)) rfl ?_
  refine gBipush (z := 63) W d2_21 rfl rfl ?_
  refine gIand (z := (Int32.ofNat (sx0 (vv p q r)))) W d2_23 (maskN (k := 6) (by decide) (by decide) (by decide) (by omega)) rfl ?_
  refine wStatic (y := mN0) (Wd := 2) (argsL := [.int (Int32.ofNat (sx0 (vv p q r)))]) (rest := [.int 4, .ref c]) W d2_24 (ow10 hw) (ow11 hw) (ow5 hw) (ow12 hw) (by decide) (Cb.ct (ob_sy hw hE (sx0 (vv p q r)) h W.old (sx0_lt _)) (ow12 hw) (ow5 hw) hE (by decide) (by decide)) (by simp) rfl (lenOf opd0 rfl) rfl (Nat.le_of_eq rfl) (by decide) (by decide) rfl fun _ _ _ _ G H _ I => ?_
  obtain ⟨rfl, rfl⟩ := I
  show Go K _ _ _ _ [(.int (Int32.ofNat (symN (sx0 (vv p q r))))), .int 4, .ref c]
  have J := q0.keep H nin0
  refine wStC (y := (Int32.ofNat (symN (sx0 (vv p q r))))) G d2_27 (by simp) J (by decide) (b8_of (symN_le _)).nar 4 (by decide) (show 4 < 8 from by decide) rfl fun _ D B _ L => ?_
  have M : Arv Z D c kc .char 8 [.int (Int32.ofNat y0), .int (Int32.ofNat y1), .int (Int32.ofNat y2), .int (Int32.ofNat y3), (.int (Int32.ofNat (symN (sx0 (vv p q r))))), .int 0, .int 0, .int 0] (.int 0) := L
  refine gAloadN B d2_28 rfl rfl rfl ?_
  refine gIloadN B d2_29 rfl rfl ?_
  refine gIconst (z := 1) B d2_30 rfl rfl ?_
  refine gIadd (z := 5) B d2_31 (by decide) rfl ?_
  refine gIload B d2_32 rfl rfl ?_
  refine gBipush (z := 12) B d2_34 rfl rfl ?_
  refine gIushr (z := (Int32.ofNat ((vv p q r) / 4096))) B d2_36 (ushrN (k := 12) (by decide) (by decide) (by decide) (by omega)) rfl ?_
  refine gBipush (z := 63) B d2_37 rfl rfl ?_
  refine gIand (z := (Int32.ofNat (sx1 (vv p q r)))) B d2_39 (maskN (k := 6) (by decide) (by decide) (by decide) (by omega)) rfl ?_
  refine wStatic (y := mN0) (Wd := 2) (argsL := [.int (Int32.ofNat (sx1 (vv p q r)))]) (rest := [.int 5, .ref c]) B d2_40 (ow10 hw) (ow11 hw) (ow5 hw) (ow12 hw) (by decide) (Cb.ct (ob_sy hw hE (sx1 (vv p q r)) D B.old (sx1_lt _)) (ow12 hw) (ow5 hw) hE (by decide) (by decide)) (by simp) rfl (lenOf opd0 rfl) rfl (Nat.le_of_eq rfl) (by decide) (by decide) rfl fun _ _ _ _ N O _ Q => ?_
  obtain ⟨rfl, rfl⟩ := Q
  show Go K _ _ _ _ [(.int (Int32.ofNat (symN (sx1 (vv p q r))))), .int 5, .ref c]
  have R := M.keep O nin0
  refine wStC (y := (Int32.ofNat (symN (sx1 (vv p q r))))) N d2_43 (by simp) R (by decide) (b8_of (symN_le _)).nar 5 (by decide) (show 5 < 8 from by decide) rfl fun _ E A _ S => ?_
  have U : Arv Z E c kc .char 8 [.int (Int32.ofNat y0), .int (Int32.ofNat y1), .int (Int32.ofNat y2), .int (Int32.ofNat y3), (.int (Int32.ofNat (symN (sx0 (vv p q r))))), (.int (Int32.ofNat (symN (sx1 (vv p q r))))), .int 0, .int 0] (.int 0) := S
  refine gAloadN A d2_44 rfl rfl rfl ?_
  refine gIloadN A d2_45 rfl rfl ?_
  refine gIconst (z := 2) A d2_46 rfl rfl ?_
  refine gIadd (z := 6) A d2_47 (by decide) rfl ?_
  refine gIload A d2_48 rfl rfl ?_
  refine gIconst (z := 2) A d2_50 rfl rfl ?_
  refine gIcmpNo A d2_51 (flt (by decide)).1 rfl ?_
  refine gIload A d2_54 rfl rfl ?_
  refine gBipush (z := 6) A d2_56 rfl rfl ?_
  refine gIushr (z := (Int32.ofNat ((vv p q r) / 64))) A d2_58 (ushrN (k := 6) (by decide) (by decide) (by decide) (by omega)) rfl ?_
  refine gBipush (z := 63) A d2_59 rfl rfl ?_
  refine gIand (z := (Int32.ofNat (sx2 (vv p q r)))) A d2_61 (maskN (k := 6) (by decide) (by decide) (by decide) (by omega)) rfl ?_
  refine wStatic (y := mN0) (Wd := 2) (argsL := [.int (Int32.ofNat (sx2 (vv p q r)))]) (rest := [.int 6, .ref c]) A d2_62 (ow10 hw) (ow11 hw) (ow5 hw) (ow12 hw) (by decide) (Cb.ct (ob_sy hw hE (sx2 (vv p q r)) E A.old (sx2_lt _)) (ow12 hw) (ow5 hw) hE (by decide) (by decide)) (by simp) rfl (lenOf opd0 rfl) rfl (Nat.le_of_eq rfl) (by decide) (by decide) rfl fun _ _ _ _ F V _ X => ?_
  obtain ⟨rfl, rfl⟩ := X
  show Go K _ _ _ _ [(.int (Int32.ofNat (symN (sx2 (vv p q r))))), .int 6, .ref c]
  refine gGoto (pc' := 70) F d2_65 (by decide) rfl ?_
  have Y := U.keep V nin0
  refine wStC (y := (Int32.ofNat (symN (sx2 (vv p q r))))) F d2_70 (by simp) Y (by decide) (b8_of (symN_le _)).nar 6 (by decide) (show 6 < 8 from by decide) rfl fun _ Aa C _ Ab => ?_
  have Ac : Arv Z Aa c kc .char 8 [.int (Int32.ofNat y0), .int (Int32.ofNat y1), .int (Int32.ofNat y2), .int (Int32.ofNat y3), (.int (Int32.ofNat (symN (sx0 (vv p q r))))), (.int (Int32.ofNat (symN (sx1 (vv p q r))))), (.int (Int32.ofNat (symN (sx2 (vv p q r))))), .int 0] (.int 0) := Ab
  refine gAloadN C d2_71 rfl rfl rfl ?_
  refine gIloadN C d2_72 rfl rfl ?_
  refine gIconst (z := 3) C d2_73 rfl rfl ?_
  refine gIadd (z := 7) C d2_74 (by decide) rfl ?_
  refine gIload C d2_75 rfl rfl ?_
  refine gIconst (z := 3) C d2_77 rfl rfl ?_
  refine gIcmpYes (pc' := 92) C d2_78 (feq (by decide)).2 (by decide) rfl ?_
  refine gBipush (z := 61) C d2_92 rfl rfl ?_
  refine wStC (y := 61) C d2_94 (by simp) Ac (by decide) (by decide) 7 (by decide) (show 7 < 8 from by decide) rfl fun _ Ad Ae _ Af => ?_
  have Ag : Arv Z Ad c kc .char 8 [.int (Int32.ofNat y0), .int (Int32.ofNat y1), .int (Int32.ofNat y2), .int (Int32.ofNat y3), (.int (Int32.ofNat (symN (sx0 (vv p q r))))), (.int (Int32.ofNat (symN (sx1 (vv p q r))))), (.int (Int32.ofNat (symN (sx2 (vv p q r))))), .int 61] (.int 0) := Af
  exact wRet0 (so := []) Ae d2_95 (by decide) (by decide) (fun _ q => nomatch q) ⟨rfl, rfl, Ag⟩
theorem ob_gr843 (hw : TH a0 Z) (hE : EW Z a0 consts_1) (c : Addr) (kc : ClassId) (p q r y0 y1 y2 y3 : Nat) (h : Heap) (hO : Ol Z h) (q0 : Arv Z h c kc .char 8 [.int (Int32.ofNat y0), .int (Int32.ofNat y1), .int (Int32.ofNat y2), .int (Int32.ofNat y3), .int 0, .int 0, .int 0, .int 0] (.int 0)) (hp : (p < 256)) (hq : (q < 256)) (hr : (r < 256)) (ge_c : Z.heap.size ≤ c) :
 Ct l Z consts_1 mN3 cN3 7 none ⟨1, 0, 0, 14⟩ #[.ref c, .int 4, .int (Int32.ofNat p), .int (Int32.ofNat q), .int (Int32.ofNat r), .int 3] h [c] (fun rv' hp' so' => rv' = none ∧ so' = [] ∧ Arv Z hp' c kc .char 8 [.int (Int32.ofNat y0), .int (Int32.ofNat y1), .int (Int32.ofNat y2), .int (Int32.ofNat y3), (.int (Int32.ofNat (symN (sx0 (vv p q r))))), (.int (Int32.ofNat (symN (sx1 (vv p q r))))), (.int (Int32.ofNat (symN (sx2 (vv p q r))))), (.int (Int32.ofNat (symN (sx3 (vv p q r)))))] (.int 0)) := by
  refine Ct.mk "com/example/drafts_under_key/draftsunderkey/crypto/StrictBase64DecodePinLaw" "group" rfl rfl (a0 := a0) (plainFor_of_name opn0) hO hE (fun x q => by simp at q; subst q; exact ge_c) ?_
  intro K T W
  rw [oef3]
  have hvv : vv p q r < 16777216 := by unfold vv; omega
  refine gIloadN W d2_0 rfl rfl ?_
  refine gBipush (z := 16) W d2_1 rfl rfl ?_
  refine gIshl (z := (Int32.ofNat (p * 65536))) W d2_3 (shlN (k := 16) (by decide) (by decide) (by omega)) rfl ?_
  refine gIloadN W d2_4 rfl rfl ?_
  refine gBipush (z := 8) W d2_5 rfl rfl ?_
  refine gIshl (z := (Int32.ofNat (q * 256))) W d2_7 (shlN (k := 8) (by decide) (by decide) (by omega)) rfl ?_
  refine gIor (z := (Int32.ofNat (p * 65536 + q * 256))) W d2_8 (orN (k := 16) (P := 65536) (by decide) (by decide) (by omega) (by omega) (by omega)) rfl ?_
  refine gIload W d2_9 rfl rfl ?_
  refine gIor (z := (Int32.ofNat (vv p q r))) W d2_11 (orN (k := 8) (P := 256) (by decide) (by decide) (by omega) (by omega) (by omega)) rfl ?_
  refine gIstore (ls' := #[aR c, aI 4, aI (Int32.ofNat p), aI (Int32.ofNat q), aI (Int32.ofNat r), aI 3, aI (Int32.ofNat (vv p q r))]) W d2_12 rfl rfl ?_
  refine gAloadN W d2_14 rfl rfl rfl ?_
  refine gIloadN W d2_15 rfl rfl ?_
  refine gIload W d2_16 rfl rfl ?_
  refine gBipush (z := 18) W d2_18 rfl rfl ?_
  refine gIushr (z := (Int32.ofNat ((vv p q r) / 262144))) W d2_20 (ushrN (k := 18) (by decide) (by decide) (by decide) (by omega)) rfl ?_
  refine gBipush (z := 63) W d2_21 rfl rfl ?_
  refine gIand (z := (Int32.ofNat (sx0 (vv p q r)))) W d2_23 (maskN (k := 6) (by decide) (by decide) (by decide) (by omega)) rfl ?_
  refine wStatic (y := mN0) (Wd := 2) (argsL := [.int (Int32.ofNat (sx0 (vv p q r)))]) (rest := [.int 4, .ref c]) W d2_24 (ow10 hw) (ow11 hw) (ow5 hw) (ow12 hw) (by decide) (Cb.ct (ob_sy hw hE (sx0 (vv p q r)) h W.old (sx0_lt _)) (ow12 hw) (ow5 hw) hE (by decide) (by decide)) (by simp) rfl (lenOf opd0 rfl) rfl (Nat.le_of_eq rfl) (by decide) (by decide) rfl fun _ _ _ _ I J _ L => ?_
  obtain ⟨rfl, rfl⟩ := L
  show Go K _ _ _ _ [(.int (Int32.ofNat (symN (sx0 (vv p q r))))), .int 4, .ref c]
  have M := q0.keep J nin0
  refine wStC (y := (Int32.ofNat (symN (sx0 (vv p q r))))) I d2_27 (by simp) M (by decide) (b8_of (symN_le _)).nar 4 (by decide) (show 4 < 8 from by decide) rfl fun _ D C _ N => ?_
  have O : Arv Z D c kc .char 8 [.int (Int32.ofNat y0), .int (Int32.ofNat y1), .int (Int32.ofNat y2), .int (Int32.ofNat y3), (.int (Int32.ofNat (symN (sx0 (vv p q r))))), .int 0, .int 0, .int 0] (.int 0) := N
  refine gAloadN C d2_28 rfl rfl rfl ?_
  refine gIloadN C d2_29 rfl rfl ?_
  refine gIconst (z := 1) C d2_30 rfl rfl ?_
  refine gIadd (z := 5) C d2_31 (by decide) rfl ?_
  refine gIload C d2_32 rfl rfl ?_
  refine gBipush (z := 12) C d2_34 rfl rfl ?_
  refine gIushr (z := (Int32.ofNat ((vv p q r) / 4096))) C d2_36 (ushrN (k := 12) (by decide) (by decide) (by decide) (by omega)) rfl ?_
  refine gBipush (z := 63) C d2_37 rfl rfl ?_
  refine gIand (z := (Int32.ofNat (sx1 (vv p q r)))) C d2_39 (maskN (k := 6) (by decide) (by decide) (by decide) (by omega)) rfl ?_
  refine wStatic (y := mN0) (Wd := 2) (argsL := [.int (Int32.ofNat (sx1 (vv p q r)))]) (rest := [.int 5, .ref c]) C d2_40 (ow10 hw) (ow11 hw) (ow5 hw) (ow12 hw) (by decide) (Cb.ct (ob_sy hw hE (sx1 (vv p q r)) D C.old (sx1_lt _)) (ow12 hw) (ow5 hw) hE (by decide) (by decide)) (by simp) rfl (lenOf opd0 rfl) rfl (Nat.le_of_eq rfl) (by decide) (by decide) rfl fun _ _ _ _ Q R _ S => ?_
  obtain ⟨rfl, rfl⟩ := S
  show Go K _ _ _ _ [(.int (Int32.ofNat (symN (sx1 (vv p q r))))), .int 5, .ref c]
  have U := O.keep R nin0
  refine wStC (y := (Int32.ofNat (symN (sx1 (vv p q r))))) Q d2_43 (by simp) U (by decide) (b8_of (symN_le _)).nar 5 (by decide) (show 5 < 8 from by decide) rfl fun _ E A _ V => ?_
  have X : Arv Z E c kc .char 8 [.int (Int32.ofNat y0), .int (Int32.ofNat y1), .int (Int32.ofNat y2), .int (Int32.ofNat y3), (.int (Int32.ofNat (symN (sx0 (vv p q r))))), (.int (Int32.ofNat (symN (sx1 (vv p q r))))), .int 0, .int 0] (.int 0) := V
  refine gAloadN A d2_44 rfl rfl rfl ?_
  refine gIloadN A d2_45 rfl rfl ?_
  refine gIconst (z := 2) A d2_46 rfl rfl ?_
  refine gIadd (z := 6) A d2_47 (by decide) rfl ?_
  refine gIload A d2_48 rfl rfl ?_
  refine gIconst (z := 2) A d2_50 rfl rfl ?_
  refine gIcmpNo A d2_51 (flt (by decide)).1 rfl ?_
  refine gIload A d2_54 rfl rfl ?_
  refine gBipush (z := 6) A d2_56 rfl rfl ?_
  refine gIushr (z := (Int32.ofNat ((vv p q r) / 64))) A d2_58 (ushrN (k := 6) (by decide) (by decide) (by decide) (by omega)) rfl ?_
  refine gBipush (z := 63) A d2_59 rfl rfl ?_
  refine gIand (z := (Int32.ofNat (sx2 (vv p q r)))) A d2_61 (maskN (k := 6) (by decide) (by decide) (by decide) (by omega)) rfl ?_
  refine wStatic (y := mN0) (Wd := 2) (argsL := [.int (Int32.ofNat (sx2 (vv p q r)))]) (rest := [.int 6, .ref c]) A d2_62 (ow10 hw) (ow11 hw) (ow5 hw) (ow12 hw) (by decide) (Cb.ct (ob_sy hw hE (sx2 (vv p q r)) E A.old (sx2_lt _)) (ow12 hw) (ow5 hw) hE (by decide) (by decide)) (by simp) rfl (lenOf opd0 rfl) rfl (Nat.le_of_eq rfl) (by decide) (by decide) rfl fun _ _ _ _ F Y _ Aa => ?_
  obtain ⟨rfl, rfl⟩ := Aa
  show Go K _ _ _ _ [(.int (Int32.ofNat (symN (sx2 (vv p q r))))), .int 6, .ref c]
  refine gGoto (pc' := 70) F d2_65 (by decide) rfl ?_
  have Ab := X.keep Y nin0
  refine wStC (y := (Int32.ofNat (symN (sx2 (vv p q r))))) F d2_70 (by simp) Ab (by decide) (b8_of (symN_le _)).nar 6 (by decide) (show 6 < 8 from by decide) rfl fun _ G B _ Ac => ?_
  have Ad : Arv Z G c kc .char 8 [.int (Int32.ofNat y0), .int (Int32.ofNat y1), .int (Int32.ofNat y2), .int (Int32.ofNat y3), (.int (Int32.ofNat (symN (sx0 (vv p q r))))), (.int (Int32.ofNat (symN (sx1 (vv p q r))))), (.int (Int32.ofNat (symN (sx2 (vv p q r))))), .int 0] (.int 0) := Ac
  refine gAloadN B d2_71 rfl rfl rfl ?_
  refine gIloadN B d2_72 rfl rfl ?_
  refine gIconst (z := 3) B d2_73 rfl rfl ?_
  refine gIadd (z := 7) B d2_74 (by decide) rfl ?_
  refine gIload B d2_75 rfl rfl ?_
  refine gIconst (z := 3) B d2_77 rfl rfl ?_
  refine gIcmpNo B d2_78 (teq (by decide)).2 rfl ?_
  refine gIload B d2_81 rfl rfl ?_
  refine gBipush (z := 63) B d2_83 rfl rfl ?_
  refine gIand (z := (Int32.ofNat (sx3 (vv p q r)))) B d2_85 (maskN (k := 6) (by decide) (by decide) (by decide) (by omega)) rfl ?_
  refine wStatic (y := mN0) (Wd := 2) (argsL := [.int (Int32.ofNat (sx3 (vv p q r)))]) (rest := [.int 7, .ref c]) B d2_86 (ow10 hw) (ow11 hw) (ow5 hw) (ow12 hw) (by decide) (Cb.ct (ob_sy hw hE (sx3 (vv p q r)) G B.old (sx3_lt _)) (ow12 hw) (ow5 hw) hE (by decide) (by decide)) (by simp) rfl (lenOf opd0 rfl) rfl (Nat.le_of_eq rfl) (by decide) (by decide) rfl fun _ _ _ _ H Ae _ Af => ?_
  obtain ⟨rfl, rfl⟩ := Af
  show Go K _ _ _ _ [(.int (Int32.ofNat (symN (sx3 (vv p q r))))), .int 7, .ref c]
  refine gGoto (pc' := 94) H d2_89 (by decide) rfl ?_
  have Ag := Ad.keep Ae nin0
  refine wStC (y := (Int32.ofNat (symN (sx3 (vv p q r))))) H d2_94 (by simp) Ag (by decide) (b8_of (symN_le _)).nar 7 (by decide) (show 7 < 8 from by decide) rfl fun _ Ah Ai _ Aj => ?_
  have Ak : Arv Z Ah c kc .char 8 [.int (Int32.ofNat y0), .int (Int32.ofNat y1), .int (Int32.ofNat y2), .int (Int32.ofNat y3), (.int (Int32.ofNat (symN (sx0 (vv p q r))))), (.int (Int32.ofNat (symN (sx1 (vv p q r))))), (.int (Int32.ofNat (symN (sx2 (vv p q r))))), (.int (Int32.ofNat (symN (sx3 (vv p q r)))))] (.int 0) := Aj
  exact wRet0 (so := []) Ai d2_95 (by decide) (by decide) (fun _ q => nomatch q) ⟨rfl, rfl, Ak⟩
-- CUT
abbrev mN4 : MethodName := (⟨"java/lang/StringUTF16", "compress", "([CI[BII)I"⟩ : MethodName)
abbrev cN4 := jdk_52_method_21_code
theorem opn1 : plainName "java/lang/StringUTF16" = true := by first | (simp [plainName, overriddenIn]; done) | decide +kernel
theorem d8_0 : Dc cN4 0 (.iconst 0) 1 := by decide +kernel
theorem d8_1 : Dc cN4 1 (.istore 5) 2 := by decide +kernel
theorem d8_3 : Dc cN4 3 (.iload 5) 2 := by decide +kernel
theorem d8_5 : Dc cN4 5 (.iload 4) 2 := by decide +kernel
theorem d8_7 : Dc cN4 7 (.if_icmp .ge 37) 3 := by decide +kernel
theorem d8_10 : Dc cN4 10 (.aload_n 0) 1 := by decide +kernel
theorem d8_11 : Dc cN4 11 (.iload_n 1) 1 := by decide +kernel
theorem d8_12 : Dc cN4 12 (.caload) 1 := by decide +kernel
theorem d8_13 : Dc cN4 13 (.istore 6) 2 := by decide +kernel
theorem d8_15 : Dc cN4 15 (.iload 6) 2 := by decide +kernel
theorem d8_17 : Dc cN4 17 (.sipush 255) 3 := by decide +kernel
theorem d8_20 : Dc cN4 20 (.if_icmp .le 6) 3 := by decide +kernel
theorem d8_26 : Dc cN4 26 (.aload_n 2) 1 := by decide +kernel
theorem d8_27 : Dc cN4 27 (.iload_n 3) 1 := by decide +kernel
theorem d8_28 : Dc cN4 28 (.iload 6) 2 := by decide +kernel
theorem d8_30 : Dc cN4 30 (.i2b) 1 := by decide +kernel
theorem d8_31 : Dc cN4 31 (.bastore) 1 := by decide +kernel
theorem d8_32 : Dc cN4 32 (.iinc 1 1) 3 := by decide +kernel
theorem d8_35 : Dc cN4 35 (.iinc 3 1) 3 := by decide +kernel
theorem d8_38 : Dc cN4 38 (.iinc 5 1) 3 := by decide +kernel
theorem d8_41 : Dc cN4 41 (.goto (-38)) 3 := by decide +kernel
theorem d8_44 : Dc cN4 44 (.iload 4) 2 := by decide +kernel
theorem d8_46 : Dc cN4 46 (.ireturn) 1 := by decide +kernel
theorem oef4 (m_ : MethodId) (y0_ : Addr) (y1_ : Int32) (y2_ : Addr) (y3_ : Int32) (y4_ : Int32) : (entryFrame m_ #[.ref y0_, .int y1_, .ref y2_, .int y3_, .int y4_] 7).locals = #[aR y0_, aI y1_, aR y2_, aI y3_, aI y4_, aU, aU] := by first | (simp [entryFrame, argsToLocals, Value.category]; done) | rfl
theorem ob_c54 (hw : TH a0 Z) (hE : EW Z a0 consts_1) (b : Addr) (kC : ClassId) (d : Addr) (kd : ClassId) (c0 c1 c2 c3 : Nat) (h : Heap) (hO : Ol Z h) (q0 : Arv Z h b kC .char 4 [.int (Int32.ofNat c0), .int (Int32.ofNat c1), .int (Int32.ofNat c2), .int (Int32.ofNat c3)] (.int 0)) (q1 : Arv Z h d kd .byte 4 [.int 0, .int 0, .int 0, .int 0] (.int 0)) (nbd : (b ≠ d)) (hc0 : (c0 ≤ 127)) (hc1 : (c1 ≤ 127)) (hc2 : (c2 ≤ 127)) (hc3 : (c3 ≤ 127)) (ge_d : Z.heap.size ≤ d) :
 Ct l Z consts_1 mN4 cN4 7 (some .int) ⟨0, 0, 0, 0⟩ #[.ref b, .int 0, .ref d, .int 0, .int 4] h [d] (fun rv' hp' so' => rv' = some (.int 4) ∧ so' = [] ∧ Arv Z hp' d kd .byte 4 [.int (Int32.ofNat c0), .int (Int32.ofNat c1), .int (Int32.ofNat c2), .int (Int32.ofNat c3)] (.int 0)) := by
  refine Ct.mk "java/lang/StringUTF16" "compress" rfl rfl (a0 := a0) (plainFor_of_name opn1) hO hE (fun x q => by simp at q; subst q; exact ge_d) ?_
  intro K T W
  rw [oef4]
  refine gIconst (z := 0) W d8_0 rfl rfl ?_
  refine gIstore (ls' := #[aR b, aI 0, aR d, aI 0, aI 4, aI 0, aU]) W d8_1 rfl rfl ?_
  refine gIload W d8_3 rfl rfl ?_
  refine gIload W d8_5 rfl rfl ?_
  refine gIcmpNo W d8_7 (tlt (by decide)).2.1 rfl ?_
  refine gAloadN W d8_10 rfl rfl rfl ?_
  refine gIloadN W d8_11 rfl rfl ?_
  refine wLdC (v := (.int (Int32.ofNat c0))) W d8_12 q0 (by decide) rfl rfl ?_
  refine gIstore (ls' := #[aR b, aI 0, aR d, aI 0, aI 4, aI 0, aI (Int32.ofNat c0)]) W d8_13 rfl rfl ?_
  refine gIload W d8_15 rfl rfl ?_
  refine gSipush (z := 255) W d8_17 rfl rfl ?_
  refine gIcmpYes (pc' := 26) W d8_20 (flt (fun q => absurd ((ltc_ofNat (P := 255) (by decide) (by omega)).mp q) (by omega))).2.2.2 (by decide) rfl ?_
  refine gAloadN W d8_26 rfl rfl rfl ?_
  refine gIloadN W d8_27 rfl rfl ?_
  refine gIload W d8_28 rfl rfl ?_
  refine gI2B (z := (Int32.ofNat c0)) W d8_30 (byte_id hc0) rfl ?_
  refine wStB (y := (Int32.ofNat c0)) W d8_31 (by simp) q1 (by decide) (byte_id hc0) 0 (by decide) (show 0 < 4 from by decide) rfl fun _ G A H I => ?_
  have J : Arv Z G d kd .byte 4 [.int (Int32.ofNat c0), .int 0, .int 0, .int 0] (.int 0) := I
  refine gIinc (z := 1) (ls' := #[aR b, aI 1, aR d, aI 0, aI 4, aI 0, aI (Int32.ofNat c0)]) A d8_32 rfl (by decide) rfl rfl ?_
  refine gIinc (z := 1) (ls' := #[aR b, aI 1, aR d, aI 1, aI 4, aI 0, aI (Int32.ofNat c0)]) A d8_35 rfl (by decide) rfl rfl ?_
  refine gIinc (z := 1) (ls' := #[aR b, aI 1, aR d, aI 1, aI 4, aI 1, aI (Int32.ofNat c0)]) A d8_38 rfl (by decide) rfl rfl ?_
  refine gGoto (pc' := 3) A d8_41 (by decide) rfl ?_
  refine gIload A d8_3 rfl rfl ?_
  refine gIload A d8_5 rfl rfl ?_
  refine gIcmpNo A d8_7 (tlt (by decide)).2.1 rfl ?_
  refine gAloadN A d8_10 rfl rfl rfl ?_
  refine gIloadN A d8_11 rfl rfl ?_
  have E := q0.other H nbd
  refine wLdC (v := (.int (Int32.ofNat c1))) A d8_12 E (by decide) rfl rfl ?_
  refine gIstore (ls' := #[aR b, aI 1, aR d, aI 1, aI 4, aI 1, aI (Int32.ofNat c1)]) A d8_13 rfl rfl ?_
  refine gIload A d8_15 rfl rfl ?_
  refine gSipush (z := 255) A d8_17 rfl rfl ?_
  refine gIcmpYes (pc' := 26) A d8_20 (flt (fun q => absurd ((ltc_ofNat (P := 255) (by decide) (by omega)).mp q) (by omega))).2.2.2 (by decide) rfl ?_
  refine gAloadN A d8_26 rfl rfl rfl ?_
  refine gIloadN A d8_27 rfl rfl ?_
  refine gIload A d8_28 rfl rfl ?_
  refine gI2B (z := (Int32.ofNat c1)) A d8_30 (byte_id hc1) rfl ?_
  refine wStB (y := (Int32.ofNat c1)) A d8_31 (by simp) J (by decide) (byte_id hc1) 1 (by decide) (show 1 < 4 from by decide) rfl fun _ L B M N => ?_
  have O : Arv Z L d kd .byte 4 [.int (Int32.ofNat c0), .int (Int32.ofNat c1), .int 0, .int 0] (.int 0) := N
  refine gIinc (z := 2) (ls' := #[aR b, aI 2, aR d, aI 1, aI 4, aI 1, aI (Int32.ofNat c1)]) B d8_32 rfl (by decide) rfl rfl ?_
  refine gIinc (z := 2) (ls' := #[aR b, aI 2, aR d, aI 2, aI 4, aI 1, aI (Int32.ofNat c1)]) B d8_35 rfl (by decide) rfl rfl ?_
  refine gIinc (z := 2) (ls' := #[aR b, aI 2, aR d, aI 2, aI 4, aI 2, aI (Int32.ofNat c1)]) B d8_38 rfl (by decide) rfl rfl ?_
  refine gGoto (pc' := 3) B d8_41 (by decide) rfl ?_
  refine gIload B d8_3 rfl rfl ?_
  refine gIload B d8_5 rfl rfl ?_
  refine gIcmpNo B d8_7 (tlt (by decide)).2.1 rfl ?_
  refine gAloadN B d8_10 rfl rfl rfl ?_
  refine gIloadN B d8_11 rfl rfl ?_
  have F := E.other M nbd
  refine wLdC (v := (.int (Int32.ofNat c2))) B d8_12 F (by decide) rfl rfl ?_
  refine gIstore (ls' := #[aR b, aI 2, aR d, aI 2, aI 4, aI 2, aI (Int32.ofNat c2)]) B d8_13 rfl rfl ?_
  refine gIload B d8_15 rfl rfl ?_
  refine gSipush (z := 255) B d8_17 rfl rfl ?_
  refine gIcmpYes (pc' := 26) B d8_20 (flt (fun q => absurd ((ltc_ofNat (P := 255) (by decide) (by omega)).mp q) (by omega))).2.2.2 (by decide) rfl ?_
  refine gAloadN B d8_26 rfl rfl rfl ?_
  refine gIloadN B d8_27 rfl rfl ?_
  refine gIload B d8_28 rfl rfl ?_
  refine gI2B (z := (Int32.ofNat c2)) B d8_30 (byte_id hc2) rfl ?_
  refine wStB (y := (Int32.ofNat c2)) B d8_31 (by simp) O (by decide) (byte_id hc2) 2 (by decide) (show 2 < 4 from by decide) rfl fun _ Q C R S => ?_
  have U : Arv Z Q d kd .byte 4 [.int (Int32.ofNat c0), .int (Int32.ofNat c1), .int (Int32.ofNat c2), .int 0] (.int 0) := S
  refine gIinc (z := 3) (ls' := #[aR b, aI 3, aR d, aI 2, aI 4, aI 2, aI (Int32.ofNat c2)]) C d8_32 rfl (by decide) rfl rfl ?_
  refine gIinc (z := 3) (ls' := #[aR b, aI 3, aR d, aI 3, aI 4, aI 2, aI (Int32.ofNat c2)]) C d8_35 rfl (by decide) rfl rfl ?_
  refine gIinc (z := 3) (ls' := #[aR b, aI 3, aR d, aI 3, aI 4, aI 3, aI (Int32.ofNat c2)]) C d8_38 rfl (by decide) rfl rfl ?_
  refine gGoto (pc' := 3) C d8_41 (by decide) rfl ?_
  refine gIload C d8_3 rfl rfl ?_
  refine gIload C d8_5 rfl rfl ?_
  refine gIcmpNo C d8_7 (tlt (by decide)).2.1 rfl ?_
  refine gAloadN C d8_10 rfl rfl rfl ?_
  refine gIloadN C d8_11 rfl rfl ?_
  have V := F.other R nbd
  refine wLdC (v := (.int (Int32.ofNat c3))) C d8_12 V (by decide) rfl rfl ?_
  refine gIstore (ls' := #[aR b, aI 3, aR d, aI 3, aI 4, aI 3, aI (Int32.ofNat c3)]) C d8_13 rfl rfl ?_
  refine gIload C d8_15 rfl rfl ?_
  refine gSipush (z := 255) C d8_17 rfl rfl ?_
  refine gIcmpYes (pc' := 26) C d8_20 (flt (fun q => absurd ((ltc_ofNat (P := 255) (by decide) (by omega)).mp q) (by omega))).2.2.2 (by decide) rfl ?_
  refine gAloadN C d8_26 rfl rfl rfl ?_
  refine gIloadN C d8_27 rfl rfl ?_
  refine gIload C d8_28 rfl rfl ?_
  refine gI2B (z := (Int32.ofNat c3)) C d8_30 (byte_id hc3) rfl ?_
  refine wStB (y := (Int32.ofNat c3)) C d8_31 (by simp) U (by decide) (byte_id hc3) 3 (by decide) (show 3 < 4 from by decide) rfl fun _ X D _ Y => ?_
  have Aa : Arv Z X d kd .byte 4 [.int (Int32.ofNat c0), .int (Int32.ofNat c1), .int (Int32.ofNat c2), .int (Int32.ofNat c3)] (.int 0) := Y
  refine gIinc (z := 4) (ls' := #[aR b, aI 4, aR d, aI 3, aI 4, aI 3, aI (Int32.ofNat c3)]) D d8_32 rfl (by decide) rfl rfl ?_
  refine gIinc (z := 4) (ls' := #[aR b, aI 4, aR d, aI 4, aI 4, aI 3, aI (Int32.ofNat c3)]) D d8_35 rfl (by decide) rfl rfl ?_
  refine gIinc (z := 4) (ls' := #[aR b, aI 4, aR d, aI 4, aI 4, aI 4, aI (Int32.ofNat c3)]) D d8_38 rfl (by decide) rfl rfl ?_
  refine gGoto (pc' := 3) D d8_41 (by decide) rfl ?_
  refine gIload D d8_3 rfl rfl ?_
  refine gIload D d8_5 rfl rfl ?_
  refine gIcmpYes (pc' := 44) D d8_7 (flt (by decide)).2.1 (by decide) rfl ?_
  refine gIload D d8_44 rfl rfl ?_
  exact wRetI (so := []) (t := .int) D d8_46 (by simp) rfl (by decide) (by decide) (fun _ q => nomatch q) ⟨rfl, rfl, Aa⟩
abbrev mN5 : MethodName := (⟨"java/lang/StringUTF16", "compress", "([CII)[B"⟩ : MethodName)
abbrev cN5 := jdk_52_method_16_code
theorem d7_0 : Dc cN5 0 (.iload_n 2) 1 := by decide +kernel
theorem d7_1 : Dc cN5 1 (.newarray .byte) 2 := by decide +kernel
theorem ow1 (hw : TH a0 Z) : Bf a0 Z (.arrayClass .byte) := mo 1 rfl hw
theorem d7_3 : Dc cN5 3 (.astore_n 3) 1 := by decide +kernel
theorem d7_4 : Dc cN5 4 (.aload_n 0) 1 := by decide +kernel
theorem d7_5 : Dc cN5 5 (.iload_n 1) 1 := by decide +kernel
theorem d7_6 : Dc cN5 6 (.aload_n 3) 1 := by decide +kernel
theorem d7_7 : Dc cN5 7 (.iconst 0) 1 := by decide +kernel
theorem d7_8 : Dc cN5 8 (.iload_n 2) 1 := by decide +kernel
theorem d7_9 : Dc cN5 9 (.invokestatic 115) 3 := by decide +kernel
theorem ow31 (hw : TH a0 Z) : Bf a0 Z (.methodLink "java/lang/StringUTF16" 115 mN4) := mo 31 rfl hw
theorem ow29 (hw : TH a0 Z) : Bf a0 Z (.initialized "java/lang/StringUTF16") := mo 29 rfl hw
theorem ow33 (hw : TH a0 Z) : Bf a0 Z (.code mN4 cN4 7 (some .int)) := mo 33 rfl hw
theorem opd1 : parseMethodDescriptor "([CI[BII)I" = some ⟨[.array .char, .int, .array .byte, .int, .int], some (.int)⟩ := by decide +kernel
theorem ow32 (hw : TH a0 Z) : Bf a0 Z (.static mN4) := mo 32 rfl hw
theorem d7_12 : Dc cN5 12 (.istore 4) 2 := by decide +kernel
theorem d7_14 : Dc cN5 14 (.iload 4) 2 := by decide +kernel
theorem d7_16 : Dc cN5 16 (.iload_n 2) 1 := by decide +kernel
theorem d7_17 : Dc cN5 17 (.if_icmp .eq 40) 3 := by decide +kernel
theorem d7_57 : Dc cN5 57 (.aload_n 3) 1 := by decide +kernel
theorem d7_58 : Dc cN5 58 (.areturn) 1 := by decide +kernel
theorem oef5 (m_ : MethodId) (y0_ : Addr) (y1_ : Int32) (y2_ : Int32) : (entryFrame m_ #[.ref y0_, .int y1_, .int y2_] 6).locals = #[aR y0_, aI y1_, aI y2_, aU, aU, aU] := by first | (simp [entryFrame, argsToLocals, Value.category]; done) | rfl
theorem ob_c34 (hw : TH a0 Z) (hE : EW Z a0 consts_1) (b : Addr) (kC : ClassId) (c0 c1 c2 c3 : Nat) (h : Heap) (hO : Ol Z h) (q0 : Arv Z h b kC .char 4 [.int (Int32.ofNat c0), .int (Int32.ofNat c1), .int (Int32.ofNat c2), .int (Int32.ofNat c3)] (.int 0)) (hc0 : (c0 ≤ 127)) (hc1 : (c1 ≤ 127)) (hc2 : (c2 ≤ 127)) (hc3 : (c3 ≤ 127)) :
 Ct l Z consts_1 mN5 cN5 6 (some (.array .byte)) ⟨1, 1, 4, 20⟩ #[.ref b, .int 0, .int 4] h [] (fun rv' hp' so' => ∃ t : Addr, ∃ kt : ClassId, rv' = some (.ref t) ∧ so' = [] ∧ (h.size ≤ t) ∧ Arv Z hp' t kt .byte 4 [.int (Int32.ofNat c0), .int (Int32.ofNat c1), .int (Int32.ofNat c2), .int (Int32.ofNat c3)] (.int 0) ∧ Exa Z hp' t "[B") := by
  refine Ct.mk "java/lang/StringUTF16" "compress" rfl rfl (a0 := a0) (plainFor_of_name opn1) hO hE (fun x q => nomatch q) ?_
  intro K T W
  rw [oef5]
  refine gIloadN W d7_0 rfl rfl ?_
  refine wNewE (cap := 4) (ad := "[B") W d7_1 (ow1 hw) (by decide) (by decide) (by decide) (by decide) (by decide) (by decide) rfl fun _ E A D B G F H I => ?_
  have J : Arv Z E A D .byte 4 (List.replicate 4 (.int 0)) (.int 0) := H 4
  have L : Arv Z E A D .byte 4 [.int 0, .int 0, .int 0, .int 0] (.int 0) := J
  refine gAstoreN (ls' := #[aR b, aI 0, aI 4, aR A, aU, aU]) B d7_3 rfl rfl rfl ?_
  refine gAloadN B d7_4 rfl rfl rfl ?_
  refine gIloadN B d7_5 rfl rfl ?_
  refine gAloadN B d7_6 rfl rfl rfl ?_
  refine gIconst (z := 0) B d7_7 rfl rfl ?_
  refine gIloadN B d7_8 rfl rfl ?_
  have M : b ≠ A := Nat.ne_of_lt (Nat.lt_of_lt_of_le q0.lt (Nat.le_of_eq F.symm))
  have N := q0.ext G
  refine wStatic (y := mN4) (Wd := 0) (argsL := [.ref b, .int 0, .ref A, .int 0, .int 4]) (rest := []) B d7_9 (ow31 hw) (ow32 hw) (ow29 hw) (ow33 hw) (by decide) (Cb.ct (ob_c54 hw hE b kC A D c0 c1 c2 c3 E B.old N L M hc0 hc1 hc2 hc3 (Nat.le_trans W.old.2.1 (Nat.le_of_eq F.symm))) (ow33 hw) (ow29 hw) hE (by decide) (by decide)) (by simp) rfl (lenOf opd1 rfl) rfl (Nat.le_of_eq rfl) (by decide) (by decide) rfl fun _ _ _ _ C O _ P => ?_
  obtain ⟨rfl, rfl, Q⟩ := P
  show Go K _ _ _ _ [.int 4]
  refine gIstore (ls' := #[aR b, aI 0, aI 4, aR A, aI 4, aU]) C d7_12 rfl rfl ?_
  refine gIload C d7_14 rfl rfl ?_
  refine gIloadN C d7_16 rfl rfl ?_
  refine gIcmpYes (pc' := 57) C d7_17 (teq (by decide)).1 (by decide) rfl ?_
  refine gAloadN C d7_57 rfl rfl rfl ?_
  have R := I.keep O
  exact wRetA (so := []) (t := .array .byte) C d7_58 rfl rfl rfl (by decide) (by decide) (fun _ q => nomatch q) ⟨A, D, rfl, rfl, (Nat.le_of_eq F.symm), Q, R⟩
abbrev mN6 : MethodName := (⟨"java/lang/StringUTF16", "coderFromArrayLen", "([BI)B"⟩ : MethodName)
abbrev cN6 := jdk_52_method_15_code
theorem d9_0 : Dc cN6 0 (.iload_n 1) 1 := by decide +kernel
theorem d9_1 : Dc cN6 1 (.aload_n 0) 1 := by decide +kernel
theorem d9_2 : Dc cN6 2 (.arraylength) 1 := by decide +kernel
theorem d9_3 : Dc cN6 3 (.isub) 1 := by decide +kernel
theorem d9_4 : Dc cN6 4 (.bipush 31) 2 := by decide +kernel
theorem d9_6 : Dc cN6 6 (.iushr) 1 := by decide +kernel
theorem d9_7 : Dc cN6 7 (.i2b) 1 := by decide +kernel
theorem d9_8 : Dc cN6 8 (.ireturn) 1 := by decide +kernel
theorem oef6 (m_ : MethodId) (y0_ : Addr) (y1_ : Int32) : (entryFrame m_ #[.ref y0_, .int y1_] 2).locals = #[aR y0_, aI y1_] := by first | (simp [entryFrame, argsToLocals, Value.category]; done) | rfl
theorem ob_cf4 (hw : TH a0 Z) (hE : EW Z a0 consts_1) (t : Addr) (kt : ClassId) (c0 c1 c2 c3 : Nat) (h : Heap) (hO : Ol Z h) (q0 : Arv Z h t kt .byte 4 [.int (Int32.ofNat c0), .int (Int32.ofNat c1), .int (Int32.ofNat c2), .int (Int32.ofNat c3)] (.int 0)) :
 Ct l Z consts_1 mN6 cN6 2 (some .byte) ⟨0, 0, 0, 0⟩ #[.ref t, .int 4] h [] (fun rv' hp' so' => rv' = some (.int 0) ∧ so' = []) := by
  refine Ct.mk "java/lang/StringUTF16" "coderFromArrayLen" rfl rfl (a0 := a0) (plainFor_of_name opn1) hO hE (fun x q => nomatch q) ?_
  intro K T W
  rw [oef6]
  refine gIloadN W d9_0 rfl rfl ?_
  refine gAloadN W d9_1 rfl rfl rfl ?_
  refine wLen W d9_2 q0 rfl ?_
  refine gIsub (z := 0) W d9_3 (by decide) rfl ?_
  refine gBipush (z := 31) W d9_4 rfl rfl ?_
  refine gIushr (z := 0) W d9_6 (by decide) rfl ?_
  refine gI2B (z := 0) W d9_7 (by decide) rfl ?_
  exact wRetI (so := []) (t := .byte) W d9_8 (by simp) rfl (by decide) (by decide) (fun _ q => nomatch q) ⟨rfl, rfl⟩
abbrev mN7 : MethodName := (⟨"java/lang/String", "<init>", "([CIILjava/lang/Void;)V"⟩ : MethodName)
abbrev cN7 := jdk_42_method_149_code
theorem opn2 : plainName "java/lang/String" = true := by first | (simp [plainName, overriddenIn]; done) | decide +kernel
theorem d5_0 : Dc cN7 0 (.aload_n 0) 1 := by decide +kernel
theorem d5_1 : Dc cN7 1 (.invokespecial 1) 3 := by decide +kernel
abbrev mN8 : MethodName := (⟨"java/lang/Object", "<init>", "()V"⟩ : MethodName)
theorem ow23 (hw : TH a0 Z) : Bf a0 Z (.methodLink "java/lang/String" 1 mN8) := mo 23 rfl hw
theorem ow24 (hw : TH a0 Z) : Bf a0 Z (.instanceMethod mN8) := mo 24 rfl hw
abbrev cN8 := object_method_1_code
theorem ow25 (hw : TH a0 Z) : Bf a0 Z (.code mN8 cN8 1 none) := mo 25 rfl hw
theorem d5_4 : Dc cN7 4 (.iload_n 3) 1 := by decide +kernel
theorem d5_5 : Dc cN7 5 (.ifCond .ne 22) 3 := by decide +kernel
theorem d5_27 : Dc cN7 27 (.getstatic 38) 3 := by decide +kernel
theorem ow26 (hw : TH a0 Z) : Bf a0 Z (.fieldLink "java/lang/String" 38 "java/lang/String" "COMPACT_STRINGS" "Z") := mo 26 rfl hw
theorem d5_30 : Dc cN7 30 (.ifCond .eq 28) 3 := by decide +kernel
theorem d5_33 : Dc cN7 33 (.aload_n 1) 1 := by decide +kernel
theorem d5_34 : Dc cN7 34 (.iload_n 2) 1 := by decide +kernel
theorem d5_35 : Dc cN7 35 (.iload_n 3) 1 := by decide +kernel
theorem d5_36 : Dc cN7 36 (.invokestatic 177) 3 := by decide +kernel
theorem ow27 (hw : TH a0 Z) : Bf a0 Z (.methodLink "java/lang/String" 177 mN5) := mo 27 rfl hw
theorem ow30 (hw : TH a0 Z) : Bf a0 Z (.code mN5 cN5 6 (some (.array .byte))) := mo 30 rfl hw
theorem opd2 : parseMethodDescriptor "([CII)[B" = some ⟨[.array .char, .int, .int], some (.array .byte)⟩ := by decide +kernel
theorem ow28 (hw : TH a0 Z) : Bf a0 Z (.static mN5) := mo 28 rfl hw
theorem d5_39 : Dc cN7 39 (.astore 5) 2 := by decide +kernel
theorem d5_41 : Dc cN7 41 (.aload_n 0) 1 := by decide +kernel
theorem d5_42 : Dc cN7 42 (.aload 5) 2 := by decide +kernel
theorem d5_44 : Dc cN7 44 (.iload_n 3) 1 := by decide +kernel
theorem d5_45 : Dc cN7 45 (.invokestatic 47) 3 := by decide +kernel
theorem ow34 (hw : TH a0 Z) : Bf a0 Z (.methodLink "java/lang/String" 47 mN6) := mo 34 rfl hw
theorem ow36 (hw : TH a0 Z) : Bf a0 Z (.code mN6 cN6 2 (some .byte)) := mo 36 rfl hw
theorem opd3 : parseMethodDescriptor "([BI)B" = some ⟨[.array .byte, .int], some (.byte)⟩ := by decide +kernel
theorem ow35 (hw : TH a0 Z) : Bf a0 Z (.static mN6) := mo 35 rfl hw
theorem d5_48 : Dc cN7 48 (.putfield 15) 3 := by decide +kernel
theorem ow38 (hw : TH a0 Z) : Bf a0 Z (.laysFinal "java/lang/String" "java/lang/String" "coder" "B") := mo 38 rfl hw
theorem ow37 (hw : TH a0 Z) : Bf a0 Z (.fieldLink "java/lang/String" 15 "java/lang/String" "coder" "B") := mo 37 rfl hw
theorem ow14 (hw : TH a0 Z) : Bf a0 Z (.instantiable "java/lang/String" 4) := mo 14 rfl hw
theorem d5_51 : Dc cN7 51 (.aload_n 0) 1 := by decide +kernel
theorem d5_52 : Dc cN7 52 (.aload 5) 2 := by decide +kernel
theorem d5_54 : Dc cN7 54 (.putfield 9) 3 := by decide +kernel
theorem ow40 (hw : TH a0 Z) : Bf a0 Z (.laysFinal "java/lang/String" "java/lang/String" "value" "[B") := mo 40 rfl hw
theorem ow39 (hw : TH a0 Z) : Bf a0 Z (.fieldLink "java/lang/String" 9 "java/lang/String" "value" "[B") := mo 39 rfl hw
theorem d5_57 : Dc cN7 57 (.return_) 1 := by decide +kernel
theorem oef7 (m_ : MethodId) (y0_ : Addr) (y1_ : Addr) (y2_ : Int32) (y3_ : Int32) : (entryFrame m_ #[.ref y0_, .ref y1_, .int y2_, .int y3_, .null] 6).locals = #[aR y0_, aR y1_, aI y2_, aI y3_, .val .null, aU] := by first | (simp [entryFrame, argsToLocals, Value.category]; done) | rfl
theorem ob_i44 (hw : TH a0 Z) (hE : EW Z a0 consts_1) (a b : Addr) (kC : ClassId) (z : Int32) (c0 c1 c2 c3 : Nat) (h : Heap) (hO : Ol Z h) (SC : (PSC Z z)) (hz : (¬ z = 0)) (q2 : Exa Z h a "java/lang/String") (q3 : Fld Z h a "java/lang/String" "value" "[B" .null) (q4 : Fld Z h a "java/lang/String" "coder" "B" (.int 0)) (q5 : Arv Z h b kC .char 4 [.int (Int32.ofNat c0), .int (Int32.ofNat c1), .int (Int32.ofNat c2), .int (Int32.ofNat c3)] (.int 0)) (hc0 : (c0 ≤ 127)) (hc1 : (c1 ≤ 127)) (hc2 : (c2 ≤ 127)) (hc3 : (c3 ≤ 127)) (ge_a : Z.heap.size ≤ a) :
 Ct l Z consts_1 mN7 cN7 6 none ⟨2, 1, 4, 45⟩ #[.ref a, .ref b, .int 0, .int 4, .null] h [a] (fun rv' hp' so' => ∃ t : Addr, ∃ kt : ClassId, rv' = none ∧ so' = [] ∧ (h.size ≤ t) ∧ Exa Z hp' a "java/lang/String" ∧ Fld Z hp' a "java/lang/String" "coder" "B" (.int 0) ∧ Fld Z hp' a "java/lang/String" "value" "[B" (.ref t) ∧ Arv Z hp' t kt .byte 4 [.int (Int32.ofNat c0), .int (Int32.ofNat c1), .int (Int32.ofNat c2), .int (Int32.ofNat c3)] (.int 0) ∧ Exa Z hp' t "[B") := by
  refine Ct.mk "java/lang/String" "<init>" rfl rfl (a0 := a0) (plainFor_of_name opn2) hO hE (fun x q => by simp at q; subst q; exact ge_a) ?_
  intro K T W
  rw [oef7]
  refine gAloadN W d5_0 rfl rfl rfl ?_
  refine wInitO W d5_1 (ow23 hw) (ow24 hw) (ow25 hw) rfl (by decide) 0 (Nat.le_of_eq rfl) (by decide) rfl fun _ G => ?_
  refine gIloadN G d5_4 rfl rfl ?_
  refine gIfYes (pc' := 27) G d5_5 ((if0 _ _).trans (feq (by decide)).2) (by decide) rfl ?_
  refine wGetS G d5_27 (ow26 hw) Via.refl SC rfl fun _ A => ?_
  refine gIfNo A d5_30 ((if0 _ _).trans (feq hz).1) rfl ?_
  refine gAloadN A d5_33 rfl rfl rfl ?_
  refine gIloadN A d5_34 rfl rfl ?_
  refine gIloadN A d5_35 rfl rfl ?_
  refine wStatic (y := mN5) (Wd := 0) (argsL := [.ref b, .int 0, .int 4]) (rest := []) A d5_36 (ow27 hw) (ow28 hw) (ow29 hw) (ow30 hw) (by decide) (Cb.ct (ob_c34 hw hE b kC c0 c1 c2 c3 h A.old q5 hc0 hc1 hc2 hc3) (ow30 hw) (ow29 hw) hE (by decide) (by decide)) (by simp) rfl (lenOf opd2 rfl) rfl (Nat.le_of_eq rfl) (by decide) (by decide) rfl fun _ _ _ S B H _ U => ?_
  obtain ⟨C, J, rfl, rfl, L, M, V⟩ := U
  show Go K _ _ _ _ [.ref C]
  refine gAstore (ls' := #[aR a, aR b, aI 0, aI 4, .val .null, aR C]) B d5_39 rfl rfl rfl ?_
  refine gAloadN B d5_41 rfl rfl rfl ?_
  refine gAload B d5_42 rfl rfl rfl ?_
  refine gIloadN B d5_44 rfl rfl ?_
  refine wStatic (y := mN6) (Wd := 1) (argsL := [.ref C, .int 4]) (rest := [.ref a]) B d5_45 (ow34 hw) (ow35 hw) (ow29 hw) (ow36 hw) (by decide) (Cb.ct (ob_cf4 hw hE C J c0 c1 c2 c3 S B.old M) (ow36 hw) (ow29 hw) hE (by decide) (by decide)) (by simp) rfl (lenOf opd3 rfl) rfl (Nat.le_of_eq rfl) (by decide) (by decide) rfl fun _ _ _ _ X D _ Y => ?_
  obtain ⟨rfl, rfl⟩ := Y
  show Go K _ _ _ _ [.int 0, .ref a]
  have Aa := q4.keep H nin0
  have N := Aa.keep D nin0
  have Ab := q2.keep H
  have O := Ab.keep D
  refine wPutF (ty := .byte) X d5_48 (ow37 hw) Via.refl (by simp) N O (Or.inr ⟨(ow38 hw), rfl, rfl⟩) (ow14 hw) (by decide) rfl (by decide) rfl fun _ _ I E => ?_
  have Ac := Fld.same E N
  refine gAloadN I d5_51 rfl rfl rfl ?_
  refine gAload I d5_52 rfl rfl rfl ?_
  have Ad := q3.keep H nin0
  have Ae := Ad.keep D nin0
  have P := Ae.other E (Or.inr (slot_ne (t := .array .byte) (t' := .byte) (Or.inr (ow40 hw)) (Or.inr (ow38 hw)) (by decide) (by decide) (by decide)))
  have Q := O.wr E
  refine wPutF (ty := .array .byte) I d5_54 (ow39 hw) Via.refl (by simp) P Q (Or.inr ⟨(ow40 hw), rfl, rfl⟩) (ow14 hw) (by decide) rfl rfl rfl fun _ _ Af F => ?_
  have Ag := Fld.same F P
  have Ah := Q.wr F
  have Ai := Ac.other F (Or.inr (slot_ne (t := .byte) (t' := .array .byte) (Or.inr (ow38 hw)) (Or.inr (ow40 hw)) (by decide) (by decide) (by decide)))
  have Aj := M.keep D nin0
  have R : a ≠ C := Nat.ne_of_lt (Nat.lt_of_lt_of_le q2.lt L)
  have Ak := Aj.other E (Ne.symm R)
  have Al := Ak.other F (Ne.symm R)
  have Am := V.keep D
  have An := Am.wr E
  have Ao := An.wr F
  exact wRet0 (so := []) Af d5_57 (by decide) (by decide) (fun _ q => nomatch q) ⟨C, J, rfl, rfl, L, Ah, Ai, Ag, Al, Ao⟩
abbrev mN9 : MethodName := (⟨"java/lang/String", "<init>", "([C)V"⟩ : MethodName)
abbrev cN9 := jdk_42_method_3_code
theorem d4_0 : Dc cN9 0 (.aload_n 0) 1 := by decide +kernel
theorem d4_1 : Dc cN9 1 (.aload_n 1) 1 := by decide +kernel
theorem d4_2 : Dc cN9 2 (.iconst 0) 1 := by decide +kernel
theorem d4_3 : Dc cN9 3 (.aload_n 1) 1 := by decide +kernel
theorem d4_4 : Dc cN9 4 (.arraylength) 1 := by decide +kernel
theorem d4_5 : Dc cN9 5 (.aconst_null) 1 := by decide +kernel
theorem d4_6 : Dc cN9 6 (.invokespecial 27) 3 := by decide +kernel
theorem ow19 (hw : TH a0 Z) : Bf a0 Z (.methodLink "java/lang/String" 27 mN7) := mo 19 rfl hw
theorem ow15 (hw : TH a0 Z) : Bf a0 Z (.initialized "java/lang/String") := mo 15 rfl hw
theorem ow22 (hw : TH a0 Z) : Bf a0 Z (.code mN7 cN7 6 none) := mo 22 rfl hw
theorem opd4 : parseMethodDescriptor "([CIILjava/lang/Void;)V" = some ⟨[.array .char, .int, .int, .object "java/lang/Void"], none⟩ := by decide +kernel
theorem ow20 (hw : TH a0 Z) : Bf a0 Z (.instanceMethod mN7) := mo 20 rfl hw
theorem d4_9 : Dc cN9 9 (.return_) 1 := by decide +kernel
theorem oef8 (m_ : MethodId) (y0_ : Addr) (y1_ : Addr) : (entryFrame m_ #[.ref y0_, .ref y1_] 2).locals = #[aR y0_, aR y1_] := by first | (simp [entryFrame, argsToLocals, Value.category]; done) | rfl
theorem ob_i14 (hw : TH a0 Z) (hE : EW Z a0 consts_1) (a b : Addr) (kC : ClassId) (z : Int32) (c0 c1 c2 c3 : Nat) (h : Heap) (hO : Ol Z h) (SC : (PSC Z z)) (hz : (¬ z = 0)) (q2 : Exa Z h a "java/lang/String") (q3 : Fld Z h a "java/lang/String" "value" "[B" .null) (q4 : Fld Z h a "java/lang/String" "coder" "B" (.int 0)) (q5 : Arv Z h b kC .char 4 [.int (Int32.ofNat c0), .int (Int32.ofNat c1), .int (Int32.ofNat c2), .int (Int32.ofNat c3)] (.int 0)) (hc0 : (c0 ≤ 127)) (hc1 : (c1 ≤ 127)) (hc2 : (c2 ≤ 127)) (hc3 : (c3 ≤ 127)) (ge_a : Z.heap.size ≤ a) :
 Ct l Z consts_1 mN9 cN9 2 none ⟨3, 1, 4, 65⟩ #[.ref a, .ref b] h [a] (fun rv' hp' so' => ∃ t : Addr, ∃ kt : ClassId, rv' = none ∧ so' = [] ∧ (h.size ≤ t) ∧ Exa Z hp' a "java/lang/String" ∧ Fld Z hp' a "java/lang/String" "coder" "B" (.int 0) ∧ Fld Z hp' a "java/lang/String" "value" "[B" (.ref t) ∧ Arv Z hp' t kt .byte 4 [.int (Int32.ofNat c0), .int (Int32.ofNat c1), .int (Int32.ofNat c2), .int (Int32.ofNat c3)] (.int 0) ∧ Exa Z hp' t "[B") := by
  refine Ct.mk "java/lang/String" "<init>" rfl rfl (a0 := a0) (plainFor_of_name opn2) hO hE (fun x q => by simp at q; subst q; exact ge_a) ?_
  intro K T W
  rw [oef8]
  refine gAloadN W d4_0 rfl rfl rfl ?_
  refine gAloadN W d4_1 rfl rfl rfl ?_
  refine gIconst (z := 0) W d4_2 rfl rfl ?_
  refine gAloadN W d4_3 rfl rfl rfl ?_
  refine wLen W d4_4 q5 rfl ?_
  refine gAconstNull W d4_5 rfl ?_
  refine wSpecial (y := mN7) (Wd := 0) (a := a) (argsL := [.ref b, .int 0, .int 4, .null]) (rest := []) W d4_6 rfl (ow19 hw) (ow20 hw) (ow22 hw) (by decide) (Cb.ct (ob_i44 hw hE a b kC z c0 c1 c2 c3 h W.old SC hz q2 q3 q4 q5 hc0 hc1 hc2 hc3 ge_a) (ow22 hw) (ow15 hw) hE (by decide) (by decide)) (by simp) rfl (lenOf opd4 rfl) rfl (Nat.le_of_eq rfl) (by decide) (by decide) rfl fun _ _ _ _ A _ _ B => ?_
  obtain ⟨C, D, rfl, rfl, E, F, G, H, I, J⟩ := B
  show Go K _ _ _ _ []
  exact wRet0 (so := []) A d4_9 (by decide) (by decide) (fun _ q => nomatch q) ⟨C, D, rfl, rfl, E, F, G, H, I, J⟩
theorem ob_c58 (hw : TH a0 Z) (hE : EW Z a0 consts_1) (b : Addr) (kC : ClassId) (d : Addr) (kd : ClassId) (c0 c1 c2 c3 c4 c5 c6 c7 : Nat) (h : Heap) (hO : Ol Z h) (q0 : Arv Z h b kC .char 8 [.int (Int32.ofNat c0), .int (Int32.ofNat c1), .int (Int32.ofNat c2), .int (Int32.ofNat c3), .int (Int32.ofNat c4), .int (Int32.ofNat c5), .int (Int32.ofNat c6), .int (Int32.ofNat c7)] (.int 0)) (q1 : Arv Z h d kd .byte 8 [.int 0, .int 0, .int 0, .int 0, .int 0, .int 0, .int 0, .int 0] (.int 0)) (nbd : (b ≠ d)) (hc0 : (c0 ≤ 127)) (hc1 : (c1 ≤ 127)) (hc2 : (c2 ≤ 127)) (hc3 : (c3 ≤ 127)) (hc4 : (c4 ≤ 127)) (hc5 : (c5 ≤ 127)) (hc6 : (c6 ≤ 127)) (hc7 : (c7 ≤ 127)) (ge_d : Z.heap.size ≤ d) :
 Ct l Z consts_1 mN4 cN4 7 (some .int) ⟨0, 0, 0, 0⟩ #[.ref b, .int 0, .ref d, .int 0, .int 8] h [d] (fun rv' hp' so' => rv' = some (.int 8) ∧ so' = [] ∧ Arv Z hp' d kd .byte 8 [.int (Int32.ofNat c0), .int (Int32.ofNat c1), .int (Int32.ofNat c2), .int (Int32.ofNat c3), .int (Int32.ofNat c4), .int (Int32.ofNat c5), .int (Int32.ofNat c6), .int (Int32.ofNat c7)] (.int 0)) := by
  refine Ct.mk "java/lang/StringUTF16" "compress" rfl rfl (a0 := a0) (plainFor_of_name opn1) hO hE (fun x q => by simp at q; subst q; exact ge_d) ?_
  intro K T W
  rw [oef4]
  refine gIconst (z := 0) W d8_0 rfl rfl ?_
  refine gIstore (ls' := #[aR b, aI 0, aR d, aI 0, aI 8, aI 0, aU]) W d8_1 rfl rfl ?_
  refine gIload W d8_3 rfl rfl ?_
  refine gIload W d8_5 rfl rfl ?_
  refine gIcmpNo W d8_7 (tlt (by decide)).2.1 rfl ?_
  refine gAloadN W d8_10 rfl rfl rfl ?_
  refine gIloadN W d8_11 rfl rfl ?_
  refine wLdC (v := (.int (Int32.ofNat c0))) W d8_12 q0 (by decide) rfl rfl ?_
  refine gIstore (ls' := #[aR b, aI 0, aR d, aI 0, aI 8, aI 0, aI (Int32.ofNat c0)]) W d8_13 rfl rfl ?_
  refine gIload W d8_15 rfl rfl ?_
  refine gSipush (z := 255) W d8_17 rfl rfl ?_
  refine gIcmpYes (pc' := 26) W d8_20 (flt (fun q => absurd ((ltc_ofNat (P := 255) (by decide) (by omega)).mp q) (by omega))).2.2.2 (by decide) rfl ?_
  refine gAloadN W d8_26 rfl rfl rfl ?_
  refine gIloadN W d8_27 rfl rfl ?_
  refine gIload W d8_28 rfl rfl ?_
  refine gI2B (z := (Int32.ofNat c0)) W d8_30 (byte_id hc0) rfl ?_
  refine wStB (y := (Int32.ofNat c0)) W d8_31 (by simp) q1 (by decide) (byte_id hc0) 0 (by decide) (show 0 < 8 from by decide) rfl fun _ Q A R S => ?_
  have U : Arv Z Q d kd .byte 8 [.int (Int32.ofNat c0), .int 0, .int 0, .int 0, .int 0, .int 0, .int 0, .int 0] (.int 0) := S
  refine gIinc (z := 1) (ls' := #[aR b, aI 1, aR d, aI 0, aI 8, aI 0, aI (Int32.ofNat c0)]) A d8_32 rfl (by decide) rfl rfl ?_
  refine gIinc (z := 1) (ls' := #[aR b, aI 1, aR d, aI 1, aI 8, aI 0, aI (Int32.ofNat c0)]) A d8_35 rfl (by decide) rfl rfl ?_
  refine gIinc (z := 1) (ls' := #[aR b, aI 1, aR d, aI 1, aI 8, aI 1, aI (Int32.ofNat c0)]) A d8_38 rfl (by decide) rfl rfl ?_
  refine gGoto (pc' := 3) A d8_41 (by decide) rfl ?_
  refine gIload A d8_3 rfl rfl ?_
  refine gIload A d8_5 rfl rfl ?_
  refine gIcmpNo A d8_7 (tlt (by decide)).2.1 rfl ?_
  refine gAloadN A d8_10 rfl rfl rfl ?_
  refine gIloadN A d8_11 rfl rfl ?_
  have I := q0.other R nbd
  refine wLdC (v := (.int (Int32.ofNat c1))) A d8_12 I (by decide) rfl rfl ?_
  refine gIstore (ls' := #[aR b, aI 1, aR d, aI 1, aI 8, aI 1, aI (Int32.ofNat c1)]) A d8_13 rfl rfl ?_
  refine gIload A d8_15 rfl rfl ?_
  refine gSipush (z := 255) A d8_17 rfl rfl ?_
  refine gIcmpYes (pc' := 26) A d8_20 (flt (fun q => absurd ((ltc_ofNat (P := 255) (by decide) (by omega)).mp q) (by omega))).2.2.2 (by decide) rfl ?_
  refine gAloadN A d8_26 rfl rfl rfl ?_
  refine gIloadN A d8_27 rfl rfl ?_
  refine gIload A d8_28 rfl rfl ?_
  refine gI2B (z := (Int32.ofNat c1)) A d8_30 (byte_id hc1) rfl ?_
  refine wStB (y := (Int32.ofNat c1)) A d8_31 (by simp) U (by decide) (byte_id hc1) 1 (by decide) (show 1 < 8 from by decide) rfl fun _ V B X Y => ?_
  have Aa : Arv Z V d kd .byte 8 [.int (Int32.ofNat c0), .int (Int32.ofNat c1), .int 0, .int 0, .int 0, .int 0, .int 0, .int 0] (.int 0) := Y
  refine gIinc (z := 2) (ls' := #[aR b, aI 2, aR d, aI 1, aI 8, aI 1, aI (Int32.ofNat c1)]) B d8_32 rfl (by decide) rfl rfl ?_
  refine gIinc (z := 2) (ls' := #[aR b, aI 2, aR d, aI 2, aI 8, aI 1, aI (Int32.ofNat c1)]) B d8_35 rfl (by decide) rfl rfl ?_
  refine gIinc (z := 2) (ls' := #[aR b, aI 2, aR d, aI 2, aI 8, aI 2, aI (Int32.ofNat c1)]) B d8_38 rfl (by decide) rfl rfl ?_
  refine gGoto (pc' := 3) B d8_41 (by decide) rfl ?_
  refine gIload B d8_3 rfl rfl ?_
  refine gIload B d8_5 rfl rfl ?_
  refine gIcmpNo B d8_7 (tlt (by decide)).2.1 rfl ?_
  refine gAloadN B d8_10 rfl rfl rfl ?_
  refine gIloadN B d8_11 rfl rfl ?_
  have J := I.other X nbd
  refine wLdC (v := (.int (Int32.ofNat c2))) B d8_12 J (by decide) rfl rfl ?_
  refine gIstore (ls' := #[aR b, aI 2, aR d, aI 2, aI 8, aI 2, aI (Int32.ofNat c2)]) B d8_13 rfl rfl ?_
  refine gIload B d8_15 rfl rfl ?_
  refine gSipush (z := 255) B d8_17 rfl rfl ?_
  refine gIcmpYes (pc' := 26) B d8_20 (flt (fun q => absurd ((ltc_ofNat (P := 255) (by decide) (by omega)).mp q) (by omega))).2.2.2 (by decide) rfl ?_
  refine gAloadN B d8_26 rfl rfl rfl ?_
  refine gIloadN B d8_27 rfl rfl ?_
  refine gIload B d8_28 rfl rfl ?_
  refine gI2B (z := (Int32.ofNat c2)) B d8_30 (byte_id hc2) rfl ?_
  refine wStB (y := (Int32.ofNat c2)) B d8_31 (by simp) Aa (by decide) (byte_id hc2) 2 (by decide) (show 2 < 8 from by decide) rfl fun _ Ab C Ac Ad => ?_
  have Ae : Arv Z Ab d kd .byte 8 [.int (Int32.ofNat c0), .int (Int32.ofNat c1), .int (Int32.ofNat c2), .int 0, .int 0, .int 0, .int 0, .int 0] (.int 0) := Ad
  refine gIinc (z := 3) (ls' := #[aR b, aI 3, aR d, aI 2, aI 8, aI 2, aI (Int32.ofNat c2)]) C d8_32 rfl (by decide) rfl rfl ?_
  refine gIinc (z := 3) (ls' := #[aR b, aI 3, aR d, aI 3, aI 8, aI 2, aI (Int32.ofNat c2)]) C d8_35 rfl (by decide) rfl rfl ?_
  refine gIinc (z := 3) (ls' := #[aR b, aI 3, aR d, aI 3, aI 8, aI 3, aI (Int32.ofNat c2)]) C d8_38 rfl (by decide) rfl rfl ?_
  refine gGoto (pc' := 3) C d8_41 (by decide) rfl ?_
  refine gIload C d8_3 rfl rfl ?_
  refine gIload C d8_5 rfl rfl ?_
  refine gIcmpNo C d8_7 (tlt (by decide)).2.1 rfl ?_
  refine gAloadN C d8_10 rfl rfl rfl ?_
  refine gIloadN C d8_11 rfl rfl ?_
  have L := J.other Ac nbd
  refine wLdC (v := (.int (Int32.ofNat c3))) C d8_12 L (by decide) rfl rfl ?_
  refine gIstore (ls' := #[aR b, aI 3, aR d, aI 3, aI 8, aI 3, aI (Int32.ofNat c3)]) C d8_13 rfl rfl ?_
  refine gIload C d8_15 rfl rfl ?_
  refine gSipush (z := 255) C d8_17 rfl rfl ?_
  refine gIcmpYes (pc' := 26) C d8_20 (flt (fun q => absurd ((ltc_ofNat (P := 255) (by decide) (by omega)).mp q) (by omega))).2.2.2 (by decide) rfl ?_
  refine gAloadN C d8_26 rfl rfl rfl ?_
  refine gIloadN C d8_27 rfl rfl ?_
  refine gIload C d8_28 rfl rfl ?_
  refine gI2B (z := (Int32.ofNat c3)) C d8_30 (byte_id hc3) rfl ?_
  refine wStB (y := (Int32.ofNat c3)) C d8_31 (by simp) Ae (by decide) (byte_id hc3) 3 (by decide) (show 3 < 8 from by decide) rfl fun _ Af D Ag Ah => ?_
  have Ai : Arv Z Af d kd .byte 8 [.int (Int32.ofNat c0), .int (Int32.ofNat c1), .int (Int32.ofNat c2), .int (Int32.ofNat c3), .int 0, .int 0, .int 0, .int 0] (.int 0) := Ah
  refine gIinc (z := 4) (ls' := #[aR b, aI 4, aR d, aI 3, aI 8, aI 3, aI (Int32.ofNat c3)]) D d8_32 rfl (by decide) rfl rfl ?_
  refine gIinc (z := 4) (ls' := #[aR b, aI 4, aR d, aI 4, aI 8, aI 3, aI (Int32.ofNat c3)]) D d8_35 rfl (by decide) rfl rfl ?_
  refine gIinc (z := 4) (ls' := #[aR b, aI 4, aR d, aI 4, aI 8, aI 4, aI (Int32.ofNat c3)]) D d8_38 rfl (by decide) rfl rfl ?_
  refine gGoto (pc' := 3) D d8_41 (by decide) rfl ?_
  refine gIload D d8_3 rfl rfl ?_
  refine gIload D d8_5 rfl rfl ?_
  refine gIcmpNo D d8_7 (tlt (by decide)).2.1 rfl ?_
  refine gAloadN D d8_10 rfl rfl rfl ?_
  refine gIloadN D d8_11 rfl rfl ?_
  have M := L.other Ag nbd
  refine wLdC (v := (.int (Int32.ofNat c4))) D d8_12 M (by decide) rfl rfl ?_
  refine gIstore (ls' := #[aR b, aI 4, aR d, aI 4, aI 8, aI 4, aI (Int32.ofNat c4)]) D d8_13 rfl rfl ?_
  refine gIload D d8_15 rfl rfl ?_
  refine gSipush (z := 255) D d8_17 rfl rfl ?_
  refine gIcmpYes (pc' := 26) D d8_20 (flt (fun q => absurd ((ltc_ofNat (P := 255) (by decide) (by omega)).mp q) (by omega))).2.2.2 (by decide) rfl ?_
  refine gAloadN D d8_26 rfl rfl rfl ?_
  refine gIloadN D d8_27 rfl rfl ?_
  refine gIload D d8_28 rfl rfl ?_
  refine gI2B (z := (Int32.ofNat c4)) D d8_30 (byte_id hc4) rfl ?_
  refine wStB (y := (Int32.ofNat c4)) D d8_31 (by simp) Ai (by decide) (byte_id hc4) 4 (by decide) (show 4 < 8 from by decide) rfl fun _ Aj E Ak Al => ?_
  have Am : Arv Z Aj d kd .byte 8 [.int (Int32.ofNat c0), .int (Int32.ofNat c1), .int (Int32.ofNat c2), .int (Int32.ofNat c3), .int (Int32.ofNat c4), .int 0, .int 0, .int 0] (.int 0) := Al
  refine gIinc (z := 5) (ls' := #[aR b, aI 5, aR d, aI 4, aI 8, aI 4, aI (Int32.ofNat c4)]) E d8_32 rfl (by decide) rfl rfl ?_
  refine gIinc (z := 5) (ls' := #[aR b, aI 5, aR d, aI 5, aI 8, aI 4, aI (Int32.ofNat c4)]) E d8_35 rfl (by decide) rfl rfl ?_
  refine gIinc (z := 5) (ls' := #[aR b, aI 5, aR d, aI 5, aI 8, aI 5, aI (Int32.ofNat c4)]) E d8_38 rfl (by decide) rfl rfl ?_
  refine gGoto (pc' := 3) E d8_41 (by decide) rfl ?_
  refine gIload E d8_3 rfl rfl ?_
  refine gIload E d8_5 rfl rfl ?_
  refine gIcmpNo E d8_7 (tlt (by decide)).2.1 rfl ?_
  refine gAloadN E d8_10 rfl rfl rfl ?_
  refine gIloadN E d8_11 rfl rfl ?_
  have N := M.other Ak nbd
  refine wLdC (v := (.int (Int32.ofNat c5))) E d8_12 N (by decide) rfl rfl ?_
  refine gIstore (ls' := #[aR b, aI 5, aR d, aI 5, aI 8, aI 5, aI (Int32.ofNat c5)]) E d8_13 rfl rfl ?_
  refine gIload E d8_15 rfl rfl ?_
  refine gSipush (z := 255) E d8_17 rfl rfl ?_
  refine gIcmpYes (pc' := 26) E d8_20 (flt (fun q => absurd ((ltc_ofNat (P := 255) (by decide) (by omega)).mp q) (by omega))).2.2.2 (by decide) rfl ?_
  refine gAloadN E d8_26 rfl rfl rfl ?_
  refine gIloadN E d8_27 rfl rfl ?_
  refine gIload E d8_28 rfl rfl ?_
  refine gI2B (z := (Int32.ofNat c5)) E d8_30 (byte_id hc5) rfl ?_
  refine wStB (y := (Int32.ofNat c5)) E d8_31 (by simp) Am (by decide) (byte_id hc5) 5 (by decide) (show 5 < 8 from by decide) rfl fun _ An F Ao Ap => ?_
  have Aq : Arv Z An d kd .byte 8 [.int (Int32.ofNat c0), .int (Int32.ofNat c1), .int (Int32.ofNat c2), .int (Int32.ofNat c3), .int (Int32.ofNat c4), .int (Int32.ofNat c5), .int 0, .int 0] (.int 0) := Ap
  refine gIinc (z := 6) (ls' := #[aR b, aI 6, aR d, aI 5, aI 8, aI 5, aI (Int32.ofNat c5)]) F d8_32 rfl (by decide) rfl rfl ?_
  refine gIinc (z := 6) (ls' := #[aR b, aI 6, aR d, aI 6, aI 8, aI 5, aI (Int32.ofNat c5)]) F d8_35 rfl (by decide) rfl rfl ?_
  refine gIinc (z := 6) (ls' := #[aR b, aI 6, aR d, aI 6, aI 8, aI 6, aI (Int32.ofNat c5)]) F d8_38 rfl (by decide) rfl rfl ?_
  refine gGoto (pc' := 3) F d8_41 (by decide) rfl ?_
  refine gIload F d8_3 rfl rfl ?_
  refine gIload F d8_5 rfl rfl ?_
  refine gIcmpNo F d8_7 (tlt (by decide)).2.1 rfl ?_
  refine gAloadN F d8_10 rfl rfl rfl ?_
  refine gIloadN F d8_11 rfl rfl ?_
  have O := N.other Ao nbd
  refine wLdC (v := (.int (Int32.ofNat c6))) F d8_12 O (by decide) rfl rfl ?_
  refine gIstore (ls' := #[aR b, aI 6, aR d, aI 6, aI 8, aI 6, aI (Int32.ofNat c6)]) F d8_13 rfl rfl ?_
  refine gIload F d8_15 rfl rfl ?_
  refine gSipush (z := 255) F d8_17 rfl rfl ?_
  refine gIcmpYes (pc' := 26) F d8_20 (flt (fun q => absurd ((ltc_ofNat (P := 255) (by decide) (by omega)).mp q) (by omega))).2.2.2 (by decide) rfl ?_
  refine gAloadN F d8_26 rfl rfl rfl ?_
  refine gIloadN F d8_27 rfl rfl ?_
  refine gIload F d8_28 rfl rfl ?_
  refine gI2B (z := (Int32.ofNat c6)) F d8_30 (byte_id hc6) rfl ?_
  refine wStB (y := (Int32.ofNat c6)) F d8_31 (by simp) Aq (by decide) (byte_id hc6) 6 (by decide) (show 6 < 8 from by decide) rfl fun _ Ar G As At => ?_
  have Au : Arv Z Ar d kd .byte 8 [.int (Int32.ofNat c0), .int (Int32.ofNat c1), .int (Int32.ofNat c2), .int (Int32.ofNat c3), .int (Int32.ofNat c4), .int (Int32.ofNat c5), .int (Int32.ofNat c6), .int 0] (.int 0) := At
  refine gIinc (z := 7) (ls' := #[aR b, aI 7, aR d, aI 6, aI 8, aI 6, aI (Int32.ofNat c6)]) G d8_32 rfl (by decide) rfl rfl ?_
  refine gIinc (z := 7) (ls' := #[aR b, aI 7, aR d, aI 7, aI 8, aI 6, aI (Int32.ofNat c6)]) G d8_35 rfl (by decide) rfl rfl ?_
  refine gIinc (z := 7) (ls' := #[aR b, aI 7, aR d, aI 7, aI 8, aI 7, aI (Int32.ofNat c6)]) G d8_38 rfl (by decide) rfl rfl ?_
  refine gGoto (pc' := 3) G d8_41 (by decide) rfl ?_
  refine gIload G d8_3 rfl rfl ?_
  refine gIload G d8_5 rfl rfl ?_
  refine gIcmpNo G d8_7 (tlt (by decide)).2.1 rfl ?_
  refine gAloadN G d8_10 rfl rfl rfl ?_
  refine gIloadN G d8_11 rfl rfl ?_
  have Av := O.other As nbd
  refine wLdC (v := (.int (Int32.ofNat c7))) G d8_12 Av (by decide) rfl rfl ?_
  refine gIstore (ls' := #[aR b, aI 7, aR d, aI 7, aI 8, aI 7, aI (Int32.ofNat c7)]) G d8_13 rfl rfl ?_
  refine gIload G d8_15 rfl rfl ?_
  refine gSipush (z := 255) G d8_17 rfl rfl ?_
  refine gIcmpYes (pc' := 26) G d8_20 (flt (fun q => absurd ((ltc_ofNat (P := 255) (by decide) (by omega)).mp q) (by omega))).2.2.2 (by decide) rfl ?_
  refine gAloadN G d8_26 rfl rfl rfl ?_
  refine gIloadN G d8_27 rfl rfl ?_
  refine gIload G d8_28 rfl rfl ?_
  refine gI2B (z := (Int32.ofNat c7)) G d8_30 (byte_id hc7) rfl ?_
  refine wStB (y := (Int32.ofNat c7)) G d8_31 (by simp) Au (by decide) (byte_id hc7) 7 (by decide) (show 7 < 8 from by decide) rfl fun _ Aw H _ Ax => ?_
  have Ay : Arv Z Aw d kd .byte 8 [.int (Int32.ofNat c0), .int (Int32.ofNat c1), .int (Int32.ofNat c2), .int (Int32.ofNat c3), .int (Int32.ofNat c4), .int (Int32.ofNat c5), .int (Int32.ofNat c6), .int (Int32.ofNat c7)] (.int 0) := Ax
  refine gIinc (z := 8) (ls' := #[aR b, aI 8, aR d, aI 7, aI 8, aI 7, aI (Int32.ofNat c7)]) H d8_32 rfl (by decide) rfl rfl ?_
  refine gIinc (z := 8) (ls' := #[aR b, aI 8, aR d, aI 8, aI 8, aI 7, aI (Int32.ofNat c7)]) H d8_35 rfl (by decide) rfl rfl ?_
  refine gIinc (z := 8) (ls' := #[aR b, aI 8, aR d, aI 8, aI 8, aI 8, aI (Int32.ofNat c7)]) H d8_38 rfl (by decide) rfl rfl ?_
  refine gGoto (pc' := 3) H d8_41 (by decide) rfl ?_
  refine gIload H d8_3 rfl rfl ?_
  refine gIload H d8_5 rfl rfl ?_
  refine gIcmpYes (pc' := 44) H d8_7 (flt (by decide)).2.1 (by decide) rfl ?_
  refine gIload H d8_44 rfl rfl ?_
  exact wRetI (so := []) (t := .int) H d8_46 (by simp) rfl (by decide) (by decide) (fun _ q => nomatch q) ⟨rfl, rfl, Ay⟩
theorem ob_c38 (hw : TH a0 Z) (hE : EW Z a0 consts_1) (b : Addr) (kC : ClassId) (c0 c1 c2 c3 c4 c5 c6 c7 : Nat) (h : Heap) (hO : Ol Z h) (q0 : Arv Z h b kC .char 8 [.int (Int32.ofNat c0), .int (Int32.ofNat c1), .int (Int32.ofNat c2), .int (Int32.ofNat c3), .int (Int32.ofNat c4), .int (Int32.ofNat c5), .int (Int32.ofNat c6), .int (Int32.ofNat c7)] (.int 0)) (hc0 : (c0 ≤ 127)) (hc1 : (c1 ≤ 127)) (hc2 : (c2 ≤ 127)) (hc3 : (c3 ≤ 127)) (hc4 : (c4 ≤ 127)) (hc5 : (c5 ≤ 127)) (hc6 : (c6 ≤ 127)) (hc7 : (c7 ≤ 127)) :
 Ct l Z consts_1 mN5 cN5 6 (some (.array .byte)) ⟨1, 1, 8, 20⟩ #[.ref b, .int 0, .int 8] h [] (fun rv' hp' so' => ∃ t : Addr, ∃ kt : ClassId, rv' = some (.ref t) ∧ so' = [] ∧ (h.size ≤ t) ∧ Arv Z hp' t kt .byte 8 [.int (Int32.ofNat c0), .int (Int32.ofNat c1), .int (Int32.ofNat c2), .int (Int32.ofNat c3), .int (Int32.ofNat c4), .int (Int32.ofNat c5), .int (Int32.ofNat c6), .int (Int32.ofNat c7)] (.int 0) ∧ Exa Z hp' t "[B") := by
  refine Ct.mk "java/lang/StringUTF16" "compress" rfl rfl (a0 := a0) (plainFor_of_name opn1) hO hE (fun x q => nomatch q) ?_
  intro K T W
  rw [oef5]
  refine gIloadN W d7_0 rfl rfl ?_
  refine wNewE (cap := 8) (ad := "[B") W d7_1 (ow1 hw) (by decide) (by decide) (by decide) (by decide) (by decide) (by decide) rfl fun _ E A D B G F H I => ?_
  have J : Arv Z E A D .byte 8 (List.replicate 8 (.int 0)) (.int 0) := H 8
  have L : Arv Z E A D .byte 8 [.int 0, .int 0, .int 0, .int 0, .int 0, .int 0, .int 0, .int 0] (.int 0) := J
  refine gAstoreN (ls' := #[aR b, aI 0, aI 8, aR A, aU, aU]) B d7_3 rfl rfl rfl ?_
  refine gAloadN B d7_4 rfl rfl rfl ?_
  refine gIloadN B d7_5 rfl rfl ?_
  refine gAloadN B d7_6 rfl rfl rfl ?_
  refine gIconst (z := 0) B d7_7 rfl rfl ?_
  refine gIloadN B d7_8 rfl rfl ?_
  have M : b ≠ A := Nat.ne_of_lt (Nat.lt_of_lt_of_le q0.lt (Nat.le_of_eq F.symm))
  have N := q0.ext G
  refine wStatic (y := mN4) (Wd := 0) (argsL := [.ref b, .int 0, .ref A, .int 0, .int 8]) (rest := []) B d7_9 (ow31 hw) (ow32 hw) (ow29 hw) (ow33 hw) (by decide) (Cb.ct (ob_c58 hw hE b kC A D c0 c1 c2 c3 c4 c5 c6 c7 E B.old N L M hc0 hc1 hc2 hc3 hc4 hc5 hc6 hc7 (Nat.le_trans W.old.2.1 (Nat.le_of_eq F.symm))) (ow33 hw) (ow29 hw) hE (by decide) (by decide)) (by simp) rfl (lenOf opd1 rfl) rfl (Nat.le_of_eq rfl) (by decide) (by decide) rfl fun _ _ _ _ C O _ P => ?_
  obtain ⟨rfl, rfl, Q⟩ := P
  show Go K _ _ _ _ [.int 8]
  refine gIstore (ls' := #[aR b, aI 0, aI 8, aR A, aI 8, aU]) C d7_12 rfl rfl ?_
  refine gIload C d7_14 rfl rfl ?_
  refine gIloadN C d7_16 rfl rfl ?_
  refine gIcmpYes (pc' := 57) C d7_17 (teq (by decide)).1 (by decide) rfl ?_
  refine gAloadN C d7_57 rfl rfl rfl ?_
  have R := I.keep O
  exact wRetA (so := []) (t := .array .byte) C d7_58 rfl rfl rfl (by decide) (by decide) (fun _ q => nomatch q) ⟨A, D, rfl, rfl, (Nat.le_of_eq F.symm), Q, R⟩
theorem ob_cf8 (hw : TH a0 Z) (hE : EW Z a0 consts_1) (t : Addr) (kt : ClassId) (c0 c1 c2 c3 c4 c5 c6 c7 : Nat) (h : Heap) (hO : Ol Z h) (q0 : Arv Z h t kt .byte 8 [.int (Int32.ofNat c0), .int (Int32.ofNat c1), .int (Int32.ofNat c2), .int (Int32.ofNat c3), .int (Int32.ofNat c4), .int (Int32.ofNat c5), .int (Int32.ofNat c6), .int (Int32.ofNat c7)] (.int 0)) :
 Ct l Z consts_1 mN6 cN6 2 (some .byte) ⟨0, 0, 0, 0⟩ #[.ref t, .int 8] h [] (fun rv' hp' so' => rv' = some (.int 0) ∧ so' = []) := by
  refine Ct.mk "java/lang/StringUTF16" "coderFromArrayLen" rfl rfl (a0 := a0) (plainFor_of_name opn1) hO hE (fun x q => nomatch q) ?_
  intro K T W
  rw [oef6]
  refine gIloadN W d9_0 rfl rfl ?_
  refine gAloadN W d9_1 rfl rfl rfl ?_
  refine wLen W d9_2 q0 rfl ?_
  refine gIsub (z := 0) W d9_3 (by decide) rfl ?_
  refine gBipush (z := 31) W d9_4 rfl rfl ?_
  refine gIushr (z := 0) W d9_6 (by decide) rfl ?_
  refine gI2B (z := 0) W d9_7 (by decide) rfl ?_
  exact wRetI (so := []) (t := .byte) W d9_8 (by simp) rfl (by decide) (by decide) (fun _ q => nomatch q) ⟨rfl, rfl⟩
theorem ob_i48 (hw : TH a0 Z) (hE : EW Z a0 consts_1) (a b : Addr) (kC : ClassId) (z : Int32) (c0 c1 c2 c3 c4 c5 c6 c7 : Nat) (h : Heap) (hO : Ol Z h) (SC : (PSC Z z)) (hz : (¬ z = 0)) (q2 : Exa Z h a "java/lang/String") (q3 : Fld Z h a "java/lang/String" "value" "[B" .null) (q4 : Fld Z h a "java/lang/String" "coder" "B" (.int 0)) (q5 : Arv Z h b kC .char 8 [.int (Int32.ofNat c0), .int (Int32.ofNat c1), .int (Int32.ofNat c2), .int (Int32.ofNat c3), .int (Int32.ofNat c4), .int (Int32.ofNat c5), .int (Int32.ofNat c6), .int (Int32.ofNat c7)] (.int 0)) (hc0 : (c0 ≤ 127)) (hc1 : (c1 ≤ 127)) (hc2 : (c2 ≤ 127)) (hc3 : (c3 ≤ 127)) (hc4 : (c4 ≤ 127)) (hc5 : (c5 ≤ 127)) (hc6 : (c6 ≤ 127)) (hc7 : (c7 ≤ 127)) (ge_a : Z.heap.size ≤ a) :
 Ct l Z consts_1 mN7 cN7 6 none ⟨2, 1, 8, 45⟩ #[.ref a, .ref b, .int 0, .int 8, .null] h [a] (fun rv' hp' so' => ∃ t : Addr, ∃ kt : ClassId, rv' = none ∧ so' = [] ∧ (h.size ≤ t) ∧ Exa Z hp' a "java/lang/String" ∧ Fld Z hp' a "java/lang/String" "coder" "B" (.int 0) ∧ Fld Z hp' a "java/lang/String" "value" "[B" (.ref t) ∧ Arv Z hp' t kt .byte 8 [.int (Int32.ofNat c0), .int (Int32.ofNat c1), .int (Int32.ofNat c2), .int (Int32.ofNat c3), .int (Int32.ofNat c4), .int (Int32.ofNat c5), .int (Int32.ofNat c6), .int (Int32.ofNat c7)] (.int 0) ∧ Exa Z hp' t "[B") := by
  refine Ct.mk "java/lang/String" "<init>" rfl rfl (a0 := a0) (plainFor_of_name opn2) hO hE (fun x q => by simp at q; subst q; exact ge_a) ?_
  intro K T W
  rw [oef7]
  refine gAloadN W d5_0 rfl rfl rfl ?_
  refine wInitO W d5_1 (ow23 hw) (ow24 hw) (ow25 hw) rfl (by decide) 0 (Nat.le_of_eq rfl) (by decide) rfl fun _ G => ?_
  refine gIloadN G d5_4 rfl rfl ?_
  refine gIfYes (pc' := 27) G d5_5 ((if0 _ _).trans (feq (by decide)).2) (by decide) rfl ?_
  refine wGetS G d5_27 (ow26 hw) Via.refl SC rfl fun _ A => ?_
  refine gIfNo A d5_30 ((if0 _ _).trans (feq hz).1) rfl ?_
  refine gAloadN A d5_33 rfl rfl rfl ?_
  refine gIloadN A d5_34 rfl rfl ?_
  refine gIloadN A d5_35 rfl rfl ?_
  refine wStatic (y := mN5) (Wd := 0) (argsL := [.ref b, .int 0, .int 8]) (rest := []) A d5_36 (ow27 hw) (ow28 hw) (ow29 hw) (ow30 hw) (by decide) (Cb.ct (ob_c38 hw hE b kC c0 c1 c2 c3 c4 c5 c6 c7 h A.old q5 hc0 hc1 hc2 hc3 hc4 hc5 hc6 hc7) (ow30 hw) (ow29 hw) hE (by decide) (by decide)) (by simp) rfl (lenOf opd2 rfl) rfl (Nat.le_of_eq rfl) (by decide) (by decide) rfl fun _ _ _ S B H _ U => ?_
  obtain ⟨C, J, rfl, rfl, L, M, V⟩ := U
  show Go K _ _ _ _ [.ref C]
  refine gAstore (ls' := #[aR a, aR b, aI 0, aI 8, .val .null, aR C]) B d5_39 rfl rfl rfl ?_
  refine gAloadN B d5_41 rfl rfl rfl ?_
  refine gAload B d5_42 rfl rfl rfl ?_
  refine gIloadN B d5_44 rfl rfl ?_
  refine wStatic (y := mN6) (Wd := 1) (argsL := [.ref C, .int 8]) (rest := [.ref a]) B d5_45 (ow34 hw) (ow35 hw) (ow29 hw) (ow36 hw) (by decide) (Cb.ct (ob_cf8 hw hE C J c0 c1 c2 c3 c4 c5 c6 c7 S B.old M) (ow36 hw) (ow29 hw) hE (by decide) (by decide)) (by simp) rfl (lenOf opd3 rfl) rfl (Nat.le_of_eq rfl) (by decide) (by decide) rfl fun _ _ _ _ X D _ Y => ?_
  obtain ⟨rfl, rfl⟩ := Y
  show Go K _ _ _ _ [.int 0, .ref a]
  have Aa := q4.keep H nin0
  have N := Aa.keep D nin0
  have Ab := q2.keep H
  have O := Ab.keep D
  refine wPutF (ty := .byte) X d5_48 (ow37 hw) Via.refl (by simp) N O (Or.inr ⟨(ow38 hw), rfl, rfl⟩) (ow14 hw) (by decide) rfl (by decide) rfl fun _ _ I E => ?_
  have Ac := Fld.same E N
  refine gAloadN I d5_51 rfl rfl rfl ?_
  refine gAload I d5_52 rfl rfl rfl ?_
  have Ad := q3.keep H nin0
  have Ae := Ad.keep D nin0
  have P := Ae.other E (Or.inr (slot_ne (t := .array .byte) (t' := .byte) (Or.inr (ow40 hw)) (Or.inr (ow38 hw)) (by decide) (by decide) (by decide)))
  have Q := O.wr E
  refine wPutF (ty := .array .byte) I d5_54 (ow39 hw) Via.refl (by simp) P Q (Or.inr ⟨(ow40 hw), rfl, rfl⟩) (ow14 hw) (by decide) rfl rfl rfl fun _ _ Af F => ?_
  have Ag := Fld.same F P
  have Ah := Q.wr F
  have Ai := Ac.other F (Or.inr (slot_ne (t := .byte) (t' := .array .byte) (Or.inr (ow38 hw)) (Or.inr (ow40 hw)) (by decide) (by decide) (by decide)))
  have Aj := M.keep D nin0
  have R : a ≠ C := Nat.ne_of_lt (Nat.lt_of_lt_of_le q2.lt L)
  have Ak := Aj.other E (Ne.symm R)
  have Al := Ak.other F (Ne.symm R)
  have Am := V.keep D
  have An := Am.wr E
  have Ao := An.wr F
  exact wRet0 (so := []) Af d5_57 (by decide) (by decide) (fun _ q => nomatch q) ⟨C, J, rfl, rfl, L, Ah, Ai, Ag, Al, Ao⟩
theorem ob_i18 (hw : TH a0 Z) (hE : EW Z a0 consts_1) (a b : Addr) (kC : ClassId) (z : Int32) (c0 c1 c2 c3 c4 c5 c6 c7 : Nat) (h : Heap) (hO : Ol Z h) (SC : (PSC Z z)) (hz : (¬ z = 0)) (q2 : Exa Z h a "java/lang/String") (q3 : Fld Z h a "java/lang/String" "value" "[B" .null) (q4 : Fld Z h a "java/lang/String" "coder" "B" (.int 0)) (q5 : Arv Z h b kC .char 8 [.int (Int32.ofNat c0), .int (Int32.ofNat c1), .int (Int32.ofNat c2), .int (Int32.ofNat c3), .int (Int32.ofNat c4), .int (Int32.ofNat c5), .int (Int32.ofNat c6), .int (Int32.ofNat c7)] (.int 0)) (hc0 : (c0 ≤ 127)) (hc1 : (c1 ≤ 127)) (hc2 : (c2 ≤ 127)) (hc3 : (c3 ≤ 127)) (hc4 : (c4 ≤ 127)) (hc5 : (c5 ≤ 127)) (hc6 : (c6 ≤ 127)) (hc7 : (c7 ≤ 127)) (ge_a : Z.heap.size ≤ a) :
 Ct l Z consts_1 mN9 cN9 2 none ⟨3, 1, 8, 65⟩ #[.ref a, .ref b] h [a] (fun rv' hp' so' => ∃ t : Addr, ∃ kt : ClassId, rv' = none ∧ so' = [] ∧ (h.size ≤ t) ∧ Exa Z hp' a "java/lang/String" ∧ Fld Z hp' a "java/lang/String" "coder" "B" (.int 0) ∧ Fld Z hp' a "java/lang/String" "value" "[B" (.ref t) ∧ Arv Z hp' t kt .byte 8 [.int (Int32.ofNat c0), .int (Int32.ofNat c1), .int (Int32.ofNat c2), .int (Int32.ofNat c3), .int (Int32.ofNat c4), .int (Int32.ofNat c5), .int (Int32.ofNat c6), .int (Int32.ofNat c7)] (.int 0) ∧ Exa Z hp' t "[B") := by
  refine Ct.mk "java/lang/String" "<init>" rfl rfl (a0 := a0) (plainFor_of_name opn2) hO hE (fun x q => by simp at q; subst q; exact ge_a) ?_
  intro K T W
  rw [oef8]
  refine gAloadN W d4_0 rfl rfl rfl ?_
  refine gAloadN W d4_1 rfl rfl rfl ?_
  refine gIconst (z := 0) W d4_2 rfl rfl ?_
  refine gAloadN W d4_3 rfl rfl rfl ?_
  refine wLen W d4_4 q5 rfl ?_
  refine gAconstNull W d4_5 rfl ?_
  refine wSpecial (y := mN7) (Wd := 0) (a := a) (argsL := [.ref b, .int 0, .int 8, .null]) (rest := []) W d4_6 rfl (ow19 hw) (ow20 hw) (ow22 hw) (by decide) (Cb.ct (ob_i48 hw hE a b kC z c0 c1 c2 c3 c4 c5 c6 c7 h W.old SC hz q2 q3 q4 q5 hc0 hc1 hc2 hc3 hc4 hc5 hc6 hc7 ge_a) (ow22 hw) (ow15 hw) hE (by decide) (by decide)) (by simp) rfl (lenOf opd4 rfl) rfl (Nat.le_of_eq rfl) (by decide) (by decide) rfl fun _ _ _ _ A _ _ B => ?_
  obtain ⟨C, D, rfl, rfl, E, F, G, H, I, J⟩ := B
  show Go K _ _ _ _ []
  exact wRet0 (so := []) A d4_9 (by decide) (by decide) (fun _ q => nomatch q) ⟨C, D, rfl, rfl, E, F, G, H, I, J⟩
abbrev mN10 : MethodName := (⟨"java/lang/String", "coder", "()B"⟩ : MethodName)
abbrev cN10 := jdk_42_method_152_code
theorem d14_0 : Dc cN10 0 (.getstatic 38) 3 := by decide +kernel
theorem d14_3 : Dc cN10 3 (.ifCond .eq 10) 3 := by decide +kernel
theorem d14_6 : Dc cN10 6 (.aload_n 0) 1 := by decide +kernel
theorem d14_7 : Dc cN10 7 (.getfield 15) 3 := by decide +kernel
theorem d14_10 : Dc cN10 10 (.goto 4) 3 := by decide +kernel
theorem d14_14 : Dc cN10 14 (.ireturn) 1 := by decide +kernel
theorem oef9 (m_ : MethodId) (y0_ : Addr) : (entryFrame m_ #[.ref y0_] 1).locals = #[aR y0_] := by first | (simp [entryFrame, argsToLocals, Value.category]; done) | rfl
theorem ob_co (hw : TH a0 Z) (hE : EW Z a0 consts_1) (s : Addr) (z : Int32) (h : Heap) (hO : Ol Z h) (SC : (PSC Z z)) (hz : (¬ z = 0)) (q2 : Fld Z h s "java/lang/String" "coder" "B" (.int 0)) :
 Ct l Z consts_1 mN10 cN10 1 (some .byte) ⟨0, 0, 0, 0⟩ #[.ref s] h [] (fun rv' hp' so' => rv' = some (.int 0) ∧ so' = []) := by
  refine Ct.mk "java/lang/String" "coder" rfl rfl (a0 := a0) (plainFor_of_name opn2) hO hE (fun x q => nomatch q) ?_
  intro K T W
  rw [oef9]
  refine wGetS W d14_0 (ow26 hw) Via.refl SC rfl fun _ A => ?_
  refine gIfNo A d14_3 ((if0 _ _).trans (feq hz).1) rfl ?_
  refine gAloadN A d14_6 rfl rfl rfl ?_
  refine wGetF A d14_7 (ow37 hw) Via.refl q2 rfl fun _ B => ?_
  refine gGoto (pc' := 14) B d14_10 (by decide) rfl ?_
  exact wRetI (so := []) (t := .byte) B d14_14 (by simp) rfl (by decide) (by decide) (fun _ q => nomatch q) ⟨rfl, rfl⟩
abbrev mN11 : MethodName := (⟨"java/lang/String", "length", "()I"⟩ : MethodName)
abbrev cN11 := jdk_42_method_54_code
theorem d22_0 : Dc cN11 0 (.aload_n 0) 1 := by decide +kernel
theorem d22_1 : Dc cN11 1 (.getfield 9) 3 := by decide +kernel
theorem d22_4 : Dc cN11 4 (.arraylength) 1 := by decide +kernel
theorem d22_5 : Dc cN11 5 (.aload_n 0) 1 := by decide +kernel
theorem d22_6 : Dc cN11 6 (.invokevirtual 335) 3 := by decide +kernel
theorem ow75 (hw : TH a0 Z) : Bf a0 Z (.code mN10 cN10 1 (some .byte)) := mo 75 rfl hw
theorem opd5 : parseMethodDescriptor "()B" = some ⟨[], some (.byte)⟩ := by decide +kernel
theorem ow71 (hw : TH a0 Z) : Bf a0 Z (.methodLink "java/lang/String" 335 mN10) := mo 71 rfl hw
theorem ow72 (hw : TH a0 Z) : Bf a0 Z (.declares mN10) := mo 72 rfl hw
theorem ow74 (hw : TH a0 Z) : Bf a0 Z (.selects "java/lang/String" mN10 mN10) := mo 74 rfl hw
theorem ow73 (hw : TH a0 Z) : Bf a0 Z (.instanceMethod mN10) := mo 73 rfl hw
theorem d22_9 : Dc cN11 9 (.ishr) 1 := by decide +kernel
theorem d22_10 : Dc cN11 10 (.ireturn) 1 := by decide +kernel
theorem ob_ln0 (hw : TH a0 Z) (hE : EW Z a0 consts_1) (s u : Addr) (ku : ClassId) (us : List Value) (z : Int32) (h : Heap) (hO : Ol Z h) (SC : (PSC Z z)) (hz : (¬ z = 0)) (q2 : Exa Z h s "java/lang/String") (q3 : Fld Z h s "java/lang/String" "value" "[B" (.ref u)) (q4 : Fld Z h s "java/lang/String" "coder" "B" (.int 0)) (q5 : Arv Z h u ku .byte 0 us (.int 0)) :
 Ct l Z consts_1 mN11 cN11 1 (some .int) ⟨1, 0, 0, 14⟩ #[.ref s] h [] (fun rv' hp' so' => rv' = some (.int 0) ∧ so' = []) := by
  refine Ct.mk "java/lang/String" "length" rfl rfl (a0 := a0) (plainFor_of_name opn2) hO hE (fun x q => nomatch q) ?_
  intro K T W
  rw [oef9]
  refine gAloadN W d22_0 rfl rfl rfl ?_
  refine wGetF W d22_1 (ow39 hw) Via.refl q3 rfl fun _ A => ?_
  refine wLen A d22_4 q5 rfl ?_
  refine gAloadN A d22_5 rfl rfl rfl ?_
  refine wVirtual (y := mN10) (z := mN10) (Wd := 1) (a := s) (argsL := []) (rest := [.int 0]) A d22_6 (ow71 hw) (ow72 hw) (ow74 hw) (ow73 hw) (nfS (ow74 hw)) (by decide) (Cb.ct (ob_co hw hE s z h A.old SC hz q4) (ow75 hw) (ow15 hw) hE (by decide) (by decide)) q2 (by simp) rfl (lenOf opd5 rfl) rfl (Nat.le_of_eq rfl) (by decide) (by decide) rfl fun _ _ _ _ B _ _ C => ?_
  obtain ⟨rfl, rfl⟩ := C
  show Go K _ _ _ _ [.int 0, .int 0]
  refine gIshr (z := 0) B d22_9 (by decide) rfl ?_
  exact wRetI (so := []) (t := .int) B d22_10 (by simp) rfl (by decide) (by decide) (fun _ q => nomatch q) ⟨rfl, rfl⟩
theorem ob_ln1 (hw : TH a0 Z) (hE : EW Z a0 consts_1) (s u : Addr) (ku : ClassId) (us : List Value) (z : Int32) (h : Heap) (hO : Ol Z h) (SC : (PSC Z z)) (hz : (¬ z = 0)) (q2 : Exa Z h s "java/lang/String") (q3 : Fld Z h s "java/lang/String" "value" "[B" (.ref u)) (q4 : Fld Z h s "java/lang/String" "coder" "B" (.int 0)) (q5 : Arv Z h u ku .byte 1 us (.int 0)) :
 Ct l Z consts_1 mN11 cN11 1 (some .int) ⟨1, 0, 0, 14⟩ #[.ref s] h [] (fun rv' hp' so' => rv' = some (.int 1) ∧ so' = []) := by
  refine Ct.mk "java/lang/String" "length" rfl rfl (a0 := a0) (plainFor_of_name opn2) hO hE (fun x q => nomatch q) ?_
  intro K T W
  rw [oef9]
  refine gAloadN W d22_0 rfl rfl rfl ?_
  refine wGetF W d22_1 (ow39 hw) Via.refl q3 rfl fun _ A => ?_
  refine wLen A d22_4 q5 rfl ?_
  refine gAloadN A d22_5 rfl rfl rfl ?_
  refine wVirtual (y := mN10) (z := mN10) (Wd := 1) (a := s) (argsL := []) (rest := [.int 1]) A d22_6 (ow71 hw) (ow72 hw) (ow74 hw) (ow73 hw) (nfS (ow74 hw)) (by decide) (Cb.ct (ob_co hw hE s z h A.old SC hz q4) (ow75 hw) (ow15 hw) hE (by decide) (by decide)) q2 (by simp) rfl (lenOf opd5 rfl) rfl (Nat.le_of_eq rfl) (by decide) (by decide) rfl fun _ _ _ _ B _ _ C => ?_
  obtain ⟨rfl, rfl⟩ := C
  show Go K _ _ _ _ [.int 0, .int 1]
  refine gIshr (z := 1) B d22_9 (by decide) rfl ?_
  exact wRetI (so := []) (t := .int) B d22_10 (by simp) rfl (by decide) (by decide) (fun _ q => nomatch q) ⟨rfl, rfl⟩
theorem ob_ln2 (hw : TH a0 Z) (hE : EW Z a0 consts_1) (s u : Addr) (ku : ClassId) (us : List Value) (z : Int32) (h : Heap) (hO : Ol Z h) (SC : (PSC Z z)) (hz : (¬ z = 0)) (q2 : Exa Z h s "java/lang/String") (q3 : Fld Z h s "java/lang/String" "value" "[B" (.ref u)) (q4 : Fld Z h s "java/lang/String" "coder" "B" (.int 0)) (q5 : Arv Z h u ku .byte 2 us (.int 0)) :
 Ct l Z consts_1 mN11 cN11 1 (some .int) ⟨1, 0, 0, 14⟩ #[.ref s] h [] (fun rv' hp' so' => rv' = some (.int 2) ∧ so' = []) := by
  refine Ct.mk "java/lang/String" "length" rfl rfl (a0 := a0) (plainFor_of_name opn2) hO hE (fun x q => nomatch q) ?_
  intro K T W
  rw [oef9]
  refine gAloadN W d22_0 rfl rfl rfl ?_
  refine wGetF W d22_1 (ow39 hw) Via.refl q3 rfl fun _ A => ?_
  refine wLen A d22_4 q5 rfl ?_
  refine gAloadN A d22_5 rfl rfl rfl ?_
  refine wVirtual (y := mN10) (z := mN10) (Wd := 1) (a := s) (argsL := []) (rest := [.int 2]) A d22_6 (ow71 hw) (ow72 hw) (ow74 hw) (ow73 hw) (nfS (ow74 hw)) (by decide) (Cb.ct (ob_co hw hE s z h A.old SC hz q4) (ow75 hw) (ow15 hw) hE (by decide) (by decide)) q2 (by simp) rfl (lenOf opd5 rfl) rfl (Nat.le_of_eq rfl) (by decide) (by decide) rfl fun _ _ _ _ B _ _ C => ?_
  obtain ⟨rfl, rfl⟩ := C
  show Go K _ _ _ _ [.int 0, .int 2]
  refine gIshr (z := 2) B d22_9 (by decide) rfl ?_
  exact wRetI (so := []) (t := .int) B d22_10 (by simp) rfl (by decide) (by decide) (fun _ q => nomatch q) ⟨rfl, rfl⟩
theorem ob_ln4 (hw : TH a0 Z) (hE : EW Z a0 consts_1) (s u : Addr) (ku : ClassId) (us : List Value) (z : Int32) (h : Heap) (hO : Ol Z h) (SC : (PSC Z z)) (hz : (¬ z = 0)) (q2 : Exa Z h s "java/lang/String") (q3 : Fld Z h s "java/lang/String" "value" "[B" (.ref u)) (q4 : Fld Z h s "java/lang/String" "coder" "B" (.int 0)) (q5 : Arv Z h u ku .byte 4 us (.int 0)) :
 Ct l Z consts_1 mN11 cN11 1 (some .int) ⟨1, 0, 0, 14⟩ #[.ref s] h [] (fun rv' hp' so' => rv' = some (.int 4) ∧ so' = []) := by
  refine Ct.mk "java/lang/String" "length" rfl rfl (a0 := a0) (plainFor_of_name opn2) hO hE (fun x q => nomatch q) ?_
  intro K T W
  rw [oef9]
  refine gAloadN W d22_0 rfl rfl rfl ?_
  refine wGetF W d22_1 (ow39 hw) Via.refl q3 rfl fun _ A => ?_
  refine wLen A d22_4 q5 rfl ?_
  refine gAloadN A d22_5 rfl rfl rfl ?_
  refine wVirtual (y := mN10) (z := mN10) (Wd := 1) (a := s) (argsL := []) (rest := [.int 4]) A d22_6 (ow71 hw) (ow72 hw) (ow74 hw) (ow73 hw) (nfS (ow74 hw)) (by decide) (Cb.ct (ob_co hw hE s z h A.old SC hz q4) (ow75 hw) (ow15 hw) hE (by decide) (by decide)) q2 (by simp) rfl (lenOf opd5 rfl) rfl (Nat.le_of_eq rfl) (by decide) (by decide) rfl fun _ _ _ _ B _ _ C => ?_
  obtain ⟨rfl, rfl⟩ := C
  show Go K _ _ _ _ [.int 0, .int 4]
  refine gIshr (z := 4) B d22_9 (by decide) rfl ?_
  exact wRetI (so := []) (t := .int) B d22_10 (by simp) rfl (by decide) (by decide) (fun _ q => nomatch q) ⟨rfl, rfl⟩
theorem ob_ln8 (hw : TH a0 Z) (hE : EW Z a0 consts_1) (s u : Addr) (ku : ClassId) (us : List Value) (z : Int32) (h : Heap) (hO : Ol Z h) (SC : (PSC Z z)) (hz : (¬ z = 0)) (q2 : Exa Z h s "java/lang/String") (q3 : Fld Z h s "java/lang/String" "value" "[B" (.ref u)) (q4 : Fld Z h s "java/lang/String" "coder" "B" (.int 0)) (q5 : Arv Z h u ku .byte 8 us (.int 0)) :
 Ct l Z consts_1 mN11 cN11 1 (some .int) ⟨1, 0, 0, 14⟩ #[.ref s] h [] (fun rv' hp' so' => rv' = some (.int 8) ∧ so' = []) := by
  refine Ct.mk "java/lang/String" "length" rfl rfl (a0 := a0) (plainFor_of_name opn2) hO hE (fun x q => nomatch q) ?_
  intro K T W
  rw [oef9]
  refine gAloadN W d22_0 rfl rfl rfl ?_
  refine wGetF W d22_1 (ow39 hw) Via.refl q3 rfl fun _ A => ?_
  refine wLen A d22_4 q5 rfl ?_
  refine gAloadN A d22_5 rfl rfl rfl ?_
  refine wVirtual (y := mN10) (z := mN10) (Wd := 1) (a := s) (argsL := []) (rest := [.int 8]) A d22_6 (ow71 hw) (ow72 hw) (ow74 hw) (ow73 hw) (nfS (ow74 hw)) (by decide) (Cb.ct (ob_co hw hE s z h A.old SC hz q4) (ow75 hw) (ow15 hw) hE (by decide) (by decide)) q2 (by simp) rfl (lenOf opd5 rfl) rfl (Nat.le_of_eq rfl) (by decide) (by decide) rfl fun _ _ _ _ B _ _ C => ?_
  obtain ⟨rfl, rfl⟩ := C
  show Go K _ _ _ _ [.int 0, .int 8]
  refine gIshr (z := 8) B d22_9 (by decide) rfl ?_
  exact wRetI (so := []) (t := .int) B d22_10 (by simp) rfl (by decide) (by decide) (fun _ q => nomatch q) ⟨rfl, rfl⟩
theorem ob_ln64 (hw : TH a0 Z) (hE : EW Z a0 consts_1) (s u : Addr) (ku : ClassId) (us : List Value) (z : Int32) (h : Heap) (hO : Ol Z h) (SC : (PSC Z z)) (hz : (¬ z = 0)) (q2 : Exa Z h s "java/lang/String") (q3 : Fld Z h s "java/lang/String" "value" "[B" (.ref u)) (q4 : Fld Z h s "java/lang/String" "coder" "B" (.int 0)) (q5 : Arv Z h u ku .byte 64 us (.int 0)) :
 Ct l Z consts_1 mN11 cN11 1 (some .int) ⟨1, 0, 0, 14⟩ #[.ref s] h [] (fun rv' hp' so' => rv' = some (.int 64) ∧ so' = []) := by
  refine Ct.mk "java/lang/String" "length" rfl rfl (a0 := a0) (plainFor_of_name opn2) hO hE (fun x q => nomatch q) ?_
  intro K T W
  rw [oef9]
  refine gAloadN W d22_0 rfl rfl rfl ?_
  refine wGetF W d22_1 (ow39 hw) Via.refl q3 rfl fun _ A => ?_
  refine wLen A d22_4 q5 rfl ?_
  refine gAloadN A d22_5 rfl rfl rfl ?_
  refine wVirtual (y := mN10) (z := mN10) (Wd := 1) (a := s) (argsL := []) (rest := [.int 64]) A d22_6 (ow71 hw) (ow72 hw) (ow74 hw) (ow73 hw) (nfS (ow74 hw)) (by decide) (Cb.ct (ob_co hw hE s z h A.old SC hz q4) (ow75 hw) (ow15 hw) hE (by decide) (by decide)) q2 (by simp) rfl (lenOf opd5 rfl) rfl (Nat.le_of_eq rfl) (by decide) (by decide) rfl fun _ _ _ _ B _ _ C => ?_
  obtain ⟨rfl, rfl⟩ := C
  show Go K _ _ _ _ [.int 0, .int 64]
  refine gIshr (z := 64) B d22_9 (by decide) rfl ?_
  exact wRetI (so := []) (t := .int) B d22_10 (by simp) rfl (by decide) (by decide) (fun _ q => nomatch q) ⟨rfl, rfl⟩
abbrev mN12 : MethodName := (⟨"java/lang/String", "encode8859_1", "(B[BZ)[B"⟩ : MethodName)
abbrev cN12 := jdk_42_method_27_code
theorem d17_0 : Dc cN12 0 (.iload_n 0) 1 := by decide +kernel
theorem d17_1 : Dc cN12 1 (.ifCond .ne 11) 3 := by decide +kernel
theorem d17_4 : Dc cN12 4 (.aload_n 1) 1 := by decide +kernel
theorem d17_5 : Dc cN12 5 (.invokevirtual 279) 3 := by decide +kernel
abbrev mN13 : MethodName := (⟨"[B", "clone", "()Ljava/lang/Object;"⟩ : MethodName)
theorem ow88 (hw : TH a0 Z) : Bf a0 Z (.methodLink "java/lang/String" 279 mN13) := mo 88 rfl hw
theorem ow89 (hw : TH a0 Z) : Bf a0 Z (.sameMethod "[B" "java/lang/Object" "clone" "()Ljava/lang/Object;") := mo 89 rfl hw
abbrev mN14 : MethodName := (⟨"java/lang/Object", "clone", "()Ljava/lang/Object;"⟩ : MethodName)
theorem ow93 (hw : TH a0 Z) : Bf a0 Z (.native mN14) := mo 93 rfl hw
theorem ow91 (hw : TH a0 Z) : Bf a0 Z (.instanceMethod mN14) := mo 91 rfl hw
theorem ow92 (hw : TH a0 Z) : Bf a0 Z (.selects "[B" mN13 mN14) := mo 92 rfl hw
theorem ow94 (hw : TH a0 Z) : Bf a0 Z (.castable "[B" "java/lang/Cloneable") := mo 94 rfl hw
theorem d17_8 : Dc cN12 8 (.checkcast 280) 3 := by decide +kernel
theorem ow95 (hw : TH a0 Z) : Bf a0 Z (.classLink "java/lang/String" 280 "[B") := mo 95 rfl hw
theorem d17_11 : Dc cN12 11 (.areturn) 1 := by decide +kernel
theorem oef10 (m_ : MethodId) (y0_ : Int32) (y1_ : Addr) (y2_ : Int32) : (entryFrame m_ #[.int y0_, .ref y1_, .int y2_] 10).locals = #[aI y0_, aR y1_, aI y2_, aU, aU, aU, aU, aU, aU, aU] := by first | (simp [entryFrame, argsToLocals, Value.category]; done) | rfl
theorem ob_e3 (hw : TH a0 Z) (hE : EW Z a0 consts_1) (u : Addr) (ku : ClassId) (N : Int32) (us : List Value) (h : Heap) (hO : Ol Z h) (q0 : Arv Z h u ku .byte N us (.int 0)) (q1 : Exa Z h u "[B") (hN : (N.toNatClampNeg ≤ 8)) :
 Ct l Z consts_1 mN12 cN12 10 (some (.array .byte)) ⟨1, 1, 8, 20⟩ #[.int 0, .ref u, .int 1] h [] (fun rv' hp' so' => ∃ r : Addr, rv' = some (.ref r) ∧ so' = [] ∧ (h.size ≤ r) ∧ Arv Z hp' r ku .byte N us (.int 0)) := by
  refine Ct.mk "java/lang/String" "encode8859_1" rfl rfl (a0 := a0) (plainFor_of_name opn2) hO hE (fun x q => nomatch q) ?_
  intro K T W
  rw [oef10]
  refine gIloadN W d17_0 rfl rfl ?_
  refine gIfNo W d17_1 ((if0 _ _).trans (teq (by decide)).2) rfl ?_
  refine gAloadN W d17_4 rfl rfl rfl ?_
  refine wClone W d17_5 (ow88 hw) (ow89 hw) (ow93 hw) (ow91 hw) (ow92 hw) (ow94 hw) q0 q1 rfl (by decide) 0 (Nat.le_of_eq rfl) (by decide) 8 hN (by decide) (by decide) rfl fun _ _ A B _ C D E => ?_
  refine wCast B d17_8 (ow95 hw) (Ins.self E) rfl fun _ F => ?_
  exact wRetA (so := []) (t := .array .byte) F d17_11 rfl rfl rfl (by decide) (by decide) (fun _ q => nomatch q) ⟨A, rfl, rfl, (Nat.le_of_eq C.symm), D⟩
abbrev mN15 : MethodName := (⟨"java/lang/String", "encode8859_1", "(B[B)[B"⟩ : MethodName)
abbrev cN13 := jdk_42_method_26_code
theorem d16_0 : Dc cN13 0 (.iload_n 0) 1 := by decide +kernel
theorem d16_1 : Dc cN13 1 (.aload_n 1) 1 := by decide +kernel
theorem d16_2 : Dc cN13 2 (.iconst 1) 1 := by decide +kernel
theorem d16_3 : Dc cN13 3 (.invokestatic 351) 3 := by decide +kernel
theorem ow85 (hw : TH a0 Z) : Bf a0 Z (.methodLink "java/lang/String" 351 mN12) := mo 85 rfl hw
theorem ow87 (hw : TH a0 Z) : Bf a0 Z (.code mN12 cN12 10 (some (.array .byte))) := mo 87 rfl hw
theorem opd6 : parseMethodDescriptor "(B[BZ)[B" = some ⟨[.byte, .array .byte, .boolean], some (.array .byte)⟩ := by decide +kernel
theorem ow86 (hw : TH a0 Z) : Bf a0 Z (.static mN12) := mo 86 rfl hw
theorem d16_6 : Dc cN13 6 (.areturn) 1 := by decide +kernel
theorem oef11 (m_ : MethodId) (y0_ : Int32) (y1_ : Addr) : (entryFrame m_ #[.int y0_, .ref y1_] 2).locals = #[aI y0_, aR y1_] := by first | (simp [entryFrame, argsToLocals, Value.category]; done) | rfl
theorem ob_e2 (hw : TH a0 Z) (hE : EW Z a0 consts_1) (u : Addr) (ku : ClassId) (N : Int32) (us : List Value) (h : Heap) (hO : Ol Z h) (q0 : Arv Z h u ku .byte N us (.int 0)) (q1 : Exa Z h u "[B") (hN : (N.toNatClampNeg ≤ 8)) :
 Ct l Z consts_1 mN15 cN13 2 (some (.array .byte)) ⟨2, 1, 8, 42⟩ #[.int 0, .ref u] h [] (fun rv' hp' so' => ∃ r : Addr, rv' = some (.ref r) ∧ so' = [] ∧ (h.size ≤ r) ∧ Arv Z hp' r ku .byte N us (.int 0)) := by
  refine Ct.mk "java/lang/String" "encode8859_1" rfl rfl (a0 := a0) (plainFor_of_name opn2) hO hE (fun x q => nomatch q) ?_
  intro K T W
  rw [oef11]
  refine gIloadN W d16_0 rfl rfl ?_
  refine gAloadN W d16_1 rfl rfl rfl ?_
  refine gIconst (z := 1) W d16_2 rfl rfl ?_
  refine wStatic (y := mN12) (Wd := 0) (argsL := [.int 0, .ref u, .int 1]) (rest := []) W d16_3 (ow85 hw) (ow86 hw) (ow15 hw) (ow87 hw) (by decide) (Cb.ct (ob_e3 hw hE u ku N us h W.old q0 q1 hN) (ow87 hw) (ow15 hw) hE (by decide) (by decide)) (by simp) rfl (lenOf opd6 rfl) rfl (Nat.le_of_eq rfl) (by decide) (by decide) rfl fun _ _ _ _ B _ _ C => ?_
  obtain ⟨A, rfl, rfl, D, E⟩ := C
  show Go K _ _ _ _ [.ref A]
  exact wRetA (so := []) (t := .array .byte) B d16_6 rfl rfl rfl (by decide) (by decide) (fun _ q => nomatch q) ⟨A, rfl, rfl, D, E⟩
abbrev mN16 : MethodName := (⟨"java/lang/String", "encode", "(Ljava/nio/charset/Charset;B[B)[B"⟩ : MethodName)
abbrev cN14 := jdk_42_method_18_code
theorem d15_0 : Dc cN14 0 (.aload_n 0) 1 := by decide +kernel
theorem d15_1 : Dc cN14 1 (.getstatic 86) 3 := by decide +kernel
theorem ow79 (hw : TH a0 Z) : Bf a0 Z (.fieldLink "java/lang/String" 86 "sun/nio/cs/UTF_8" "INSTANCE" "Lsun/nio/cs/UTF_8;") := mo 79 rfl hw
theorem d15_4 : Dc cN14 4 (.if_acmp .ne 10) 3 := by decide +kernel
theorem d15_14 : Dc cN14 14 (.aload_n 0) 1 := by decide +kernel
theorem d15_15 : Dc cN14 15 (.getstatic 116) 3 := by decide +kernel
theorem ow81 (hw : TH a0 Z) : Bf a0 Z (.fieldLink "java/lang/String" 116 "sun/nio/cs/ISO_8859_1" "INSTANCE" "Lsun/nio/cs/ISO_8859_1;") := mo 81 rfl hw
theorem d15_18 : Dc cN14 18 (.if_acmp .ne 9) 3 := by decide +kernel
theorem d15_21 : Dc cN14 21 (.iload_n 1) 1 := by decide +kernel
theorem d15_22 : Dc cN14 22 (.aload_n 2) 1 := by decide +kernel
theorem d15_23 : Dc cN14 23 (.invokestatic 256) 3 := by decide +kernel
theorem ow82 (hw : TH a0 Z) : Bf a0 Z (.methodLink "java/lang/String" 256 mN15) := mo 82 rfl hw
theorem ow84 (hw : TH a0 Z) : Bf a0 Z (.code mN15 cN13 2 (some (.array .byte))) := mo 84 rfl hw
theorem opd7 : parseMethodDescriptor "(B[B)[B" = some ⟨[.byte, .array .byte], some (.array .byte)⟩ := by decide +kernel
theorem ow83 (hw : TH a0 Z) : Bf a0 Z (.static mN15) := mo 83 rfl hw
theorem d15_26 : Dc cN14 26 (.areturn) 1 := by decide +kernel
theorem oef12 (m_ : MethodId) (y0_ : Addr) (y1_ : Int32) (y2_ : Addr) : (entryFrame m_ #[.ref y0_, .int y1_, .ref y2_] 3).locals = #[aR y0_, aI y1_, aR y2_] := by first | (simp [entryFrame, argsToLocals, Value.category]; done) | rfl
theorem ob_en (hw : TH a0 Z) (hE : EW Z a0 consts_1) (iso u8 u : Addr) (ku : ClassId) (N : Int32) (us : List Value) (h : Heap) (hO : Ol Z h) (SI : (PSI Z iso)) (SU : (PSU Z u8)) (niu : (iso ≠ u8)) (q3 : Arv Z h u ku .byte N us (.int 0)) (q4 : Exa Z h u "[B") (hN : (N.toNatClampNeg ≤ 8)) :
 Ct l Z consts_1 mN16 cN14 3 (some (.array .byte)) ⟨3, 1, 8, 58⟩ #[.ref iso, .int 0, .ref u] h [] (fun rv' hp' so' => ∃ r : Addr, rv' = some (.ref r) ∧ so' = [] ∧ (h.size ≤ r) ∧ Arv Z hp' r ku .byte N us (.int 0)) := by
  refine Ct.mk "java/lang/String" "encode" rfl rfl (a0 := a0) (plainFor_of_name opn2) hO hE (fun x q => nomatch q) ?_
  intro K T W
  rw [oef12]
  refine gAloadN W d15_0 rfl rfl rfl ?_
  refine wGetS W d15_1 (ow79 hw) Via.refl SU rfl fun _ B => ?_
  refine gAcmp (pc' := 14) (same := false) B d15_4 rfl rfl (decide_eq_false (fun q => niu (Value.ref.inj q))) (by decide) rfl ?_
  refine gAloadN B d15_14 rfl rfl rfl ?_
  refine wGetS B d15_15 (ow81 hw) Via.refl SI rfl fun _ A => ?_
  refine gAcmp (pc' := 21) (same := true) A d15_18 rfl rfl (decide_eq_true rfl) (by decide) rfl ?_
  refine gIloadN A d15_21 rfl rfl ?_
  refine gAloadN A d15_22 rfl rfl rfl ?_
  refine wStatic (y := mN15) (Wd := 0) (argsL := [.int 0, .ref u]) (rest := []) A d15_23 (ow82 hw) (ow83 hw) (ow15 hw) (ow84 hw) (by decide) (Cb.ct (ob_e2 hw hE u ku N us h A.old q3 q4 hN) (ow84 hw) (ow15 hw) hE (by decide) (by decide)) (by simp) rfl (lenOf opd7 rfl) rfl (Nat.le_of_eq rfl) (by decide) (by decide) rfl fun _ _ _ _ D _ _ E => ?_
  obtain ⟨C, rfl, rfl, F, G⟩ := E
  show Go K _ _ _ _ [.ref C]
  exact wRetA (so := []) (t := .array .byte) D d15_26 rfl rfl rfl (by decide) (by decide) (fun _ q => nomatch q) ⟨C, rfl, rfl, F, G⟩
abbrev mN17 : MethodName := (⟨"java/lang/String", "getBytes", "(Ljava/nio/charset/Charset;)[B"⟩ : MethodName)
abbrev cN15 := jdk_42_method_64_code
theorem d13_0 : Dc cN15 0 (.aload_n 1) 1 := by decide +kernel
theorem d13_1 : Dc cN15 1 (.ifnonnull 11) 3 := by decide +kernel
theorem d13_12 : Dc cN15 12 (.aload_n 1) 1 := by decide +kernel
theorem d13_13 : Dc cN15 13 (.aload_n 0) 1 := by decide +kernel
theorem d13_14 : Dc cN15 14 (.invokevirtual 335) 3 := by decide +kernel
theorem d13_17 : Dc cN15 17 (.aload_n 0) 1 := by decide +kernel
theorem d13_18 : Dc cN15 18 (.getfield 9) 3 := by decide +kernel
theorem d13_21 : Dc cN15 21 (.invokestatic 535) 3 := by decide +kernel
theorem ow76 (hw : TH a0 Z) : Bf a0 Z (.methodLink "java/lang/String" 535 mN16) := mo 76 rfl hw
theorem ow78 (hw : TH a0 Z) : Bf a0 Z (.code mN16 cN14 3 (some (.array .byte))) := mo 78 rfl hw
theorem opd8 : parseMethodDescriptor "(Ljava/nio/charset/Charset;B[B)[B" = some ⟨[.object "java/nio/charset/Charset", .byte, .array .byte], some (.array .byte)⟩ := by decide +kernel
theorem ow77 (hw : TH a0 Z) : Bf a0 Z (.static mN16) := mo 77 rfl hw
theorem d13_24 : Dc cN15 24 (.areturn) 1 := by decide +kernel
theorem ob_gb (hw : TH a0 Z) (hE : EW Z a0 consts_1) (s : Addr) (z : Int32) (iso u8 u : Addr) (ku : ClassId) (N : Int32) (us : List Value) (h : Heap) (hO : Ol Z h) (SC : (PSC Z z)) (hz : (¬ z = 0)) (SI : (PSI Z iso)) (SU : (PSU Z u8)) (niu : (iso ≠ u8)) (q5 : Exa Z h s "java/lang/String") (q6 : Fld Z h s "java/lang/String" "value" "[B" (.ref u)) (q7 : Fld Z h s "java/lang/String" "coder" "B" (.int 0)) (q8 : Arv Z h u ku .byte N us (.int 0)) (q9 : Exa Z h u "[B") (hN : (N.toNatClampNeg ≤ 8)) :
 Ct l Z consts_1 mN17 cN15 2 (some (.array .byte)) ⟨4, 1, 8, 76⟩ #[.ref s, .ref iso] h [] (fun rv' hp' so' => ∃ r : Addr, rv' = some (.ref r) ∧ so' = [] ∧ (h.size ≤ r) ∧ Arv Z hp' r ku .byte N us (.int 0)) := by
  refine Ct.mk "java/lang/String" "getBytes" rfl rfl (a0 := a0) (plainFor_of_name opn2) hO hE (fun x q => nomatch q) ?_
  intro K T W
  rw [oef8]
  refine gAloadN W d13_0 rfl rfl rfl ?_
  refine gIfnonnullYes (pc' := 12) W d13_1 (by decide) rfl ?_
  refine gAloadN W d13_12 rfl rfl rfl ?_
  refine gAloadN W d13_13 rfl rfl rfl ?_
  refine wVirtual (y := mN10) (z := mN10) (Wd := 1) (a := s) (argsL := []) (rest := [.ref iso]) W d13_14 (ow71 hw) (ow72 hw) (ow74 hw) (ow73 hw) (nfS (ow74 hw)) (by decide) (Cb.ct (ob_co hw hE s z h W.old SC hz q7) (ow75 hw) (ow15 hw) hE (by decide) (by decide)) q5 (by simp) rfl (lenOf opd5 rfl) rfl (Nat.le_of_eq rfl) (by decide) (by decide) rfl fun _ _ _ E A B _ F => ?_
  obtain ⟨rfl, rfl⟩ := F
  show Go K _ _ _ _ [.int 0, .ref iso]
  refine gAloadN A d13_17 rfl rfl rfl ?_
  have G := q6.keep B nin0
  refine wGetF A d13_18 (ow39 hw) Via.refl G rfl fun _ C => ?_
  have H := q8.keep B nin0
  have I := q9.keep B
  refine wStatic (y := mN16) (Wd := 0) (argsL := [.ref iso, .int 0, .ref u]) (rest := []) C d13_21 (ow76 hw) (ow77 hw) (ow15 hw) (ow78 hw) (by decide) (Cb.ct (ob_en hw hE iso u8 u ku N us E C.old SI SU niu H I hN) (ow78 hw) (ow15 hw) hE (by decide) (by decide)) (by simp) rfl (lenOf opd8 rfl) rfl (Nat.le_of_eq rfl) (by decide) (by decide) rfl fun _ _ _ _ J _ _ L => ?_
  obtain ⟨D, rfl, rfl, M, O⟩ := L
  show Go K _ _ _ _ [.ref D]
  exact wRetA (so := []) (t := .array .byte) J d13_24 rfl rfl rfl (by decide) (by decide) (fun _ q => nomatch q) ⟨D, rfl, rfl, (Nat.le_trans A.grow M), O⟩
-- CUT
abbrev mN18 : MethodName := (⟨"java/util/Base64$Decoder", "decodedOutLength", "([BII)I"⟩ : MethodName)
abbrev cN16 := jdk_2450_method_7_code
theorem opn3 : plainName "java/util/Base64$Decoder" = true := by first | (simp [plainName, overriddenIn]; done) | decide +kernel
theorem d19_0 : Dc cN16 0 (.aload_n 0) 1 := by decide +kernel
theorem d19_1 : Dc cN16 1 (.getfield 7) 3 := by decide +kernel
theorem ow107 (hw : TH a0 Z) : Bf a0 Z (.fieldLink "java/util/Base64$Decoder" 7 "java/util/Base64$Decoder" "isURL" "Z") := mo 107 rfl hw
theorem d19_4 : Dc cN16 4 (.ifCond .eq 9) 3 := by decide +kernel
theorem d19_13 : Dc cN16 13 (.getstatic 99) 3 := by decide +kernel
theorem ow109 (hw : TH a0 Z) : Bf a0 Z (.fieldLink "java/util/Base64$Decoder" 99 "java/util/Base64$Decoder" "fromBase64" "[I") := mo 109 rfl hw
theorem d19_16 : Dc cN16 16 (.astore 4) 2 := by decide +kernel
theorem d19_18 : Dc cN16 18 (.iconst 0) 1 := by decide +kernel
theorem d19_19 : Dc cN16 19 (.istore 5) 2 := by decide +kernel
theorem d19_21 : Dc cN16 21 (.iload_n 3) 1 := by decide +kernel
theorem d19_22 : Dc cN16 22 (.iload_n 2) 1 := by decide +kernel
theorem d19_23 : Dc cN16 23 (.isub) 1 := by decide +kernel
theorem d19_24 : Dc cN16 24 (.istore 6) 2 := by decide +kernel
theorem d19_26 : Dc cN16 26 (.iload 6) 2 := by decide +kernel
theorem d19_28 : Dc cN16 28 (.ifCond .ne 5) 3 := by decide +kernel
theorem d19_31 : Dc cN16 31 (.iconst 0) 1 := by decide +kernel
theorem d19_32 : Dc cN16 32 (.ireturn) 1 := by decide +kernel
theorem oef13 (m_ : MethodId) (y0_ : Addr) (y1_ : Addr) (y2_ : Int32) (y3_ : Int32) : (entryFrame m_ #[.ref y0_, .ref y1_, .int y2_, .int y3_] 9).locals = #[aR y0_, aR y1_, aI y2_, aI y3_, aU, aU, aU, aU, aU] := by first | (simp [entryFrame, argsToLocals, Value.category]; done) | rfl
theorem ob_ol0 (hw : TH a0 Z) (hE : EW Z a0 consts_1) (dd sr : Addr) (ks : ClassId) (tb : Addr) (ktb : ClassId) (h : Heap) (hO : Ol Z h) (q0 : Exa Z h dd "java/util/Base64$Decoder") (q1 : Fld Z h dd "java/util/Base64$Decoder" "isURL" "Z" (.int 0)) (q2 : Fld Z h dd "java/util/Base64$Decoder" "isMIME" "Z" (.int 0)) (TS : (PTS Z tb)) (TA : (PTA Z tb ktb)) (q5 : Arv Z h sr ks .byte 0 [] (.int 0)) :
 Ct l Z consts_1 mN18 cN16 9 (some .int) ⟨0, 0, 0, 0⟩ #[.ref dd, .ref sr, .int 0, .int 0] h [] (fun rv' hp' so' => rv' = some (.int 0) ∧ so' = []) := by
  refine Ct.mk "java/util/Base64$Decoder" "decodedOutLength" rfl rfl (a0 := a0) (plainFor_of_name opn3) hO hE (fun x q => nomatch q) ?_
  intro K T W
  rw [oef13]
  refine gAloadN W d19_0 rfl rfl rfl ?_
  refine wGetF W d19_1 (ow107 hw) Via.refl q1 rfl fun _ B => ?_
  refine gIfYes (pc' := 13) B d19_4 ((if0 _ _).trans (teq (by decide)).1) (by decide) rfl ?_
  refine wGetS B d19_13 (ow109 hw) Via.refl TS rfl fun _ A => ?_
  refine gAstore (ls' := #[aR dd, aR sr, aI 0, aI 0, aR tb, aU, aU, aU, aU]) A d19_16 rfl rfl rfl ?_
  refine gIconst (z := 0) A d19_18 rfl rfl ?_
  refine gIstore (ls' := #[aR dd, aR sr, aI 0, aI 0, aR tb, aI 0, aU, aU, aU]) A d19_19 rfl rfl ?_
  refine gIloadN A d19_21 rfl rfl ?_
  refine gIloadN A d19_22 rfl rfl ?_
  refine gIsub (z := 0) A d19_23 (by decide) rfl ?_
  refine gIstore (ls' := #[aR dd, aR sr, aI 0, aI 0, aR tb, aI 0, aI 0, aU, aU]) A d19_24 rfl rfl ?_
  refine gIload A d19_26 rfl rfl ?_
  refine gIfNo A d19_28 ((if0 _ _).trans (teq (by decide)).2) rfl ?_
  refine gIconst (z := 0) A d19_31 rfl rfl ?_
  exact wRetI (so := []) (t := .int) A d19_32 (by simp) rfl (by decide) (by decide) (fun _ q => nomatch q) ⟨rfl, rfl⟩
abbrev mN19 : MethodName := (⟨"java/util/Base64$Decoder", "decode0", "([BII[B)I"⟩ : MethodName)
abbrev cN17 := jdk_2450_method_9_code
theorem d20_0 : Dc cN17 0 (.aload_n 0) 1 := by decide +kernel
theorem d20_1 : Dc cN17 1 (.getfield 7) 3 := by decide +kernel
theorem d20_4 : Dc cN17 4 (.ifCond .eq 9) 3 := by decide +kernel
theorem d20_13 : Dc cN17 13 (.getstatic 99) 3 := by decide +kernel
theorem d20_16 : Dc cN17 16 (.astore 5) 2 := by decide +kernel
theorem d20_18 : Dc cN17 18 (.iconst 0) 1 := by decide +kernel
theorem d20_19 : Dc cN17 19 (.istore 6) 2 := by decide +kernel
theorem d20_21 : Dc cN17 21 (.iconst 0) 1 := by decide +kernel
theorem d20_22 : Dc cN17 22 (.istore 7) 2 := by decide +kernel
theorem d20_24 : Dc cN17 24 (.bipush 18) 2 := by decide +kernel
theorem d20_26 : Dc cN17 26 (.istore 8) 2 := by decide +kernel
theorem d20_28 : Dc cN17 28 (.iload_n 2) 1 := by decide +kernel
theorem d20_29 : Dc cN17 29 (.iload_n 3) 1 := by decide +kernel
theorem d20_30 : Dc cN17 30 (.if_icmp .ge 251) 3 := by decide +kernel
theorem d20_281 : Dc cN17 281 (.iload 8) 2 := by decide +kernel
theorem d20_283 : Dc cN17 283 (.bipush 6) 2 := by decide +kernel
theorem d20_285 : Dc cN17 285 (.if_icmp .ne 20) 3 := by decide +kernel
theorem d20_305 : Dc cN17 305 (.iload 8) 2 := by decide +kernel
theorem d20_307 : Dc cN17 307 (.ifCond .ne 34) 3 := by decide +kernel
theorem d20_341 : Dc cN17 341 (.iload 8) 2 := by decide +kernel
theorem d20_343 : Dc cN17 343 (.bipush 12) 2 := by decide +kernel
theorem d20_345 : Dc cN17 345 (.if_icmp .ne 13) 3 := by decide +kernel
theorem d20_358 : Dc cN17 358 (.iload_n 2) 1 := by decide +kernel
theorem d20_359 : Dc cN17 359 (.iload_n 3) 1 := by decide +kernel
theorem d20_360 : Dc cN17 360 (.if_icmp .ge 56) 3 := by decide +kernel
theorem d20_416 : Dc cN17 416 (.iload 6) 2 := by decide +kernel
theorem d20_418 : Dc cN17 418 (.ireturn) 1 := by decide +kernel
theorem oef14 (m_ : MethodId) (y0_ : Addr) (y1_ : Addr) (y2_ : Int32) (y3_ : Int32) (y4_ : Addr) : (entryFrame m_ #[.ref y0_, .ref y1_, .int y2_, .int y3_, .ref y4_] 11).locals = #[aR y0_, aR y1_, aI y2_, aI y3_, aR y4_, aU, aU, aU, aU, aU, aU] := by first | (simp [entryFrame, argsToLocals, Value.category]; done) | rfl
theorem ob_d00 (hw : TH a0 Z) (hE : EW Z a0 consts_1) (dd sr : Addr) (ks : ClassId) (ds : Addr) (kds : ClassId) (tb : Addr) (ktb : ClassId) (h : Heap) (hO : Ol Z h) (q0 : Exa Z h dd "java/util/Base64$Decoder") (q1 : Fld Z h dd "java/util/Base64$Decoder" "isURL" "Z" (.int 0)) (q2 : Fld Z h dd "java/util/Base64$Decoder" "isMIME" "Z" (.int 0)) (TS : (PTS Z tb)) (TA : (PTA Z tb ktb)) (q5 : Arv Z h sr ks .byte 0 [] (.int 0)) (q6 : Arv Z h ds kds .byte 0 [] (.int 0)) (nsd : (sr ≠ ds)) (ntd : (tb ≠ ds)) (ge_ds : Z.heap.size ≤ ds) :
 Ct l Z consts_1 mN19 cN17 11 (some .int) ⟨1, 0, 0, 40⟩ #[.ref dd, .ref sr, .int 0, .int 0, .ref ds] h [ds] (fun rv' hp' so' => rv' = some (.int 0) ∧ so' = [] ∧ Arv Z hp' ds kds .byte 0 [] (.int 0)) := by
  refine Ct.mk "java/util/Base64$Decoder" "decode0" rfl rfl (a0 := a0) (plainFor_of_name opn3) hO hE (fun x q => by simp at q; subst q; exact ge_ds) ?_
  intro K T W
  rw [oef14]
  refine gAloadN W d20_0 rfl rfl rfl ?_
  refine wGetF W d20_1 (ow107 hw) Via.refl q1 rfl fun _ B => ?_
  refine gIfYes (pc' := 13) B d20_4 ((if0 _ _).trans (teq (by decide)).1) (by decide) rfl ?_
  refine wGetS B d20_13 (ow109 hw) Via.refl TS rfl fun _ A => ?_
  refine gAstore (ls' := #[aR dd, aR sr, aI 0, aI 0, aR ds, aR tb, aU, aU, aU, aU, aU]) A d20_16 rfl rfl rfl ?_
  refine gIconst (z := 0) A d20_18 rfl rfl ?_
  refine gIstore (ls' := #[aR dd, aR sr, aI 0, aI 0, aR ds, aR tb, aI 0, aU, aU, aU, aU]) A d20_19 rfl rfl ?_
  refine gIconst (z := 0) A d20_21 rfl rfl ?_
  refine gIstore (ls' := #[aR dd, aR sr, aI 0, aI 0, aR ds, aR tb, aI 0, aI 0, aU, aU, aU]) A d20_22 rfl rfl ?_
  refine gBipush (z := 18) A d20_24 rfl rfl ?_
  refine gIstore (ls' := #[aR dd, aR sr, aI 0, aI 0, aR ds, aR tb, aI 0, aI 0, aI 18, aU, aU]) A d20_26 rfl rfl ?_
  refine gIloadN A d20_28 rfl rfl ?_
  refine gIloadN A d20_29 rfl rfl ?_
  refine gIcmpYes (pc' := 281) A d20_30 (flt (by decide)).2.1 (by decide) rfl ?_
  refine gIload A d20_281 rfl rfl ?_
  refine gBipush (z := 6) A d20_283 rfl rfl ?_
  refine gIcmpYes (pc' := 305) A d20_285 (feq (by decide)).2 (by decide) rfl ?_
  refine gIload A d20_305 rfl rfl ?_
  refine gIfYes (pc' := 341) A d20_307 ((if0 _ _).trans (feq (by decide)).2) (by decide) rfl ?_
  refine gIload A d20_341 rfl rfl ?_
  refine gBipush (z := 12) A d20_343 rfl rfl ?_
  refine gIcmpYes (pc' := 358) A d20_345 (feq (by decide)).2 (by decide) rfl ?_
  refine gIloadN A d20_358 rfl rfl ?_
  refine gIloadN A d20_359 rfl rfl ?_
  refine gIcmpYes (pc' := 416) A d20_360 (flt (by decide)).2.1 (by decide) rfl ?_
  refine gIload A d20_416 rfl rfl ?_
  exact wRetI (so := []) (t := .int) A d20_418 (by simp) rfl (by decide) (by decide) (fun _ q => nomatch q) ⟨rfl, rfl, q6⟩
abbrev mN20 : MethodName := (⟨"java/util/Base64$Decoder", "decode", "([B)[B"⟩ : MethodName)
abbrev cN18 := jdk_2450_method_2_code
theorem d18_0 : Dc cN18 0 (.aload_n 0) 1 := by decide +kernel
theorem d18_1 : Dc cN18 1 (.aload_n 1) 1 := by decide +kernel
theorem d18_2 : Dc cN18 2 (.iconst 0) 1 := by decide +kernel
theorem d18_3 : Dc cN18 3 (.aload_n 1) 1 := by decide +kernel
theorem d18_4 : Dc cN18 4 (.arraylength) 1 := by decide +kernel
theorem d18_5 : Dc cN18 5 (.invokevirtual 16) 3 := by decide +kernel
theorem ow58 (hw : TH a0 Z) : Bf a0 Z (.initialized "java/util/Base64$Decoder") := mo 58 rfl hw
theorem ow106 (hw : TH a0 Z) : Bf a0 Z (.code mN18 cN16 9 (some .int)) := mo 106 rfl hw
theorem opd9 : parseMethodDescriptor "([BII)I" = some ⟨[.array .byte, .int, .int], some (.int)⟩ := by decide +kernel
theorem ow102 (hw : TH a0 Z) : Bf a0 Z (.methodLink "java/util/Base64$Decoder" 16 mN18) := mo 102 rfl hw
theorem ow103 (hw : TH a0 Z) : Bf a0 Z (.instanceMethod mN18) := mo 103 rfl hw
theorem ow105 (hw : TH a0 Z) : Bf a0 Z (.selects "java/util/Base64$Decoder" mN18 mN18) := mo 105 rfl hw
theorem ow104 (hw : TH a0 Z) : Bf a0 Z (.privateMethod mN18) := mo 104 rfl hw
theorem d18_8 : Dc cN18 8 (.newarray .byte) 2 := by decide +kernel
theorem d18_10 : Dc cN18 10 (.astore_n 2) 1 := by decide +kernel
theorem d18_11 : Dc cN18 11 (.aload_n 0) 1 := by decide +kernel
theorem d18_12 : Dc cN18 12 (.aload_n 1) 1 := by decide +kernel
theorem d18_13 : Dc cN18 13 (.iconst 0) 1 := by decide +kernel
theorem d18_14 : Dc cN18 14 (.aload_n 1) 1 := by decide +kernel
theorem d18_15 : Dc cN18 15 (.arraylength) 1 := by decide +kernel
theorem d18_16 : Dc cN18 16 (.aload_n 2) 1 := by decide +kernel
theorem d18_17 : Dc cN18 17 (.invokevirtual 20) 3 := by decide +kernel
theorem ow118 (hw : TH a0 Z) : Bf a0 Z (.code mN19 cN17 11 (some .int)) := mo 118 rfl hw
theorem opd10 : parseMethodDescriptor "([BII[B)I" = some ⟨[.array .byte, .int, .int, .array .byte], some (.int)⟩ := by decide +kernel
theorem ow114 (hw : TH a0 Z) : Bf a0 Z (.methodLink "java/util/Base64$Decoder" 20 mN19) := mo 114 rfl hw
theorem ow115 (hw : TH a0 Z) : Bf a0 Z (.instanceMethod mN19) := mo 115 rfl hw
theorem ow117 (hw : TH a0 Z) : Bf a0 Z (.selects "java/util/Base64$Decoder" mN19 mN19) := mo 117 rfl hw
theorem ow116 (hw : TH a0 Z) : Bf a0 Z (.privateMethod mN19) := mo 116 rfl hw
theorem d18_20 : Dc cN18 20 (.istore_n 3) 1 := by decide +kernel
theorem d18_21 : Dc cN18 21 (.iload_n 3) 1 := by decide +kernel
theorem d18_22 : Dc cN18 22 (.aload_n 2) 1 := by decide +kernel
theorem d18_23 : Dc cN18 23 (.arraylength) 1 := by decide +kernel
theorem d18_24 : Dc cN18 24 (.if_icmp .eq 9) 3 := by decide +kernel
theorem d18_33 : Dc cN18 33 (.aload_n 2) 1 := by decide +kernel
theorem d18_34 : Dc cN18 34 (.areturn) 1 := by decide +kernel
theorem oef15 (m_ : MethodId) (y0_ : Addr) (y1_ : Addr) : (entryFrame m_ #[.ref y0_, .ref y1_] 4).locals = #[aR y0_, aR y1_, aU, aU] := by first | (simp [entryFrame, argsToLocals, Value.category]; done) | rfl
theorem ob_dec0 (hw : TH a0 Z) (hE : EW Z a0 consts_1) (dd sr : Addr) (ks : ClassId) (tb : Addr) (ktb : ClassId) (h : Heap) (hO : Ol Z h) (q0 : Exa Z h dd "java/util/Base64$Decoder") (q1 : Fld Z h dd "java/util/Base64$Decoder" "isURL" "Z" (.int 0)) (q2 : Fld Z h dd "java/util/Base64$Decoder" "isMIME" "Z" (.int 0)) (TS : (PTS Z tb)) (TA : (PTA Z tb ktb)) (q5 : Arv Z h sr ks .byte 0 [] (.int 0)) :
 Ct l Z consts_1 mN20 cN18 4 (some (.array .byte)) ⟨2, 1, 6, 70⟩ #[.ref dd, .ref sr] h [] (fun rv' hp' so' => ∃ r : Addr, ∃ kr : ClassId, rv' = some (.ref r) ∧ so' = [] ∧ (h.size ≤ r) ∧ Arv Z hp' r kr .byte 0 [] (.int 0)) := by
  refine Ct.mk "java/util/Base64$Decoder" "decode" rfl rfl (a0 := a0) (plainFor_of_name opn3) hO hE (fun x q => nomatch q) ?_
  intro K T W
  rw [oef15]
  refine gAloadN W d18_0 rfl rfl rfl ?_
  refine gAloadN W d18_1 rfl rfl rfl ?_
  refine gIconst (z := 0) W d18_2 rfl rfl ?_
  refine gAloadN W d18_3 rfl rfl rfl ?_
  refine wLen W d18_4 q5 rfl ?_
  refine wPrivate (y := mN18) (Wd := 0) (a := dd) (argsL := [.ref sr, .int 0, .int 0]) (rest := []) W d18_5 (ow102 hw) (ow103 hw) (ow105 hw) (ow104 hw) (ow106 hw) (by decide) (Cb.ct (ob_ol0 hw hE dd sr ks tb ktb h W.old q0 q1 q2 TS TA q5) (ow106 hw) (ow58 hw) hE (by decide) (by decide)) q0 (by simp) rfl (lenOf opd9 rfl) rfl (Nat.le_of_eq rfl) (by decide) (by decide) rfl fun _ _ _ _ D E _ O => ?_
  obtain ⟨rfl, rfl⟩ := O
  show Go K _ _ _ _ [.int 0]
  refine wNewP (cap := 0) D d18_8 (ow1 hw) (by decide) (by decide) (by decide) (by decide) (by decide) rfl fun _ I B H A F G P => ?_
  have Q : Arv Z I B H .byte 0 [] (.int 0) := P 0
  refine gAstoreN (ls' := #[aR dd, aR sr, aR B, aU]) A d18_10 rfl rfl rfl ?_
  refine gAloadN A d18_11 rfl rfl rfl ?_
  refine gAloadN A d18_12 rfl rfl rfl ?_
  refine gIconst (z := 0) A d18_13 rfl rfl ?_
  refine gAloadN A d18_14 rfl rfl rfl ?_
  have J := q5.keep E nin0
  have L := J.ext F
  refine wLen A d18_15 L rfl ?_
  refine gAloadN A d18_16 rfl rfl rfl ?_
  have R : sr ≠ B := Nat.ne_of_lt (Nat.lt_of_lt_of_le J.lt (Nat.le_of_eq G.symm))
  have S := q0.keep E
  have M := S.ext F
  have U := q1.keep E nin0
  have V := U.ext F
  have X := q2.keep E nin0
  have Y := X.ext F
  refine wPrivate (y := mN19) (Wd := 0) (a := dd) (argsL := [.ref sr, .int 0, .int 0, .ref B]) (rest := []) A d18_17 (ow114 hw) (ow115 hw) (ow117 hw) (ow116 hw) (ow118 hw) (by decide) (Cb.ct (ob_d00 hw hE dd sr ks B H tb ktb I A.old M V Y TS TA L Q R (Nat.ne_of_lt (Nat.lt_of_lt_of_le TA.lt (Nat.le_trans D.old.2.1 (Nat.le_of_eq G.symm)))) (Nat.le_trans D.old.2.1 (Nat.le_of_eq G.symm))) (ow118 hw) (ow58 hw) hE (by decide) (by decide)) M (by simp) rfl (lenOf opd10 rfl) rfl (Nat.le_of_eq rfl) (by decide) (by decide) rfl fun _ _ _ _ C _ _ Aa => ?_
  obtain ⟨rfl, rfl, N⟩ := Aa
  show Go K _ _ _ _ [.int 0]
  refine gIstoreN (ls' := #[aR dd, aR sr, aR B, aI 0]) C d18_20 rfl rfl ?_
  refine gIloadN C d18_21 rfl rfl ?_
  refine gAloadN C d18_22 rfl rfl rfl ?_
  refine wLen C d18_23 N rfl ?_
  refine gIcmpYes (pc' := 33) C d18_24 (teq (by decide)).1 (by decide) rfl ?_
  refine gAloadN C d18_33 rfl rfl rfl ?_
  exact wRetA (so := []) (t := .array .byte) C d18_34 rfl rfl rfl (by decide) (by decide) (fun _ q => nomatch q) ⟨B, H, rfl, rfl, (Nat.le_trans D.grow (Nat.le_of_eq G.symm)), N⟩
abbrev mN21 : MethodName := (⟨"java/util/Base64$Decoder", "decode", "(Ljava/lang/String;)[B"⟩ : MethodName)
abbrev cN19 := jdk_2450_method_3_code
theorem d12_0 : Dc cN19 0 (.aload_n 0) 1 := by decide +kernel
theorem d12_1 : Dc cN19 1 (.aload_n 1) 1 := by decide +kernel
theorem d12_2 : Dc cN19 2 (.getstatic 30) 3 := by decide +kernel
theorem ow64 (hw : TH a0 Z) : Bf a0 Z (.fieldLink "java/util/Base64$Decoder" 30 "sun/nio/cs/ISO_8859_1" "INSTANCE" "Lsun/nio/cs/ISO_8859_1;") := mo 64 rfl hw
theorem d12_5 : Dc cN19 5 (.invokevirtual 36) 3 := by decide +kernel
theorem ow70 (hw : TH a0 Z) : Bf a0 Z (.code mN17 cN15 2 (some (.array .byte))) := mo 70 rfl hw
theorem opd11 : parseMethodDescriptor "(Ljava/nio/charset/Charset;)[B" = some ⟨[.object "java/nio/charset/Charset"], some (.array .byte)⟩ := by decide +kernel
theorem ow66 (hw : TH a0 Z) : Bf a0 Z (.methodLink "java/util/Base64$Decoder" 36 mN17) := mo 66 rfl hw
theorem ow67 (hw : TH a0 Z) : Bf a0 Z (.declares mN17) := mo 67 rfl hw
theorem ow69 (hw : TH a0 Z) : Bf a0 Z (.selects "java/lang/String" mN17 mN17) := mo 69 rfl hw
theorem ow68 (hw : TH a0 Z) : Bf a0 Z (.instanceMethod mN17) := mo 68 rfl hw
theorem d12_8 : Dc cN19 8 (.invokevirtual 42) 3 := by decide +kernel
theorem ow101 (hw : TH a0 Z) : Bf a0 Z (.code mN20 cN18 4 (some (.array .byte))) := mo 101 rfl hw
theorem opd12 : parseMethodDescriptor "([B)[B" = some ⟨[.array .byte], some (.array .byte)⟩ := by decide +kernel
theorem ow97 (hw : TH a0 Z) : Bf a0 Z (.methodLink "java/util/Base64$Decoder" 42 mN20) := mo 97 rfl hw
theorem ow98 (hw : TH a0 Z) : Bf a0 Z (.declares mN20) := mo 98 rfl hw
theorem ow100 (hw : TH a0 Z) : Bf a0 Z (.selects "java/util/Base64$Decoder" mN20 mN20) := mo 100 rfl hw
theorem ow99 (hw : TH a0 Z) : Bf a0 Z (.instanceMethod mN20) := mo 99 rfl hw
theorem d12_11 : Dc cN19 11 (.areturn) 1 := by decide +kernel
theorem ob_dcS0 (hw : TH a0 Z) (hE : EW Z a0 consts_1) (dd s u : Addr) (ku : ClassId) (z : Int32) (iso u8 tb : Addr) (ktb : ClassId) (h : Heap) (hO : Ol Z h) (SC : (PSC Z z)) (hz : (¬ z = 0)) (SI : (PSI Z iso)) (SU : (PSU Z u8)) (niu : (iso ≠ u8)) (q5 : Exa Z h dd "java/util/Base64$Decoder") (q6 : Fld Z h dd "java/util/Base64$Decoder" "isURL" "Z" (.int 0)) (q7 : Fld Z h dd "java/util/Base64$Decoder" "isMIME" "Z" (.int 0)) (TS : (PTS Z tb)) (TA : (PTA Z tb ktb)) (q10 : Exa Z h s "java/lang/String") (q11 : Fld Z h s "java/lang/String" "value" "[B" (.ref u)) (q12 : Fld Z h s "java/lang/String" "coder" "B" (.int 0)) (q13 : Arv Z h u ku .byte 0 [] (.int 0)) (q14 : Exa Z h u "[B") :
 Ct l Z consts_1 mN21 cN19 2 (some (.array .byte)) ⟨5, 2, 14, 95⟩ #[.ref dd, .ref s] h [] (fun rv' hp' so' => ∃ r : Addr, ∃ kr : ClassId, rv' = some (.ref r) ∧ so' = [] ∧ (h.size ≤ r) ∧ Arv Z hp' r kr .byte 0 [] (.int 0)) := by
  refine Ct.mk "java/util/Base64$Decoder" "decode" rfl rfl (a0 := a0) (plainFor_of_name opn3) hO hE (fun x q => nomatch q) ?_
  intro K T W
  rw [oef8]
  refine gAloadN W d12_0 rfl rfl rfl ?_
  refine gAloadN W d12_1 rfl rfl rfl ?_
  refine wGetS W d12_2 (ow64 hw) Via.refl SI rfl fun _ D => ?_
  refine wVirtual (y := mN17) (z := mN17) (Wd := 1) (a := s) (argsL := [.ref iso]) (rest := [.ref dd]) D d12_5 (ow66 hw) (ow67 hw) (ow69 hw) (ow68 hw) (nfS (ow69 hw)) (by decide) (Cb.ct (ob_gb hw hE s z iso u8 u ku 0 [] h D.old SC hz SI SU niu q10 q11 q12 q13 q14 (by decide)) (ow70 hw) (ow15 hw) hE (by decide) (by decide)) q10 (by simp) rfl (lenOf opd11 rfl) rfl (Nat.le_of_eq rfl) (by decide) (by decide) rfl fun _ _ _ E B C _ H => ?_
  obtain ⟨A, rfl, rfl, _, I⟩ := H
  show Go K _ _ _ _ [.ref A, .ref dd]
  have J : Arv Z E A ku .byte 0 [] (.int 0) := I
  have F := q5.keep C
  have L := q6.keep C nin0
  have M := q7.keep C nin0
  refine wVirtual (y := mN20) (z := mN20) (Wd := 0) (a := dd) (argsL := [.ref A]) (rest := []) B d12_8 (ow97 hw) (ow98 hw) (ow100 hw) (ow99 hw) (nfS (ow100 hw)) (by decide) (Cb.ct (ob_dec0 hw hE dd A ku tb ktb E B.old F L M TS TA J) (ow101 hw) (ow58 hw) hE (by decide) (by decide)) F (by simp) rfl (lenOf opd12 rfl) rfl (Nat.le_of_eq rfl) (by decide) (by decide) rfl fun _ _ _ _ N _ _ O => ?_
  obtain ⟨G, P, rfl, rfl, Q, R⟩ := O
  show Go K _ _ _ _ [.ref G]
  exact wRetA (so := []) (t := .array .byte) N d12_11 rfl rfl rfl (by decide) (by decide) (fun _ q => nomatch q) ⟨G, P, rfl, rfl, (Nat.le_trans B.grow Q), R⟩
theorem d19_33 : Dc cN16 33 (.iload 6) 2 := by decide +kernel
theorem d19_35 : Dc cN16 35 (.iconst 2) 1 := by decide +kernel
theorem d19_36 : Dc cN16 36 (.if_icmp .ge 30) 3 := by decide +kernel
theorem d19_66 : Dc cN16 66 (.aload_n 0) 1 := by decide +kernel
theorem d19_67 : Dc cN16 67 (.getfield 13) 3 := by decide +kernel
theorem ow110 (hw : TH a0 Z) : Bf a0 Z (.fieldLink "java/util/Base64$Decoder" 13 "java/util/Base64$Decoder" "isMIME" "Z") := mo 110 rfl hw
theorem d19_70 : Dc cN16 70 (.ifCond .eq 71) 3 := by decide +kernel
theorem d19_141 : Dc cN16 141 (.aload_n 1) 1 := by decide +kernel
theorem d19_142 : Dc cN16 142 (.iload_n 3) 1 := by decide +kernel
theorem d19_143 : Dc cN16 143 (.iconst 1) 1 := by decide +kernel
theorem d19_144 : Dc cN16 144 (.isub) 1 := by decide +kernel
theorem d19_145 : Dc cN16 145 (.baload) 1 := by decide +kernel
theorem d19_146 : Dc cN16 146 (.bipush 61) 2 := by decide +kernel
theorem d19_148 : Dc cN16 148 (.if_icmp .ne 19) 3 := by decide +kernel
theorem d19_151 : Dc cN16 151 (.iinc 5 1) 3 := by decide +kernel
theorem d19_154 : Dc cN16 154 (.aload_n 1) 1 := by decide +kernel
theorem d19_155 : Dc cN16 155 (.iload_n 3) 1 := by decide +kernel
theorem d19_156 : Dc cN16 156 (.iconst 2) 1 := by decide +kernel
theorem d19_157 : Dc cN16 157 (.isub) 1 := by decide +kernel
theorem d19_158 : Dc cN16 158 (.baload) 1 := by decide +kernel
theorem d19_159 : Dc cN16 159 (.bipush 61) 2 := by decide +kernel
theorem d19_161 : Dc cN16 161 (.if_icmp .ne 6) 3 := by decide +kernel
theorem d19_164 : Dc cN16 164 (.iinc 5 1) 3 := by decide +kernel
theorem d19_167 : Dc cN16 167 (.iload 5) 2 := by decide +kernel
theorem d19_169 : Dc cN16 169 (.ifCond .ne 18) 3 := by decide +kernel
theorem d19_187 : Dc cN16 187 (.iconst 3) 1 := by decide +kernel
theorem d19_188 : Dc cN16 188 (.iload 6) 2 := by decide +kernel
theorem d19_190 : Dc cN16 190 (.i2l) 1 := by decide +kernel
theorem d19_191 : Dc cN16 191 (.ldc2_w 107) 3 := by decide +kernel
theorem ow112 (hw : TH a0 Z) : Bf a0 Z (.constantLong "java/util/Base64$Decoder" 107 (3 : Int64)) := mo 112 rfl hw
theorem d19_194 : Dc cN16 194 (.ladd) 1 := by decide +kernel
theorem d19_195 : Dc cN16 195 (.ldc2_w 109) 3 := by decide +kernel
theorem ow113 (hw : TH a0 Z) : Bf a0 Z (.constantLong "java/util/Base64$Decoder" 109 (4 : Int64)) := mo 113 rfl hw
theorem d19_198 : Dc cN16 198 (.ldiv) 1 := by decide +kernel
theorem d19_199 : Dc cN16 199 (.l2i) 1 := by decide +kernel
theorem d19_200 : Dc cN16 200 (.imul) 1 := by decide +kernel
theorem d19_201 : Dc cN16 201 (.iload 5) 2 := by decide +kernel
theorem d19_203 : Dc cN16 203 (.isub) 1 := by decide +kernel
theorem d19_204 : Dc cN16 204 (.ireturn) 1 := by decide +kernel
theorem ob_ol1 (hw : TH a0 Z) (hE : EW Z a0 consts_1) (dd sr : Addr) (ks : ClassId) (tb : Addr) (ktb : ClassId) (v : Nat) (h : Heap) (hO : Ol Z h) (q0 : Exa Z h dd "java/util/Base64$Decoder") (q1 : Fld Z h dd "java/util/Base64$Decoder" "isURL" "Z" (.int 0)) (q2 : Fld Z h dd "java/util/Base64$Decoder" "isMIME" "Z" (.int 0)) (TS : (PTS Z tb)) (TA : (PTA Z tb ktb)) (q5 : Arv Z h sr ks .byte 4 (tx1 v) (.int 0)) :
 Ct l Z consts_1 mN18 cN16 9 (some .int) ⟨0, 0, 0, 0⟩ #[.ref dd, .ref sr, .int 0, .int 4] h [] (fun rv' hp' so' => rv' = some (.int 1) ∧ so' = []) := by
  refine Ct.mk "java/util/Base64$Decoder" "decodedOutLength" rfl rfl (a0 := a0) (plainFor_of_name opn3) hO hE (fun x q => nomatch q) ?_
  intro K T W
  rw [oef13]
  refine gAloadN W d19_0 rfl rfl rfl ?_
  refine wGetF W d19_1 (ow107 hw) Via.refl q1 rfl fun _ C => ?_
  refine gIfYes (pc' := 13) C d19_4 ((if0 _ _).trans (teq (by decide)).1) (by decide) rfl ?_
  refine wGetS C d19_13 (ow109 hw) Via.refl TS rfl fun _ B => ?_
  refine gAstore (ls' := #[aR dd, aR sr, aI 0, aI 4, aR tb, aU, aU, aU, aU]) B d19_16 rfl rfl rfl ?_
  refine gIconst (z := 0) B d19_18 rfl rfl ?_
  refine gIstore (ls' := #[aR dd, aR sr, aI 0, aI 4, aR tb, aI 0, aU, aU, aU]) B d19_19 rfl rfl ?_
  refine gIloadN B d19_21 rfl rfl ?_
  refine gIloadN B d19_22 rfl rfl ?_
  refine gIsub (z := 4) B d19_23 (by decide) rfl ?_
  refine gIstore (ls' := #[aR dd, aR sr, aI 0, aI 4, aR tb, aI 0, aI 4, aU, aU]) B d19_24 rfl rfl ?_
  refine gIload B d19_26 rfl rfl ?_
  refine gIfYes (pc' := 33) B d19_28 ((if0 _ _).trans (feq (by decide)).2) (by decide) rfl ?_
  refine gIload B d19_33 rfl rfl ?_
  refine gIconst (z := 2) B d19_35 rfl rfl ?_
  refine gIcmpYes (pc' := 66) B d19_36 (flt (by decide)).2.1 (by decide) rfl ?_
  refine gAloadN B d19_66 rfl rfl rfl ?_
  refine wGetF B d19_67 (ow110 hw) Via.refl q2 rfl fun _ A => ?_
  refine gIfYes (pc' := 141) A d19_70 ((if0 _ _).trans (teq (by decide)).1) (by decide) rfl ?_
  refine gAloadN A d19_141 rfl rfl rfl ?_
  refine gIloadN A d19_142 rfl rfl ?_
  refine gIconst (z := 1) A d19_143 rfl rfl ?_
  refine gIsub (z := 3) A d19_144 (by decide) rfl ?_
  refine wLdB (v := (.int 61)) A d19_145 q5 (by decide) rfl rfl ?_
  refine gBipush (z := 61) A d19_146 rfl rfl ?_
  refine gIcmpNo A d19_148 (teq (by decide)).2 rfl ?_
  refine gIinc (z := 1) (ls' := #[aR dd, aR sr, aI 0, aI 4, aR tb, aI 1, aI 4, aU, aU]) A d19_151 rfl (by decide) rfl rfl ?_
  refine gAloadN A d19_154 rfl rfl rfl ?_
  refine gIloadN A d19_155 rfl rfl ?_
  refine gIconst (z := 2) A d19_156 rfl rfl ?_
  refine gIsub (z := 2) A d19_157 (by decide) rfl ?_
  refine wLdB (v := (.int 61)) A d19_158 q5 (by decide) rfl rfl ?_
  refine gBipush (z := 61) A d19_159 rfl rfl ?_
  refine gIcmpNo A d19_161 (teq (by decide)).2 rfl ?_
  refine gIinc (z := 2) (ls' := #[aR dd, aR sr, aI 0, aI 4, aR tb, aI 2, aI 4, aU, aU]) A d19_164 rfl (by decide) rfl rfl ?_
  refine gIload A d19_167 rfl rfl ?_
  refine gIfYes (pc' := 187) A d19_169 ((if0 _ _).trans (feq (by decide)).2) (by decide) rfl ?_
  refine gIconst (z := 3) A d19_187 rfl rfl ?_
  refine gIload A d19_188 rfl rfl ?_
  refine gI2L (z := (4 : Int64)) A d19_190 (by decide) rfl ?_
  refine wLdcL (v := (3 : Int64)) A d19_191 (ow112 hw) rfl ?_
  refine gLadd (z := (7 : Int64)) A d19_194 (by decide) rfl ?_
  refine wLdcL (v := (4 : Int64)) A d19_195 (ow113 hw) rfl ?_
  refine gLdiv (z := (1 : Int64)) A d19_198 (by decide) (by decide) rfl ?_
  refine gL2I (z := 1) A d19_199 (by decide) rfl ?_
  refine gImul (z := 3) A d19_200 (by decide) rfl ?_
  refine gIload A d19_201 rfl rfl ?_
  refine gIsub (z := 1) A d19_203 (by decide) rfl ?_
  exact wRetI (so := []) (t := .int) A d19_204 (by simp) rfl (by decide) (by decide) (fun _ q => nomatch q) ⟨rfl, rfl⟩
theorem d20_33 : Dc cN17 33 (.iload 8) 2 := by decide +kernel
theorem d20_35 : Dc cN17 35 (.bipush 18) 2 := by decide +kernel
theorem d20_37 : Dc cN17 37 (.if_icmp .ne 53) 3 := by decide +kernel
theorem d20_40 : Dc cN17 40 (.iload_n 2) 1 := by decide +kernel
theorem d20_41 : Dc cN17 41 (.iload_n 3) 1 := by decide +kernel
theorem d20_42 : Dc cN17 42 (.iconst 4) 1 := by decide +kernel
theorem d20_43 : Dc cN17 43 (.isub) 1 := by decide +kernel
theorem d20_44 : Dc cN17 44 (.if_icmp .ge 46) 3 := by decide +kernel
theorem d20_90 : Dc cN17 90 (.iload_n 2) 1 := by decide +kernel
theorem d20_91 : Dc cN17 91 (.iload_n 3) 1 := by decide +kernel
theorem d20_92 : Dc cN17 92 (.if_icmp .lt 6) 3 := by decide +kernel
theorem d20_98 : Dc cN17 98 (.aload_n 1) 1 := by decide +kernel
theorem d20_99 : Dc cN17 99 (.iload_n 2) 1 := by decide +kernel
theorem d20_100 : Dc cN17 100 (.iinc 2 1) 3 := by decide +kernel
theorem d20_103 : Dc cN17 103 (.baload) 1 := by decide +kernel
theorem d20_104 : Dc cN17 104 (.sipush 255) 3 := by decide +kernel
theorem d20_107 : Dc cN17 107 (.iand) 1 := by decide +kernel
theorem d20_108 : Dc cN17 108 (.istore 9) 2 := by decide +kernel
theorem d20_110 : Dc cN17 110 (.aload 5) 2 := by decide +kernel
theorem d20_112 : Dc cN17 112 (.iload 9) 2 := by decide +kernel
theorem d20_114 : Dc cN17 114 (.iaload) 1 := by decide +kernel
theorem d20_115 : Dc cN17 115 (.dup) 1 := by decide +kernel
theorem d20_116 : Dc cN17 116 (.istore 9) 2 := by decide +kernel
theorem d20_118 : Dc cN17 118 (.ifCond .ge 96) 3 := by decide +kernel
theorem d20_214 : Dc cN17 214 (.iload 7) 2 := by decide +kernel
theorem d20_216 : Dc cN17 216 (.iload 9) 2 := by decide +kernel
theorem d20_218 : Dc cN17 218 (.iload 8) 2 := by decide +kernel
theorem d20_220 : Dc cN17 220 (.ishl) 1 := by decide +kernel
theorem d20_221 : Dc cN17 221 (.ior) 1 := by decide +kernel
theorem d20_222 : Dc cN17 222 (.istore 7) 2 := by decide +kernel
theorem d20_224 : Dc cN17 224 (.iinc 8 (-6)) 3 := by decide +kernel
theorem d20_227 : Dc cN17 227 (.iload 8) 2 := by decide +kernel
theorem d20_229 : Dc cN17 229 (.ifCond .ge 49) 3 := by decide +kernel
theorem d20_278 : Dc cN17 278 (.goto (-250)) 3 := by decide +kernel
theorem d20_121 : Dc cN17 121 (.iload 9) 2 := by decide +kernel
theorem d20_123 : Dc cN17 123 (.bipush (-2)) 2 := by decide +kernel
theorem d20_125 : Dc cN17 125 (.if_icmp .ne 43) 3 := by decide +kernel
theorem d20_128 : Dc cN17 128 (.iload 8) 2 := by decide +kernel
theorem d20_130 : Dc cN17 130 (.bipush 6) 2 := by decide +kernel
theorem d20_132 : Dc cN17 132 (.if_icmp .ne 19) 3 := by decide +kernel
theorem d20_135 : Dc cN17 135 (.iload_n 2) 1 := by decide +kernel
theorem d20_136 : Dc cN17 136 (.iload_n 3) 1 := by decide +kernel
theorem d20_137 : Dc cN17 137 (.if_icmp .eq 21) 3 := by decide +kernel
theorem d20_140 : Dc cN17 140 (.aload_n 1) 1 := by decide +kernel
theorem d20_141 : Dc cN17 141 (.iload_n 2) 1 := by decide +kernel
theorem d20_142 : Dc cN17 142 (.iinc 2 1) 3 := by decide +kernel
theorem d20_145 : Dc cN17 145 (.baload) 1 := by decide +kernel
theorem d20_146 : Dc cN17 146 (.bipush 61) 2 := by decide +kernel
theorem d20_148 : Dc cN17 148 (.if_icmp .ne 10) 3 := by decide +kernel
theorem d20_151 : Dc cN17 151 (.iload 8) 2 := by decide +kernel
theorem d20_153 : Dc cN17 153 (.bipush 18) 2 := by decide +kernel
theorem d20_155 : Dc cN17 155 (.if_icmp .ne 126) 3 := by decide +kernel
theorem d20_288 : Dc cN17 288 (.aload 4) 2 := by decide +kernel
theorem d20_290 : Dc cN17 290 (.iload 6) 2 := by decide +kernel
theorem d20_292 : Dc cN17 292 (.iinc 6 1) 3 := by decide +kernel
theorem d20_295 : Dc cN17 295 (.iload 7) 2 := by decide +kernel
theorem d20_297 : Dc cN17 297 (.bipush 16) 2 := by decide +kernel
theorem d20_299 : Dc cN17 299 (.ishr) 1 := by decide +kernel
theorem d20_300 : Dc cN17 300 (.i2b) 1 := by decide +kernel
theorem d20_301 : Dc cN17 301 (.bastore) 1 := by decide +kernel
theorem d20_302 : Dc cN17 302 (.goto 56) 3 := by decide +kernel
theorem ob_d01 (hw : TH a0 Z) (hE : EW Z a0 consts_1) (dd sr : Addr) (ks : ClassId) (ds : Addr) (kds : ClassId) (tb : Addr) (ktb : ClassId) (v : Nat) (h : Heap) (hO : Ol Z h) (q0 : Exa Z h dd "java/util/Base64$Decoder") (q1 : Fld Z h dd "java/util/Base64$Decoder" "isURL" "Z" (.int 0)) (q2 : Fld Z h dd "java/util/Base64$Decoder" "isMIME" "Z" (.int 0)) (TS : (PTS Z tb)) (TA : (PTA Z tb ktb)) (q5 : Arv Z h sr ks .byte 4 (tx1 v) (.int 0)) (q6 : Arv Z h ds kds .byte 1 [.int 0] (.int 0)) (nsd : (sr ≠ ds)) (ntd : (tb ≠ ds)) (hv : (v < 16777216)) (hzv : (v % 65536 = 0)) (ge_ds : Z.heap.size ≤ ds) :
 Ct l Z consts_1 mN19 cN17 11 (some .int) ⟨1, 0, 0, 40⟩ #[.ref dd, .ref sr, .int 0, .int 4, .ref ds] h [ds] (fun rv' hp' so' => rv' = some (.int 1) ∧ so' = [] ∧ Arv Z hp' ds kds .byte 1 [.int (sb (v / 65536))] (.int 0)) := by
  refine Ct.mk "java/util/Base64$Decoder" "decode0" rfl rfl (a0 := a0) (plainFor_of_name opn3) hO hE (fun x q => by simp at q; subst q; exact ge_ds) ?_
  intro K T W
  rw [oef14]
  refine gAloadN W d20_0 rfl rfl rfl ?_
  refine wGetF W d20_1 (ow107 hw) Via.refl q1 rfl fun _ D => ?_
  refine gIfYes (pc' := 13) D d20_4 ((if0 _ _).trans (teq (by decide)).1) (by decide) rfl ?_
  refine wGetS D d20_13 (ow109 hw) Via.refl TS rfl fun _ A => ?_
  refine gAstore (ls' := #[aR dd, aR sr, aI 0, aI 4, aR ds, aR tb, aU, aU, aU, aU, aU]) A d20_16 rfl rfl rfl ?_
  refine gIconst (z := 0) A d20_18 rfl rfl ?_
  refine gIstore (ls' := #[aR dd, aR sr, aI 0, aI 4, aR ds, aR tb, aI 0, aU, aU, aU, aU]) A d20_19 rfl rfl ?_
  refine gIconst (z := 0) A d20_21 rfl rfl ?_
  refine gIstore (ls' := #[aR dd, aR sr, aI 0, aI 4, aR ds, aR tb, aI 0, aI 0, aU, aU, aU]) A d20_22 rfl rfl ?_
  refine gBipush (z := 18) A d20_24 rfl rfl ?_
  refine gIstore (ls' := #[aR dd, aR sr, aI 0, aI 4, aR ds, aR tb, aI 0, aI 0, aI 18, aU, aU]) A d20_26 rfl rfl ?_
  refine gIloadN A d20_28 rfl rfl ?_
  refine gIloadN A d20_29 rfl rfl ?_
  refine gIcmpNo A d20_30 (tlt (by decide)).2.1 rfl ?_
  refine gIload A d20_33 rfl rfl ?_
  refine gBipush (z := 18) A d20_35 rfl rfl ?_
  refine gIcmpNo A d20_37 (teq (by decide)).2 rfl ?_
  refine gIloadN A d20_40 rfl rfl ?_
  refine gIloadN A d20_41 rfl rfl ?_
  refine gIconst (z := 4) A d20_42 rfl rfl ?_
  refine gIsub (z := 0) A d20_43 (by decide) rfl ?_
  refine gIcmpYes (pc' := 90) A d20_44 (flt (by decide)).2.1 (by decide) rfl ?_
  refine gIloadN A d20_90 rfl rfl ?_
  refine gIloadN A d20_91 rfl rfl ?_
  refine gIcmpYes (pc' := 98) A d20_92 (tlt (by decide)).1 (by decide) rfl ?_
  refine gAloadN A d20_98 rfl rfl rfl ?_
  refine gIloadN A d20_99 rfl rfl ?_
  refine gIinc (z := 1) (ls' := #[aR dd, aR sr, aI 1, aI 4, aR ds, aR tb, aI 0, aI 0, aI 18, aU, aU]) A d20_100 rfl (by decide) rfl rfl ?_
  refine wLdB (v := (.int (Int32.ofNat (symN (sx0 v))))) A d20_103 q5 (by decide) rfl rfl ?_
  refine gSipush (z := 255) A d20_104 rfl rfl ?_
  refine gIand (z := (Int32.ofNat (symN (sx0 v)))) A d20_107 (b8_of (symN_le _)).mask rfl ?_
  refine gIstore (ls' := #[aR dd, aR sr, aI 1, aI 4, aR ds, aR tb, aI 0, aI 0, aI 18, aI ((Int32.ofNat (symN (sx0 v)))), aU]) A d20_108 rfl rfl ?_
  refine gAload A d20_110 rfl rfl rfl ?_
  refine gIload A d20_112 rfl rfl ?_
  have C := TA.ext A.old.2
  refine wLdI (v := (.int (Int32.ofNat (sx0 v)))) A d20_114 C (ofNat_inb (n := 256) (Nat.lt_of_le_of_lt (symN_le _) (by decide)) (by decide)) (by rw [ofNat_clamp (Nat.lt_of_le_of_lt (symN_le _) (by decide))]; exact tab_at (sx0_lt _)) rfl ?_
  refine gDup A d20_115 rfl rfl ?_
  refine gIstore (ls' := #[aR dd, aR sr, aI 1, aI 4, aR ds, aR tb, aI 0, aI 0, aI 18, aI (Int32.ofNat (sx0 v)), aU]) A d20_116 rfl rfl ?_
  refine gIfYes (pc' := 214) A d20_118 ((if0 _ _).trans (flt (ofNat_nn (Nat.lt_trans (sx0_lt _) (by decide)))).2.1) (by decide) rfl ?_
  refine gIload A d20_214 rfl rfl ?_
  refine gIload A d20_216 rfl rfl ?_
  refine gIload A d20_218 rfl rfl ?_
  refine gIshl (z := (Int32.ofNat ((sx0 v) * 262144))) A d20_220 (shlN (k := 18) (by decide) (by decide) (by have := sx0_lt v; omega)) rfl ?_
  refine gIor (z := (Int32.ofNat ((sx0 v) * 262144))) A d20_221 (zor _) rfl ?_
  refine gIstore (ls' := #[aR dd, aR sr, aI 1, aI 4, aR ds, aR tb, aI 0, aI ((Int32.ofNat ((sx0 v) * 262144))), aI 18, aI (Int32.ofNat (sx0 v)), aU]) A d20_222 rfl rfl ?_
  refine gIinc (z := 12) (ls' := #[aR dd, aR sr, aI 1, aI 4, aR ds, aR tb, aI 0, aI ((Int32.ofNat ((sx0 v) * 262144))), aI 12, aI (Int32.ofNat (sx0 v)), aU]) A d20_224 rfl (by decide) rfl rfl ?_
  refine gIload A d20_227 rfl rfl ?_
  refine gIfYes (pc' := 278) A d20_229 ((if0 _ _).trans (flt (by decide)).2.1) (by decide) rfl ?_
  refine gGoto (pc' := 28) A d20_278 (by decide) rfl ?_
  refine gIloadN A d20_28 rfl rfl ?_
  refine gIloadN A d20_29 rfl rfl ?_
  refine gIcmpNo A d20_30 (tlt (by decide)).2.1 rfl ?_
  refine gIload A d20_33 rfl rfl ?_
  refine gBipush (z := 18) A d20_35 rfl rfl ?_
  refine gIcmpYes (pc' := 90) A d20_37 (feq (by decide)).2 (by decide) rfl ?_
  refine gIloadN A d20_90 rfl rfl ?_
  refine gIloadN A d20_91 rfl rfl ?_
  refine gIcmpYes (pc' := 98) A d20_92 (tlt (by decide)).1 (by decide) rfl ?_
  refine gAloadN A d20_98 rfl rfl rfl ?_
  refine gIloadN A d20_99 rfl rfl ?_
  refine gIinc (z := 2) (ls' := #[aR dd, aR sr, aI 2, aI 4, aR ds, aR tb, aI 0, aI ((Int32.ofNat ((sx0 v) * 262144))), aI 12, aI (Int32.ofNat (sx0 v)), aU]) A d20_100 rfl (by decide) rfl rfl ?_
  refine wLdB (v := (.int (Int32.ofNat (symN (sx1 v))))) A d20_103 q5 (by decide) rfl rfl ?_
  refine gSipush (z := 255) A d20_104 rfl rfl ?_
  refine gIand (z := (Int32.ofNat (symN (sx1 v)))) A d20_107 (b8_of (symN_le _)).mask rfl ?_
  refine gIstore (ls' := #[aR dd, aR sr, aI 2, aI 4, aR ds, aR tb, aI 0, aI ((Int32.ofNat ((sx0 v) * 262144))), aI 12, aI ((Int32.ofNat (symN (sx1 v)))), aU]) A d20_108 rfl rfl ?_
  refine gAload A d20_110 rfl rfl rfl ?_
  refine gIload A d20_112 rfl rfl ?_
  refine wLdI (v := (.int (Int32.ofNat (sx1 v)))) A d20_114 C (ofNat_inb (n := 256) (Nat.lt_of_le_of_lt (symN_le _) (by decide)) (by decide)) (by rw [ofNat_clamp (Nat.lt_of_le_of_lt (symN_le _) (by decide))]; exact tab_at (sx1_lt _)) rfl ?_
  refine gDup A d20_115 rfl rfl ?_
  refine gIstore (ls' := #[aR dd, aR sr, aI 2, aI 4, aR ds, aR tb, aI 0, aI ((Int32.ofNat ((sx0 v) * 262144))), aI 12, aI (Int32.ofNat (sx1 v)), aU]) A d20_116 rfl rfl ?_
  refine gIfYes (pc' := 214) A d20_118 ((if0 _ _).trans (flt (ofNat_nn (Nat.lt_trans (sx1_lt _) (by decide)))).2.1) (by decide) rfl ?_
  refine gIload A d20_214 rfl rfl ?_
  refine gIload A d20_216 rfl rfl ?_
  refine gIload A d20_218 rfl rfl ?_
  refine gIshl (z := (Int32.ofNat ((sx1 v) * 4096))) A d20_220 (shlN (k := 12) (by decide) (by decide) (by have := sx1_lt v; omega)) rfl ?_
  refine gIor (z := (Int32.ofNat v)) A d20_221 (or18z v hv hzv) rfl ?_
  refine gIstore (ls' := #[aR dd, aR sr, aI 2, aI 4, aR ds, aR tb, aI 0, aI (Int32.ofNat v), aI 12, aI (Int32.ofNat (sx1 v)), aU]) A d20_222 rfl rfl ?_
  refine gIinc (z := 6) (ls' := #[aR dd, aR sr, aI 2, aI 4, aR ds, aR tb, aI 0, aI (Int32.ofNat v), aI 6, aI (Int32.ofNat (sx1 v)), aU]) A d20_224 rfl (by decide) rfl rfl ?_
  refine gIload A d20_227 rfl rfl ?_
  refine gIfYes (pc' := 278) A d20_229 ((if0 _ _).trans (flt (by decide)).2.1) (by decide) rfl ?_
  refine gGoto (pc' := 28) A d20_278 (by decide) rfl ?_
  refine gIloadN A d20_28 rfl rfl ?_
  refine gIloadN A d20_29 rfl rfl ?_
  refine gIcmpNo A d20_30 (tlt (by decide)).2.1 rfl ?_
  refine gIload A d20_33 rfl rfl ?_
  refine gBipush (z := 18) A d20_35 rfl rfl ?_
  refine gIcmpYes (pc' := 90) A d20_37 (feq (by decide)).2 (by decide) rfl ?_
  refine gIloadN A d20_90 rfl rfl ?_
  refine gIloadN A d20_91 rfl rfl ?_
  refine gIcmpYes (pc' := 98) A d20_92 (tlt (by decide)).1 (by decide) rfl ?_
  refine gAloadN A d20_98 rfl rfl rfl ?_
  refine gIloadN A d20_99 rfl rfl ?_
  refine gIinc (z := 3) (ls' := #[aR dd, aR sr, aI 3, aI 4, aR ds, aR tb, aI 0, aI (Int32.ofNat v), aI 6, aI (Int32.ofNat (sx1 v)), aU]) A d20_100 rfl (by decide) rfl rfl ?_
  refine wLdB (v := (.int 61)) A d20_103 q5 (by decide) rfl rfl ?_
  refine gSipush (z := 255) A d20_104 rfl rfl ?_
  refine gIand (z := 61) A d20_107 (by decide) rfl ?_
  refine gIstore (ls' := #[aR dd, aR sr, aI 3, aI 4, aR ds, aR tb, aI 0, aI (Int32.ofNat v), aI 6, aI 61, aU]) A d20_108 rfl rfl ?_
  refine gAload A d20_110 rfl rfl rfl ?_
  refine gIload A d20_112 rfl rfl ?_
  refine wLdI (v := (.int (-2))) A d20_114 C (by decide) rfl rfl ?_
  refine gDup A d20_115 rfl rfl ?_
  refine gIstore (ls' := #[aR dd, aR sr, aI 3, aI 4, aR ds, aR tb, aI 0, aI (Int32.ofNat v), aI 6, aI (-2), aU]) A d20_116 rfl rfl ?_
  refine gIfNo A d20_118 ((if0 _ _).trans (tlt (by decide)).2.1) rfl ?_
  refine gIload A d20_121 rfl rfl ?_
  refine gBipush (z := (-2)) A d20_123 rfl rfl ?_
  refine gIcmpNo A d20_125 (teq (by decide)).2 rfl ?_
  refine gIload A d20_128 rfl rfl ?_
  refine gBipush (z := 6) A d20_130 rfl rfl ?_
  refine gIcmpNo A d20_132 (teq (by decide)).2 rfl ?_
  refine gIloadN A d20_135 rfl rfl ?_
  refine gIloadN A d20_136 rfl rfl ?_
  refine gIcmpNo A d20_137 (feq (by decide)).1 rfl ?_
  refine gAloadN A d20_140 rfl rfl rfl ?_
  refine gIloadN A d20_141 rfl rfl ?_
  refine gIinc (z := 4) (ls' := #[aR dd, aR sr, aI 4, aI 4, aR ds, aR tb, aI 0, aI (Int32.ofNat v), aI 6, aI (-2), aU]) A d20_142 rfl (by decide) rfl rfl ?_
  refine wLdB (v := (.int 61)) A d20_145 q5 (by decide) rfl rfl ?_
  refine gBipush (z := 61) A d20_146 rfl rfl ?_
  refine gIcmpNo A d20_148 (teq (by decide)).2 rfl ?_
  refine gIload A d20_151 rfl rfl ?_
  refine gBipush (z := 18) A d20_153 rfl rfl ?_
  refine gIcmpYes (pc' := 281) A d20_155 (feq (by decide)).2 (by decide) rfl ?_
  refine gIload A d20_281 rfl rfl ?_
  refine gBipush (z := 6) A d20_283 rfl rfl ?_
  refine gIcmpNo A d20_285 (teq (by decide)).2 rfl ?_
  refine gAload A d20_288 rfl rfl rfl ?_
  refine gIload A d20_290 rfl rfl ?_
  refine gIinc (z := 1) (ls' := #[aR dd, aR sr, aI 4, aI 4, aR ds, aR tb, aI 1, aI (Int32.ofNat v), aI 6, aI (-2), aU]) A d20_292 rfl (by decide) rfl rfl ?_
  refine gIload A d20_295 rfl rfl ?_
  refine gBipush (z := 16) A d20_297 rfl rfl ?_
  refine gIshr (z := (Int32.ofNat (v / 65536))) A d20_299 (shrN (k := 16) (by decide) (by decide) (by omega)) rfl ?_
  refine gI2B (z := (sb (v / 65536))) A d20_300 rfl rfl ?_
  refine wStB (y := (sb (v / 65536))) A d20_301 (by simp) q6 (by decide) (sb_idem _) 0 (by decide) (show 0 < 1 from by decide) rfl fun _ E B _ F => ?_
  have G : Arv Z E ds kds .byte 1 [.int (sb (v / 65536))] (.int 0) := F
  refine gGoto (pc' := 358) B d20_302 (by decide) rfl ?_
  refine gIloadN B d20_358 rfl rfl ?_
  refine gIloadN B d20_359 rfl rfl ?_
  refine gIcmpYes (pc' := 416) B d20_360 (flt (by decide)).2.1 (by decide) rfl ?_
  refine gIload B d20_416 rfl rfl ?_
  exact wRetI (so := []) (t := .int) B d20_418 (by simp) rfl (by decide) (by decide) (fun _ q => nomatch q) ⟨rfl, rfl, G⟩
theorem ob_dec1 (hw : TH a0 Z) (hE : EW Z a0 consts_1) (dd sr : Addr) (ks : ClassId) (tb : Addr) (ktb : ClassId) (v : Nat) (h : Heap) (hO : Ol Z h) (q0 : Exa Z h dd "java/util/Base64$Decoder") (q1 : Fld Z h dd "java/util/Base64$Decoder" "isURL" "Z" (.int 0)) (q2 : Fld Z h dd "java/util/Base64$Decoder" "isMIME" "Z" (.int 0)) (TS : (PTS Z tb)) (TA : (PTA Z tb ktb)) (q5 : Arv Z h sr ks .byte 4 (tx1 v) (.int 0)) (hv : (v < 16777216)) (hzv : (v % 65536 = 0)) :
 Ct l Z consts_1 mN20 cN18 4 (some (.array .byte)) ⟨2, 1, 6, 70⟩ #[.ref dd, .ref sr] h [] (fun rv' hp' so' => ∃ r : Addr, ∃ kr : ClassId, rv' = some (.ref r) ∧ so' = [] ∧ (h.size ≤ r) ∧ Arv Z hp' r kr .byte 1 [.int (sb (v / 65536))] (.int 0)) := by
  refine Ct.mk "java/util/Base64$Decoder" "decode" rfl rfl (a0 := a0) (plainFor_of_name opn3) hO hE (fun x q => nomatch q) ?_
  intro K T W
  rw [oef15]
  refine gAloadN W d18_0 rfl rfl rfl ?_
  refine gAloadN W d18_1 rfl rfl rfl ?_
  refine gIconst (z := 0) W d18_2 rfl rfl ?_
  refine gAloadN W d18_3 rfl rfl rfl ?_
  refine wLen W d18_4 q5 rfl ?_
  refine wPrivate (y := mN18) (Wd := 0) (a := dd) (argsL := [.ref sr, .int 0, .int 4]) (rest := []) W d18_5 (ow102 hw) (ow103 hw) (ow105 hw) (ow104 hw) (ow106 hw) (by decide) (Cb.ct (ob_ol1 hw hE dd sr ks tb ktb v h W.old q0 q1 q2 TS TA q5) (ow106 hw) (ow58 hw) hE (by decide) (by decide)) q0 (by simp) rfl (lenOf opd9 rfl) rfl (Nat.le_of_eq rfl) (by decide) (by decide) rfl fun _ _ _ _ D E _ O => ?_
  obtain ⟨rfl, rfl⟩ := O
  show Go K _ _ _ _ [.int 1]
  refine wNewP (cap := 1) D d18_8 (ow1 hw) (by decide) (by decide) (by decide) (by decide) (by decide) rfl fun _ I B H A F G P => ?_
  have Q : Arv Z I B H .byte 1 [.int 0] (.int 0) := P 1
  refine gAstoreN (ls' := #[aR dd, aR sr, aR B, aU]) A d18_10 rfl rfl rfl ?_
  refine gAloadN A d18_11 rfl rfl rfl ?_
  refine gAloadN A d18_12 rfl rfl rfl ?_
  refine gIconst (z := 0) A d18_13 rfl rfl ?_
  refine gAloadN A d18_14 rfl rfl rfl ?_
  have J := q5.keep E nin0
  have L := J.ext F
  refine wLen A d18_15 L rfl ?_
  refine gAloadN A d18_16 rfl rfl rfl ?_
  have R : sr ≠ B := Nat.ne_of_lt (Nat.lt_of_lt_of_le J.lt (Nat.le_of_eq G.symm))
  have S := q0.keep E
  have M := S.ext F
  have U := q1.keep E nin0
  have V := U.ext F
  have X := q2.keep E nin0
  have Y := X.ext F
  refine wPrivate (y := mN19) (Wd := 0) (a := dd) (argsL := [.ref sr, .int 0, .int 4, .ref B]) (rest := []) A d18_17 (ow114 hw) (ow115 hw) (ow117 hw) (ow116 hw) (ow118 hw) (by decide) (Cb.ct (ob_d01 hw hE dd sr ks B H tb ktb v I A.old M V Y TS TA L Q R (Nat.ne_of_lt (Nat.lt_of_lt_of_le TA.lt (Nat.le_trans D.old.2.1 (Nat.le_of_eq G.symm)))) hv hzv (Nat.le_trans D.old.2.1 (Nat.le_of_eq G.symm))) (ow118 hw) (ow58 hw) hE (by decide) (by decide)) M (by simp) rfl (lenOf opd10 rfl) rfl (Nat.le_of_eq rfl) (by decide) (by decide) rfl fun _ _ _ _ C _ _ Aa => ?_
  obtain ⟨rfl, rfl, N⟩ := Aa
  show Go K _ _ _ _ [.int 1]
  refine gIstoreN (ls' := #[aR dd, aR sr, aR B, aI 1]) C d18_20 rfl rfl ?_
  refine gIloadN C d18_21 rfl rfl ?_
  refine gAloadN C d18_22 rfl rfl rfl ?_
  refine wLen C d18_23 N rfl ?_
  refine gIcmpYes (pc' := 33) C d18_24 (teq (by decide)).1 (by decide) rfl ?_
  refine gAloadN C d18_33 rfl rfl rfl ?_
  exact wRetA (so := []) (t := .array .byte) C d18_34 rfl rfl rfl (by decide) (by decide) (fun _ q => nomatch q) ⟨B, H, rfl, rfl, (Nat.le_trans D.grow (Nat.le_of_eq G.symm)), N⟩
theorem ob_dcS1 (hw : TH a0 Z) (hE : EW Z a0 consts_1) (dd s u : Addr) (ku : ClassId) (z : Int32) (iso u8 tb : Addr) (ktb : ClassId) (v : Nat) (h : Heap) (hO : Ol Z h) (SC : (PSC Z z)) (hz : (¬ z = 0)) (SI : (PSI Z iso)) (SU : (PSU Z u8)) (niu : (iso ≠ u8)) (q5 : Exa Z h dd "java/util/Base64$Decoder") (q6 : Fld Z h dd "java/util/Base64$Decoder" "isURL" "Z" (.int 0)) (q7 : Fld Z h dd "java/util/Base64$Decoder" "isMIME" "Z" (.int 0)) (TS : (PTS Z tb)) (TA : (PTA Z tb ktb)) (q10 : Exa Z h s "java/lang/String") (q11 : Fld Z h s "java/lang/String" "value" "[B" (.ref u)) (q12 : Fld Z h s "java/lang/String" "coder" "B" (.int 0)) (q13 : Arv Z h u ku .byte 4 (tx1 v) (.int 0)) (q14 : Exa Z h u "[B") (hv : (v < 16777216)) (hzv : (v % 65536 = 0)) :
 Ct l Z consts_1 mN21 cN19 2 (some (.array .byte)) ⟨5, 2, 14, 95⟩ #[.ref dd, .ref s] h [] (fun rv' hp' so' => ∃ r : Addr, ∃ kr : ClassId, rv' = some (.ref r) ∧ so' = [] ∧ (h.size ≤ r) ∧ Arv Z hp' r kr .byte 1 [.int (sb (v / 65536))] (.int 0)) := by
  refine Ct.mk "java/util/Base64$Decoder" "decode" rfl rfl (a0 := a0) (plainFor_of_name opn3) hO hE (fun x q => nomatch q) ?_
  intro K T W
  rw [oef8]
  refine gAloadN W d12_0 rfl rfl rfl ?_
  refine gAloadN W d12_1 rfl rfl rfl ?_
  refine wGetS W d12_2 (ow64 hw) Via.refl SI rfl fun _ D => ?_
  refine wVirtual (y := mN17) (z := mN17) (Wd := 1) (a := s) (argsL := [.ref iso]) (rest := [.ref dd]) D d12_5 (ow66 hw) (ow67 hw) (ow69 hw) (ow68 hw) (nfS (ow69 hw)) (by decide) (Cb.ct (ob_gb hw hE s z iso u8 u ku 4 (tx1 v) h D.old SC hz SI SU niu q10 q11 q12 q13 q14 (by decide)) (ow70 hw) (ow15 hw) hE (by decide) (by decide)) q10 (by simp) rfl (lenOf opd11 rfl) rfl (Nat.le_of_eq rfl) (by decide) (by decide) rfl fun _ _ _ E B C _ H => ?_
  obtain ⟨A, rfl, rfl, _, I⟩ := H
  show Go K _ _ _ _ [.ref A, .ref dd]
  have J : Arv Z E A ku .byte 4 (tx1 v) (.int 0) := I
  have F := q5.keep C
  have L := q6.keep C nin0
  have M := q7.keep C nin0
  refine wVirtual (y := mN20) (z := mN20) (Wd := 0) (a := dd) (argsL := [.ref A]) (rest := []) B d12_8 (ow97 hw) (ow98 hw) (ow100 hw) (ow99 hw) (nfS (ow100 hw)) (by decide) (Cb.ct (ob_dec1 hw hE dd A ku tb ktb v E B.old F L M TS TA J hv hzv) (ow101 hw) (ow58 hw) hE (by decide) (by decide)) F (by simp) rfl (lenOf opd12 rfl) rfl (Nat.le_of_eq rfl) (by decide) (by decide) rfl fun _ _ _ _ N _ _ O => ?_
  obtain ⟨G, P, rfl, rfl, Q, R⟩ := O
  show Go K _ _ _ _ [.ref G]
  exact wRetA (so := []) (t := .array .byte) N d12_11 rfl rfl rfl (by decide) (by decide) (fun _ q => nomatch q) ⟨G, P, rfl, rfl, (Nat.le_trans B.grow Q), R⟩
theorem ob_ol2 (hw : TH a0 Z) (hE : EW Z a0 consts_1) (dd sr : Addr) (ks : ClassId) (tb : Addr) (ktb : ClassId) (v : Nat) (h : Heap) (hO : Ol Z h) (q0 : Exa Z h dd "java/util/Base64$Decoder") (q1 : Fld Z h dd "java/util/Base64$Decoder" "isURL" "Z" (.int 0)) (q2 : Fld Z h dd "java/util/Base64$Decoder" "isMIME" "Z" (.int 0)) (TS : (PTS Z tb)) (TA : (PTA Z tb ktb)) (q5 : Arv Z h sr ks .byte 4 (tx2 v) (.int 0)) :
 Ct l Z consts_1 mN18 cN16 9 (some .int) ⟨0, 0, 0, 0⟩ #[.ref dd, .ref sr, .int 0, .int 4] h [] (fun rv' hp' so' => rv' = some (.int 2) ∧ so' = []) := by
  refine Ct.mk "java/util/Base64$Decoder" "decodedOutLength" rfl rfl (a0 := a0) (plainFor_of_name opn3) hO hE (fun x q => nomatch q) ?_
  intro K T W
  rw [oef13]
  refine gAloadN W d19_0 rfl rfl rfl ?_
  refine wGetF W d19_1 (ow107 hw) Via.refl q1 rfl fun _ C => ?_
  refine gIfYes (pc' := 13) C d19_4 ((if0 _ _).trans (teq (by decide)).1) (by decide) rfl ?_
  refine wGetS C d19_13 (ow109 hw) Via.refl TS rfl fun _ B => ?_
  refine gAstore (ls' := #[aR dd, aR sr, aI 0, aI 4, aR tb, aU, aU, aU, aU]) B d19_16 rfl rfl rfl ?_
  refine gIconst (z := 0) B d19_18 rfl rfl ?_
  refine gIstore (ls' := #[aR dd, aR sr, aI 0, aI 4, aR tb, aI 0, aU, aU, aU]) B d19_19 rfl rfl ?_
  refine gIloadN B d19_21 rfl rfl ?_
  refine gIloadN B d19_22 rfl rfl ?_
  refine gIsub (z := 4) B d19_23 (by decide) rfl ?_
  refine gIstore (ls' := #[aR dd, aR sr, aI 0, aI 4, aR tb, aI 0, aI 4, aU, aU]) B d19_24 rfl rfl ?_
  refine gIload B d19_26 rfl rfl ?_
  refine gIfYes (pc' := 33) B d19_28 ((if0 _ _).trans (feq (by decide)).2) (by decide) rfl ?_
  refine gIload B d19_33 rfl rfl ?_
  refine gIconst (z := 2) B d19_35 rfl rfl ?_
  refine gIcmpYes (pc' := 66) B d19_36 (flt (by decide)).2.1 (by decide) rfl ?_
  refine gAloadN B d19_66 rfl rfl rfl ?_
  refine wGetF B d19_67 (ow110 hw) Via.refl q2 rfl fun _ A => ?_
  refine gIfYes (pc' := 141) A d19_70 ((if0 _ _).trans (teq (by decide)).1) (by decide) rfl ?_
  refine gAloadN A d19_141 rfl rfl rfl ?_
  refine gIloadN A d19_142 rfl rfl ?_
  refine gIconst (z := 1) A d19_143 rfl rfl ?_
  refine gIsub (z := 3) A d19_144 (by decide) rfl ?_
  refine wLdB (v := (.int 61)) A d19_145 q5 (by decide) rfl rfl ?_
  refine gBipush (z := 61) A d19_146 rfl rfl ?_
  refine gIcmpNo A d19_148 (teq (by decide)).2 rfl ?_
  refine gIinc (z := 1) (ls' := #[aR dd, aR sr, aI 0, aI 4, aR tb, aI 1, aI 4, aU, aU]) A d19_151 rfl (by decide) rfl rfl ?_
  refine gAloadN A d19_154 rfl rfl rfl ?_
  refine gIloadN A d19_155 rfl rfl ?_
  refine gIconst (z := 2) A d19_156 rfl rfl ?_
  refine gIsub (z := 2) A d19_157 (by decide) rfl ?_
  refine wLdB (v := (.int (Int32.ofNat (symN (sx2 v))))) A d19_158 q5 (by decide) rfl rfl ?_
  refine gBipush (z := 61) A d19_159 rfl rfl ?_
  refine gIcmpYes (pc' := 167) A d19_161 (feq (fun q => symN_61 (ofNat_inj (b := 61) (Nat.lt_of_le_of_lt (symN_le _) (by decide)) (by decide) q))).2 (by decide) rfl ?_
  refine gIload A d19_167 rfl rfl ?_
  refine gIfYes (pc' := 187) A d19_169 ((if0 _ _).trans (feq (by decide)).2) (by decide) rfl ?_
  refine gIconst (z := 3) A d19_187 rfl rfl ?_
  refine gIload A d19_188 rfl rfl ?_
  refine gI2L (z := (4 : Int64)) A d19_190 (by decide) rfl ?_
  refine wLdcL (v := (3 : Int64)) A d19_191 (ow112 hw) rfl ?_
  refine gLadd (z := (7 : Int64)) A d19_194 (by decide) rfl ?_
  refine wLdcL (v := (4 : Int64)) A d19_195 (ow113 hw) rfl ?_
  refine gLdiv (z := (1 : Int64)) A d19_198 (by decide) (by decide) rfl ?_
  refine gL2I (z := 1) A d19_199 (by decide) rfl ?_
  refine gImul (z := 3) A d19_200 (by decide) rfl ?_
  refine gIload A d19_201 rfl rfl ?_
  refine gIsub (z := 2) A d19_203 (by decide) rfl ?_
  exact wRetI (so := []) (t := .int) A d19_204 (by simp) rfl (by decide) (by decide) (fun _ q => nomatch q) ⟨rfl, rfl⟩
theorem d20_310 : Dc cN17 310 (.aload 4) 2 := by decide +kernel
theorem d20_312 : Dc cN17 312 (.iload 6) 2 := by decide +kernel
theorem d20_314 : Dc cN17 314 (.iinc 6 1) 3 := by decide +kernel
theorem d20_317 : Dc cN17 317 (.iload 7) 2 := by decide +kernel
theorem d20_319 : Dc cN17 319 (.bipush 16) 2 := by decide +kernel
theorem d20_321 : Dc cN17 321 (.ishr) 1 := by decide +kernel
theorem d20_322 : Dc cN17 322 (.i2b) 1 := by decide +kernel
theorem d20_323 : Dc cN17 323 (.bastore) 1 := by decide +kernel
theorem d20_324 : Dc cN17 324 (.aload 4) 2 := by decide +kernel
theorem d20_326 : Dc cN17 326 (.iload 6) 2 := by decide +kernel
theorem d20_328 : Dc cN17 328 (.iinc 6 1) 3 := by decide +kernel
theorem d20_331 : Dc cN17 331 (.iload 7) 2 := by decide +kernel
theorem d20_333 : Dc cN17 333 (.bipush 8) 2 := by decide +kernel
theorem d20_335 : Dc cN17 335 (.ishr) 1 := by decide +kernel
theorem d20_336 : Dc cN17 336 (.i2b) 1 := by decide +kernel
theorem d20_337 : Dc cN17 337 (.bastore) 1 := by decide +kernel
theorem d20_338 : Dc cN17 338 (.goto 20) 3 := by decide +kernel
theorem ob_d02 (hw : TH a0 Z) (hE : EW Z a0 consts_1) (dd sr : Addr) (ks : ClassId) (ds : Addr) (kds : ClassId) (tb : Addr) (ktb : ClassId) (v : Nat) (h : Heap) (hO : Ol Z h) (q0 : Exa Z h dd "java/util/Base64$Decoder") (q1 : Fld Z h dd "java/util/Base64$Decoder" "isURL" "Z" (.int 0)) (q2 : Fld Z h dd "java/util/Base64$Decoder" "isMIME" "Z" (.int 0)) (TS : (PTS Z tb)) (TA : (PTA Z tb ktb)) (q5 : Arv Z h sr ks .byte 4 (tx2 v) (.int 0)) (q6 : Arv Z h ds kds .byte 2 [.int 0, .int 0] (.int 0)) (nsd : (sr ≠ ds)) (ntd : (tb ≠ ds)) (hv : (v < 16777216)) (hzv : (v % 256 = 0)) (ge_ds : Z.heap.size ≤ ds) :
 Ct l Z consts_1 mN19 cN17 11 (some .int) ⟨1, 0, 0, 40⟩ #[.ref dd, .ref sr, .int 0, .int 4, .ref ds] h [ds] (fun rv' hp' so' => rv' = some (.int 2) ∧ so' = [] ∧ Arv Z hp' ds kds .byte 2 [.int (sb (v / 65536)), .int (sb (v / 256))] (.int 0)) := by
  refine Ct.mk "java/util/Base64$Decoder" "decode0" rfl rfl (a0 := a0) (plainFor_of_name opn3) hO hE (fun x q => by simp at q; subst q; exact ge_ds) ?_
  intro K T W
  rw [oef14]
  refine gAloadN W d20_0 rfl rfl rfl ?_
  refine wGetF W d20_1 (ow107 hw) Via.refl q1 rfl fun _ E => ?_
  refine gIfYes (pc' := 13) E d20_4 ((if0 _ _).trans (teq (by decide)).1) (by decide) rfl ?_
  refine wGetS E d20_13 (ow109 hw) Via.refl TS rfl fun _ A => ?_
  refine gAstore (ls' := #[aR dd, aR sr, aI 0, aI 4, aR ds, aR tb, aU, aU, aU, aU, aU]) A d20_16 rfl rfl rfl ?_
  refine gIconst (z := 0) A d20_18 rfl rfl ?_
  refine gIstore (ls' := #[aR dd, aR sr, aI 0, aI 4, aR ds, aR tb, aI 0, aU, aU, aU, aU]) A d20_19 rfl rfl ?_
  refine gIconst (z := 0) A d20_21 rfl rfl ?_
  refine gIstore (ls' := #[aR dd, aR sr, aI 0, aI 4, aR ds, aR tb, aI 0, aI 0, aU, aU, aU]) A d20_22 rfl rfl ?_
  refine gBipush (z := 18) A d20_24 rfl rfl ?_
  refine gIstore (ls' := #[aR dd, aR sr, aI 0, aI 4, aR ds, aR tb, aI 0, aI 0, aI 18, aU, aU]) A d20_26 rfl rfl ?_
  refine gIloadN A d20_28 rfl rfl ?_
  refine gIloadN A d20_29 rfl rfl ?_
  refine gIcmpNo A d20_30 (tlt (by decide)).2.1 rfl ?_
  refine gIload A d20_33 rfl rfl ?_
  refine gBipush (z := 18) A d20_35 rfl rfl ?_
  refine gIcmpNo A d20_37 (teq (by decide)).2 rfl ?_
  refine gIloadN A d20_40 rfl rfl ?_
  refine gIloadN A d20_41 rfl rfl ?_
  refine gIconst (z := 4) A d20_42 rfl rfl ?_
  refine gIsub (z := 0) A d20_43 (by decide) rfl ?_
  refine gIcmpYes (pc' := 90) A d20_44 (flt (by decide)).2.1 (by decide) rfl ?_
  refine gIloadN A d20_90 rfl rfl ?_
  refine gIloadN A d20_91 rfl rfl ?_
  refine gIcmpYes (pc' := 98) A d20_92 (tlt (by decide)).1 (by decide) rfl ?_
  refine gAloadN A d20_98 rfl rfl rfl ?_
  refine gIloadN A d20_99 rfl rfl ?_
  refine gIinc (z := 1) (ls' := #[aR dd, aR sr, aI 1, aI 4, aR ds, aR tb, aI 0, aI 0, aI 18, aU, aU]) A d20_100 rfl (by decide) rfl rfl ?_
  refine wLdB (v := (.int (Int32.ofNat (symN (sx0 v))))) A d20_103 q5 (by decide) rfl rfl ?_
  refine gSipush (z := 255) A d20_104 rfl rfl ?_
  refine gIand (z := (Int32.ofNat (symN (sx0 v)))) A d20_107 (b8_of (symN_le _)).mask rfl ?_
  refine gIstore (ls' := #[aR dd, aR sr, aI 1, aI 4, aR ds, aR tb, aI 0, aI 0, aI 18, aI ((Int32.ofNat (symN (sx0 v)))), aU]) A d20_108 rfl rfl ?_
  refine gAload A d20_110 rfl rfl rfl ?_
  refine gIload A d20_112 rfl rfl ?_
  have D := TA.ext A.old.2
  refine wLdI (v := (.int (Int32.ofNat (sx0 v)))) A d20_114 D (ofNat_inb (n := 256) (Nat.lt_of_le_of_lt (symN_le _) (by decide)) (by decide)) (by rw [ofNat_clamp (Nat.lt_of_le_of_lt (symN_le _) (by decide))]; exact tab_at (sx0_lt _)) rfl ?_
  refine gDup A d20_115 rfl rfl ?_
  refine gIstore (ls' := #[aR dd, aR sr, aI 1, aI 4, aR ds, aR tb, aI 0, aI 0, aI 18, aI (Int32.ofNat (sx0 v)), aU]) A d20_116 rfl rfl ?_
  refine gIfYes (pc' := 214) A d20_118 ((if0 _ _).trans (flt (ofNat_nn (Nat.lt_trans (sx0_lt _) (by decide)))).2.1) (by decide) rfl ?_
  refine gIload A d20_214 rfl rfl ?_
  refine gIload A d20_216 rfl rfl ?_
  refine gIload A d20_218 rfl rfl ?_
  refine gIshl (z := (Int32.ofNat ((sx0 v) * 262144))) A d20_220 (shlN (k := 18) (by decide) (by decide) (by have := sx0_lt v; omega)) rfl ?_
  refine gIor (z := (Int32.ofNat ((sx0 v) * 262144))) A d20_221 (zor _) rfl ?_
  refine gIstore (ls' := #[aR dd, aR sr, aI 1, aI 4, aR ds, aR tb, aI 0, aI ((Int32.ofNat ((sx0 v) * 262144))), aI 18, aI (Int32.ofNat (sx0 v)), aU]) A d20_222 rfl rfl ?_
  refine gIinc (z := 12) (ls' := #[aR dd, aR sr, aI 1, aI 4, aR ds, aR tb, aI 0, aI ((Int32.ofNat ((sx0 v) * 262144))), aI 12, aI (Int32.ofNat (sx0 v)), aU]) A d20_224 rfl (by decide) rfl rfl ?_
  refine gIload A d20_227 rfl rfl ?_
  refine gIfYes (pc' := 278) A d20_229 ((if0 _ _).trans (flt (by decide)).2.1) (by decide) rfl ?_
  refine gGoto (pc' := 28) A d20_278 (by decide) rfl ?_
  refine gIloadN A d20_28 rfl rfl ?_
  refine gIloadN A d20_29 rfl rfl ?_
  refine gIcmpNo A d20_30 (tlt (by decide)).2.1 rfl ?_
  refine gIload A d20_33 rfl rfl ?_
  refine gBipush (z := 18) A d20_35 rfl rfl ?_
  refine gIcmpYes (pc' := 90) A d20_37 (feq (by decide)).2 (by decide) rfl ?_
  refine gIloadN A d20_90 rfl rfl ?_
  refine gIloadN A d20_91 rfl rfl ?_
  refine gIcmpYes (pc' := 98) A d20_92 (tlt (by decide)).1 (by decide) rfl ?_
  refine gAloadN A d20_98 rfl rfl rfl ?_
  refine gIloadN A d20_99 rfl rfl ?_
  refine gIinc (z := 2) (ls' := #[aR dd, aR sr, aI 2, aI 4, aR ds, aR tb, aI 0, aI ((Int32.ofNat ((sx0 v) * 262144))), aI 12, aI (Int32.ofNat (sx0 v)), aU]) A d20_100 rfl (by decide) rfl rfl ?_
  refine wLdB (v := (.int (Int32.ofNat (symN (sx1 v))))) A d20_103 q5 (by decide) rfl rfl ?_
  refine gSipush (z := 255) A d20_104 rfl rfl ?_
  refine gIand (z := (Int32.ofNat (symN (sx1 v)))) A d20_107 (b8_of (symN_le _)).mask rfl ?_
  refine gIstore (ls' := #[aR dd, aR sr, aI 2, aI 4, aR ds, aR tb, aI 0, aI ((Int32.ofNat ((sx0 v) * 262144))), aI 12, aI ((Int32.ofNat (symN (sx1 v)))), aU]) A d20_108 rfl rfl ?_
  refine gAload A d20_110 rfl rfl rfl ?_
  refine gIload A d20_112 rfl rfl ?_
  refine wLdI (v := (.int (Int32.ofNat (sx1 v)))) A d20_114 D (ofNat_inb (n := 256) (Nat.lt_of_le_of_lt (symN_le _) (by decide)) (by decide)) (by rw [ofNat_clamp (Nat.lt_of_le_of_lt (symN_le _) (by decide))]; exact tab_at (sx1_lt _)) rfl ?_
  refine gDup A d20_115 rfl rfl ?_
  refine gIstore (ls' := #[aR dd, aR sr, aI 2, aI 4, aR ds, aR tb, aI 0, aI ((Int32.ofNat ((sx0 v) * 262144))), aI 12, aI (Int32.ofNat (sx1 v)), aU]) A d20_116 rfl rfl ?_
  refine gIfYes (pc' := 214) A d20_118 ((if0 _ _).trans (flt (ofNat_nn (Nat.lt_trans (sx1_lt _) (by decide)))).2.1) (by decide) rfl ?_
  refine gIload A d20_214 rfl rfl ?_
  refine gIload A d20_216 rfl rfl ?_
  refine gIload A d20_218 rfl rfl ?_
  refine gIshl (z := (Int32.ofNat ((sx1 v) * 4096))) A d20_220 (shlN (k := 12) (by decide) (by decide) (by have := sx1_lt v; omega)) rfl ?_
  refine gIor (z := (Int32.ofNat ((sx0 v) * 262144 + (sx1 v) * 4096))) A d20_221 (or18 v) rfl ?_
  refine gIstore (ls' := #[aR dd, aR sr, aI 2, aI 4, aR ds, aR tb, aI 0, aI ((Int32.ofNat ((sx0 v) * 262144 + (sx1 v) * 4096))), aI 12, aI (Int32.ofNat (sx1 v)), aU]) A d20_222 rfl rfl ?_
  refine gIinc (z := 6) (ls' := #[aR dd, aR sr, aI 2, aI 4, aR ds, aR tb, aI 0, aI ((Int32.ofNat ((sx0 v) * 262144 + (sx1 v) * 4096))), aI 6, aI (Int32.ofNat (sx1 v)), aU]) A d20_224 rfl (by decide) rfl rfl ?_
  refine gIload A d20_227 rfl rfl ?_
  refine gIfYes (pc' := 278) A d20_229 ((if0 _ _).trans (flt (by decide)).2.1) (by decide) rfl ?_
  refine gGoto (pc' := 28) A d20_278 (by decide) rfl ?_
  refine gIloadN A d20_28 rfl rfl ?_
  refine gIloadN A d20_29 rfl rfl ?_
  refine gIcmpNo A d20_30 (tlt (by decide)).2.1 rfl ?_
  refine gIload A d20_33 rfl rfl ?_
  refine gBipush (z := 18) A d20_35 rfl rfl ?_
  refine gIcmpYes (pc' := 90) A d20_37 (feq (by decide)).2 (by decide) rfl ?_
  refine gIloadN A d20_90 rfl rfl ?_
  refine gIloadN A d20_91 rfl rfl ?_
  refine gIcmpYes (pc' := 98) A d20_92 (tlt (by decide)).1 (by decide) rfl ?_
  refine gAloadN A d20_98 rfl rfl rfl ?_
  refine gIloadN A d20_99 rfl rfl ?_
  refine gIinc (z := 3) (ls' := #[aR dd, aR sr, aI 3, aI 4, aR ds, aR tb, aI 0, aI ((Int32.ofNat ((sx0 v) * 262144 + (sx1 v) * 4096))), aI 6, aI (Int32.ofNat (sx1 v)), aU]) A d20_100 rfl (by decide) rfl rfl ?_
  refine wLdB (v := (.int (Int32.ofNat (symN (sx2 v))))) A d20_103 q5 (by decide) rfl rfl ?_
  refine gSipush (z := 255) A d20_104 rfl rfl ?_
  refine gIand (z := (Int32.ofNat (symN (sx2 v)))) A d20_107 (b8_of (symN_le _)).mask rfl ?_
  refine gIstore (ls' := #[aR dd, aR sr, aI 3, aI 4, aR ds, aR tb, aI 0, aI ((Int32.ofNat ((sx0 v) * 262144 + (sx1 v) * 4096))), aI 6, aI ((Int32.ofNat (symN (sx2 v)))), aU]) A d20_108 rfl rfl ?_
  refine gAload A d20_110 rfl rfl rfl ?_
  refine gIload A d20_112 rfl rfl ?_
  refine wLdI (v := (.int (Int32.ofNat (sx2 v)))) A d20_114 D (ofNat_inb (n := 256) (Nat.lt_of_le_of_lt (symN_le _) (by decide)) (by decide)) (by rw [ofNat_clamp (Nat.lt_of_le_of_lt (symN_le _) (by decide))]; exact tab_at (sx2_lt _)) rfl ?_
  refine gDup A d20_115 rfl rfl ?_
  refine gIstore (ls' := #[aR dd, aR sr, aI 3, aI 4, aR ds, aR tb, aI 0, aI ((Int32.ofNat ((sx0 v) * 262144 + (sx1 v) * 4096))), aI 6, aI (Int32.ofNat (sx2 v)), aU]) A d20_116 rfl rfl ?_
  refine gIfYes (pc' := 214) A d20_118 ((if0 _ _).trans (flt (ofNat_nn (Nat.lt_trans (sx2_lt _) (by decide)))).2.1) (by decide) rfl ?_
  refine gIload A d20_214 rfl rfl ?_
  refine gIload A d20_216 rfl rfl ?_
  refine gIload A d20_218 rfl rfl ?_
  refine gIshl (z := (Int32.ofNat ((sx2 v) * 64))) A d20_220 (shlN (k := 6) (by decide) (by decide) (by have := sx2_lt v; omega)) rfl ?_
  refine gIor (z := (Int32.ofNat v)) A d20_221 (or12z v hv hzv) rfl ?_
  refine gIstore (ls' := #[aR dd, aR sr, aI 3, aI 4, aR ds, aR tb, aI 0, aI (Int32.ofNat v), aI 6, aI (Int32.ofNat (sx2 v)), aU]) A d20_222 rfl rfl ?_
  refine gIinc (z := 0) (ls' := #[aR dd, aR sr, aI 3, aI 4, aR ds, aR tb, aI 0, aI (Int32.ofNat v), aI 0, aI (Int32.ofNat (sx2 v)), aU]) A d20_224 rfl (by decide) rfl rfl ?_
  refine gIload A d20_227 rfl rfl ?_
  refine gIfYes (pc' := 278) A d20_229 ((if0 _ _).trans (flt (by decide)).2.1) (by decide) rfl ?_
  refine gGoto (pc' := 28) A d20_278 (by decide) rfl ?_
  refine gIloadN A d20_28 rfl rfl ?_
  refine gIloadN A d20_29 rfl rfl ?_
  refine gIcmpNo A d20_30 (tlt (by decide)).2.1 rfl ?_
  refine gIload A d20_33 rfl rfl ?_
  refine gBipush (z := 18) A d20_35 rfl rfl ?_
  refine gIcmpYes (pc' := 90) A d20_37 (feq (by decide)).2 (by decide) rfl ?_
  refine gIloadN A d20_90 rfl rfl ?_
  refine gIloadN A d20_91 rfl rfl ?_
  refine gIcmpYes (pc' := 98) A d20_92 (tlt (by decide)).1 (by decide) rfl ?_
  refine gAloadN A d20_98 rfl rfl rfl ?_
  refine gIloadN A d20_99 rfl rfl ?_
  refine gIinc (z := 4) (ls' := #[aR dd, aR sr, aI 4, aI 4, aR ds, aR tb, aI 0, aI (Int32.ofNat v), aI 0, aI (Int32.ofNat (sx2 v)), aU]) A d20_100 rfl (by decide) rfl rfl ?_
  refine wLdB (v := (.int 61)) A d20_103 q5 (by decide) rfl rfl ?_
  refine gSipush (z := 255) A d20_104 rfl rfl ?_
  refine gIand (z := 61) A d20_107 (by decide) rfl ?_
  refine gIstore (ls' := #[aR dd, aR sr, aI 4, aI 4, aR ds, aR tb, aI 0, aI (Int32.ofNat v), aI 0, aI 61, aU]) A d20_108 rfl rfl ?_
  refine gAload A d20_110 rfl rfl rfl ?_
  refine gIload A d20_112 rfl rfl ?_
  refine wLdI (v := (.int (-2))) A d20_114 D (by decide) rfl rfl ?_
  refine gDup A d20_115 rfl rfl ?_
  refine gIstore (ls' := #[aR dd, aR sr, aI 4, aI 4, aR ds, aR tb, aI 0, aI (Int32.ofNat v), aI 0, aI (-2), aU]) A d20_116 rfl rfl ?_
  refine gIfNo A d20_118 ((if0 _ _).trans (tlt (by decide)).2.1) rfl ?_
  refine gIload A d20_121 rfl rfl ?_
  refine gBipush (z := (-2)) A d20_123 rfl rfl ?_
  refine gIcmpNo A d20_125 (teq (by decide)).2 rfl ?_
  refine gIload A d20_128 rfl rfl ?_
  refine gBipush (z := 6) A d20_130 rfl rfl ?_
  refine gIcmpYes (pc' := 151) A d20_132 (feq (by decide)).2 (by decide) rfl ?_
  refine gIload A d20_151 rfl rfl ?_
  refine gBipush (z := 18) A d20_153 rfl rfl ?_
  refine gIcmpYes (pc' := 281) A d20_155 (feq (by decide)).2 (by decide) rfl ?_
  refine gIload A d20_281 rfl rfl ?_
  refine gBipush (z := 6) A d20_283 rfl rfl ?_
  refine gIcmpYes (pc' := 305) A d20_285 (feq (by decide)).2 (by decide) rfl ?_
  refine gIload A d20_305 rfl rfl ?_
  refine gIfNo A d20_307 ((if0 _ _).trans (teq (by decide)).2) rfl ?_
  refine gAload A d20_310 rfl rfl rfl ?_
  refine gIload A d20_312 rfl rfl ?_
  refine gIinc (z := 1) (ls' := #[aR dd, aR sr, aI 4, aI 4, aR ds, aR tb, aI 1, aI (Int32.ofNat v), aI 0, aI (-2), aU]) A d20_314 rfl (by decide) rfl rfl ?_
  refine gIload A d20_317 rfl rfl ?_
  refine gBipush (z := 16) A d20_319 rfl rfl ?_
  refine gIshr (z := (Int32.ofNat (v / 65536))) A d20_321 (shrN (k := 16) (by decide) (by decide) (by omega)) rfl ?_
  refine gI2B (z := (sb (v / 65536))) A d20_322 rfl rfl ?_
  refine wStB (y := (sb (v / 65536))) A d20_323 (by simp) q6 (by decide) (sb_idem _) 0 (by decide) (show 0 < 2 from by decide) rfl fun _ F B _ G => ?_
  have H : Arv Z F ds kds .byte 2 [.int (sb (v / 65536)), .int 0] (.int 0) := G
  refine gAload B d20_324 rfl rfl rfl ?_
  refine gIload B d20_326 rfl rfl ?_
  refine gIinc (z := 2) (ls' := #[aR dd, aR sr, aI 4, aI 4, aR ds, aR tb, aI 2, aI (Int32.ofNat v), aI 0, aI (-2), aU]) B d20_328 rfl (by decide) rfl rfl ?_
  refine gIload B d20_331 rfl rfl ?_
  refine gBipush (z := 8) B d20_333 rfl rfl ?_
  refine gIshr (z := (Int32.ofNat (v / 256))) B d20_335 (shrN (k := 8) (by decide) (by decide) (by omega)) rfl ?_
  refine gI2B (z := (sb (v / 256))) B d20_336 rfl rfl ?_
  refine wStB (y := (sb (v / 256))) B d20_337 (by simp) H (by decide) (sb_idem _) 1 (by decide) (show 1 < 2 from by decide) rfl fun _ I C _ J => ?_
  have L : Arv Z I ds kds .byte 2 [.int (sb (v / 65536)), .int (sb (v / 256))] (.int 0) := J
  refine gGoto (pc' := 358) C d20_338 (by decide) rfl ?_
  refine gIloadN C d20_358 rfl rfl ?_
  refine gIloadN C d20_359 rfl rfl ?_
  refine gIcmpYes (pc' := 416) C d20_360 (flt (by decide)).2.1 (by decide) rfl ?_
  refine gIload C d20_416 rfl rfl ?_
  exact wRetI (so := []) (t := .int) C d20_418 (by simp) rfl (by decide) (by decide) (fun _ q => nomatch q) ⟨rfl, rfl, L⟩
theorem ob_dec2 (hw : TH a0 Z) (hE : EW Z a0 consts_1) (dd sr : Addr) (ks : ClassId) (tb : Addr) (ktb : ClassId) (v : Nat) (h : Heap) (hO : Ol Z h) (q0 : Exa Z h dd "java/util/Base64$Decoder") (q1 : Fld Z h dd "java/util/Base64$Decoder" "isURL" "Z" (.int 0)) (q2 : Fld Z h dd "java/util/Base64$Decoder" "isMIME" "Z" (.int 0)) (TS : (PTS Z tb)) (TA : (PTA Z tb ktb)) (q5 : Arv Z h sr ks .byte 4 (tx2 v) (.int 0)) (hv : (v < 16777216)) (hzv : (v % 256 = 0)) :
 Ct l Z consts_1 mN20 cN18 4 (some (.array .byte)) ⟨2, 1, 6, 70⟩ #[.ref dd, .ref sr] h [] (fun rv' hp' so' => ∃ r : Addr, ∃ kr : ClassId, rv' = some (.ref r) ∧ so' = [] ∧ (h.size ≤ r) ∧ Arv Z hp' r kr .byte 2 [.int (sb (v / 65536)), .int (sb (v / 256))] (.int 0)) := by
  refine Ct.mk "java/util/Base64$Decoder" "decode" rfl rfl (a0 := a0) (plainFor_of_name opn3) hO hE (fun x q => nomatch q) ?_
  intro K T W
  rw [oef15]
  refine gAloadN W d18_0 rfl rfl rfl ?_
  refine gAloadN W d18_1 rfl rfl rfl ?_
  refine gIconst (z := 0) W d18_2 rfl rfl ?_
  refine gAloadN W d18_3 rfl rfl rfl ?_
  refine wLen W d18_4 q5 rfl ?_
  refine wPrivate (y := mN18) (Wd := 0) (a := dd) (argsL := [.ref sr, .int 0, .int 4]) (rest := []) W d18_5 (ow102 hw) (ow103 hw) (ow105 hw) (ow104 hw) (ow106 hw) (by decide) (Cb.ct (ob_ol2 hw hE dd sr ks tb ktb v h W.old q0 q1 q2 TS TA q5) (ow106 hw) (ow58 hw) hE (by decide) (by decide)) q0 (by simp) rfl (lenOf opd9 rfl) rfl (Nat.le_of_eq rfl) (by decide) (by decide) rfl fun _ _ _ _ D E _ O => ?_
  obtain ⟨rfl, rfl⟩ := O
  show Go K _ _ _ _ [.int 2]
  refine wNewP (cap := 2) D d18_8 (ow1 hw) (by decide) (by decide) (by decide) (by decide) (by decide) rfl fun _ I B H A F G P => ?_
  have Q : Arv Z I B H .byte 2 [.int 0, .int 0] (.int 0) := P 2
  refine gAstoreN (ls' := #[aR dd, aR sr, aR B, aU]) A d18_10 rfl rfl rfl ?_
  refine gAloadN A d18_11 rfl rfl rfl ?_
  refine gAloadN A d18_12 rfl rfl rfl ?_
  refine gIconst (z := 0) A d18_13 rfl rfl ?_
  refine gAloadN A d18_14 rfl rfl rfl ?_
  have J := q5.keep E nin0
  have L := J.ext F
  refine wLen A d18_15 L rfl ?_
  refine gAloadN A d18_16 rfl rfl rfl ?_
  have R : sr ≠ B := Nat.ne_of_lt (Nat.lt_of_lt_of_le J.lt (Nat.le_of_eq G.symm))
  have S := q0.keep E
  have M := S.ext F
  have U := q1.keep E nin0
  have V := U.ext F
  have X := q2.keep E nin0
  have Y := X.ext F
  refine wPrivate (y := mN19) (Wd := 0) (a := dd) (argsL := [.ref sr, .int 0, .int 4, .ref B]) (rest := []) A d18_17 (ow114 hw) (ow115 hw) (ow117 hw) (ow116 hw) (ow118 hw) (by decide) (Cb.ct (ob_d02 hw hE dd sr ks B H tb ktb v I A.old M V Y TS TA L Q R (Nat.ne_of_lt (Nat.lt_of_lt_of_le TA.lt (Nat.le_trans D.old.2.1 (Nat.le_of_eq G.symm)))) hv hzv (Nat.le_trans D.old.2.1 (Nat.le_of_eq G.symm))) (ow118 hw) (ow58 hw) hE (by decide) (by decide)) M (by simp) rfl (lenOf opd10 rfl) rfl (Nat.le_of_eq rfl) (by decide) (by decide) rfl fun _ _ _ _ C _ _ Aa => ?_
  obtain ⟨rfl, rfl, N⟩ := Aa
  show Go K _ _ _ _ [.int 2]
  refine gIstoreN (ls' := #[aR dd, aR sr, aR B, aI 2]) C d18_20 rfl rfl ?_
  refine gIloadN C d18_21 rfl rfl ?_
  refine gAloadN C d18_22 rfl rfl rfl ?_
  refine wLen C d18_23 N rfl ?_
  refine gIcmpYes (pc' := 33) C d18_24 (teq (by decide)).1 (by decide) rfl ?_
  refine gAloadN C d18_33 rfl rfl rfl ?_
  exact wRetA (so := []) (t := .array .byte) C d18_34 rfl rfl rfl (by decide) (by decide) (fun _ q => nomatch q) ⟨B, H, rfl, rfl, (Nat.le_trans D.grow (Nat.le_of_eq G.symm)), N⟩
theorem ob_dcS2 (hw : TH a0 Z) (hE : EW Z a0 consts_1) (dd s u : Addr) (ku : ClassId) (z : Int32) (iso u8 tb : Addr) (ktb : ClassId) (v : Nat) (h : Heap) (hO : Ol Z h) (SC : (PSC Z z)) (hz : (¬ z = 0)) (SI : (PSI Z iso)) (SU : (PSU Z u8)) (niu : (iso ≠ u8)) (q5 : Exa Z h dd "java/util/Base64$Decoder") (q6 : Fld Z h dd "java/util/Base64$Decoder" "isURL" "Z" (.int 0)) (q7 : Fld Z h dd "java/util/Base64$Decoder" "isMIME" "Z" (.int 0)) (TS : (PTS Z tb)) (TA : (PTA Z tb ktb)) (q10 : Exa Z h s "java/lang/String") (q11 : Fld Z h s "java/lang/String" "value" "[B" (.ref u)) (q12 : Fld Z h s "java/lang/String" "coder" "B" (.int 0)) (q13 : Arv Z h u ku .byte 4 (tx2 v) (.int 0)) (q14 : Exa Z h u "[B") (hv : (v < 16777216)) (hzv : (v % 256 = 0)) :
 Ct l Z consts_1 mN21 cN19 2 (some (.array .byte)) ⟨5, 2, 14, 95⟩ #[.ref dd, .ref s] h [] (fun rv' hp' so' => ∃ r : Addr, ∃ kr : ClassId, rv' = some (.ref r) ∧ so' = [] ∧ (h.size ≤ r) ∧ Arv Z hp' r kr .byte 2 [.int (sb (v / 65536)), .int (sb (v / 256))] (.int 0)) := by
  refine Ct.mk "java/util/Base64$Decoder" "decode" rfl rfl (a0 := a0) (plainFor_of_name opn3) hO hE (fun x q => nomatch q) ?_
  intro K T W
  rw [oef8]
  refine gAloadN W d12_0 rfl rfl rfl ?_
  refine gAloadN W d12_1 rfl rfl rfl ?_
  refine wGetS W d12_2 (ow64 hw) Via.refl SI rfl fun _ D => ?_
  refine wVirtual (y := mN17) (z := mN17) (Wd := 1) (a := s) (argsL := [.ref iso]) (rest := [.ref dd]) D d12_5 (ow66 hw) (ow67 hw) (ow69 hw) (ow68 hw) (nfS (ow69 hw)) (by decide) (Cb.ct (ob_gb hw hE s z iso u8 u ku 4 (tx2 v) h D.old SC hz SI SU niu q10 q11 q12 q13 q14 (by decide)) (ow70 hw) (ow15 hw) hE (by decide) (by decide)) q10 (by simp) rfl (lenOf opd11 rfl) rfl (Nat.le_of_eq rfl) (by decide) (by decide) rfl fun _ _ _ E B C _ H => ?_
  obtain ⟨A, rfl, rfl, _, I⟩ := H
  show Go K _ _ _ _ [.ref A, .ref dd]
  have J : Arv Z E A ku .byte 4 (tx2 v) (.int 0) := I
  have F := q5.keep C
  have L := q6.keep C nin0
  have M := q7.keep C nin0
  refine wVirtual (y := mN20) (z := mN20) (Wd := 0) (a := dd) (argsL := [.ref A]) (rest := []) B d12_8 (ow97 hw) (ow98 hw) (ow100 hw) (ow99 hw) (nfS (ow100 hw)) (by decide) (Cb.ct (ob_dec2 hw hE dd A ku tb ktb v E B.old F L M TS TA J hv hzv) (ow101 hw) (ow58 hw) hE (by decide) (by decide)) F (by simp) rfl (lenOf opd12 rfl) rfl (Nat.le_of_eq rfl) (by decide) (by decide) rfl fun _ _ _ _ N _ _ O => ?_
  obtain ⟨G, P, rfl, rfl, Q, R⟩ := O
  show Go K _ _ _ _ [.ref G]
  exact wRetA (so := []) (t := .array .byte) N d12_11 rfl rfl rfl (by decide) (by decide) (fun _ q => nomatch q) ⟨G, P, rfl, rfl, (Nat.le_trans B.grow Q), R⟩
theorem d19_172 : Dc cN16 172 (.iload 6) 2 := by decide +kernel
theorem d19_174 : Dc cN16 174 (.iconst 3) 1 := by decide +kernel
theorem d19_175 : Dc cN16 175 (.iand) 1 := by decide +kernel
theorem d19_176 : Dc cN16 176 (.ifCond .eq 11) 3 := by decide +kernel
theorem ob_ol3 (hw : TH a0 Z) (hE : EW Z a0 consts_1) (dd sr : Addr) (ks : ClassId) (tb : Addr) (ktb : ClassId) (v : Nat) (h : Heap) (hO : Ol Z h) (q0 : Exa Z h dd "java/util/Base64$Decoder") (q1 : Fld Z h dd "java/util/Base64$Decoder" "isURL" "Z" (.int 0)) (q2 : Fld Z h dd "java/util/Base64$Decoder" "isMIME" "Z" (.int 0)) (TS : (PTS Z tb)) (TA : (PTA Z tb ktb)) (q5 : Arv Z h sr ks .byte 4 (tx3 v) (.int 0)) :
 Ct l Z consts_1 mN18 cN16 9 (some .int) ⟨0, 0, 0, 0⟩ #[.ref dd, .ref sr, .int 0, .int 4] h [] (fun rv' hp' so' => rv' = some (.int 3) ∧ so' = []) := by
  refine Ct.mk "java/util/Base64$Decoder" "decodedOutLength" rfl rfl (a0 := a0) (plainFor_of_name opn3) hO hE (fun x q => nomatch q) ?_
  intro K T W
  rw [oef13]
  refine gAloadN W d19_0 rfl rfl rfl ?_
  refine wGetF W d19_1 (ow107 hw) Via.refl q1 rfl fun _ C => ?_
  refine gIfYes (pc' := 13) C d19_4 ((if0 _ _).trans (teq (by decide)).1) (by decide) rfl ?_
  refine wGetS C d19_13 (ow109 hw) Via.refl TS rfl fun _ B => ?_
  refine gAstore (ls' := #[aR dd, aR sr, aI 0, aI 4, aR tb, aU, aU, aU, aU]) B d19_16 rfl rfl rfl ?_
  refine gIconst (z := 0) B d19_18 rfl rfl ?_
  refine gIstore (ls' := #[aR dd, aR sr, aI 0, aI 4, aR tb, aI 0, aU, aU, aU]) B d19_19 rfl rfl ?_
  refine gIloadN B d19_21 rfl rfl ?_
  refine gIloadN B d19_22 rfl rfl ?_
  refine gIsub (z := 4) B d19_23 (by decide) rfl ?_
  refine gIstore (ls' := #[aR dd, aR sr, aI 0, aI 4, aR tb, aI 0, aI 4, aU, aU]) B d19_24 rfl rfl ?_
  refine gIload B d19_26 rfl rfl ?_
  refine gIfYes (pc' := 33) B d19_28 ((if0 _ _).trans (feq (by decide)).2) (by decide) rfl ?_
  refine gIload B d19_33 rfl rfl ?_
  refine gIconst (z := 2) B d19_35 rfl rfl ?_
  refine gIcmpYes (pc' := 66) B d19_36 (flt (by decide)).2.1 (by decide) rfl ?_
  refine gAloadN B d19_66 rfl rfl rfl ?_
  refine wGetF B d19_67 (ow110 hw) Via.refl q2 rfl fun _ A => ?_
  refine gIfYes (pc' := 141) A d19_70 ((if0 _ _).trans (teq (by decide)).1) (by decide) rfl ?_
  refine gAloadN A d19_141 rfl rfl rfl ?_
  refine gIloadN A d19_142 rfl rfl ?_
  refine gIconst (z := 1) A d19_143 rfl rfl ?_
  refine gIsub (z := 3) A d19_144 (by decide) rfl ?_
  refine wLdB (v := (.int (Int32.ofNat (symN (sx3 v))))) A d19_145 q5 (by decide) rfl rfl ?_
  refine gBipush (z := 61) A d19_146 rfl rfl ?_
  refine gIcmpYes (pc' := 167) A d19_148 (feq (fun q => symN_61 (ofNat_inj (b := 61) (Nat.lt_of_le_of_lt (symN_le _) (by decide)) (by decide) q))).2 (by decide) rfl ?_
  refine gIload A d19_167 rfl rfl ?_
  refine gIfNo A d19_169 ((if0 _ _).trans (teq (by decide)).2) rfl ?_
  refine gIload A d19_172 rfl rfl ?_
  refine gIconst (z := 3) A d19_174 rfl rfl ?_
  refine gIand (z := 0) A d19_175 (by decide) rfl ?_
  refine gIfYes (pc' := 187) A d19_176 ((if0 _ _).trans (teq (by decide)).1) (by decide) rfl ?_
  refine gIconst (z := 3) A d19_187 rfl rfl ?_
  refine gIload A d19_188 rfl rfl ?_
  refine gI2L (z := (4 : Int64)) A d19_190 (by decide) rfl ?_
  refine wLdcL (v := (3 : Int64)) A d19_191 (ow112 hw) rfl ?_
  refine gLadd (z := (7 : Int64)) A d19_194 (by decide) rfl ?_
  refine wLdcL (v := (4 : Int64)) A d19_195 (ow113 hw) rfl ?_
  refine gLdiv (z := (1 : Int64)) A d19_198 (by decide) (by decide) rfl ?_
  refine gL2I (z := 1) A d19_199 (by decide) rfl ?_
  refine gImul (z := 3) A d19_200 (by decide) rfl ?_
  refine gIload A d19_201 rfl rfl ?_
  refine gIsub (z := 3) A d19_203 (by decide) rfl ?_
  exact wRetI (so := []) (t := .int) A d19_204 (by simp) rfl (by decide) (by decide) (fun _ q => nomatch q) ⟨rfl, rfl⟩
theorem d20_232 : Dc cN17 232 (.aload 4) 2 := by decide +kernel
theorem d20_234 : Dc cN17 234 (.iload 6) 2 := by decide +kernel
theorem d20_236 : Dc cN17 236 (.iinc 6 1) 3 := by decide +kernel
theorem d20_239 : Dc cN17 239 (.iload 7) 2 := by decide +kernel
theorem d20_241 : Dc cN17 241 (.bipush 16) 2 := by decide +kernel
theorem d20_243 : Dc cN17 243 (.ishr) 1 := by decide +kernel
theorem d20_244 : Dc cN17 244 (.i2b) 1 := by decide +kernel
theorem d20_245 : Dc cN17 245 (.bastore) 1 := by decide +kernel
theorem d20_246 : Dc cN17 246 (.aload 4) 2 := by decide +kernel
theorem d20_248 : Dc cN17 248 (.iload 6) 2 := by decide +kernel
theorem d20_250 : Dc cN17 250 (.iinc 6 1) 3 := by decide +kernel
theorem d20_253 : Dc cN17 253 (.iload 7) 2 := by decide +kernel
theorem d20_255 : Dc cN17 255 (.bipush 8) 2 := by decide +kernel
theorem d20_257 : Dc cN17 257 (.ishr) 1 := by decide +kernel
theorem d20_258 : Dc cN17 258 (.i2b) 1 := by decide +kernel
theorem d20_259 : Dc cN17 259 (.bastore) 1 := by decide +kernel
theorem d20_260 : Dc cN17 260 (.aload 4) 2 := by decide +kernel
theorem d20_262 : Dc cN17 262 (.iload 6) 2 := by decide +kernel
theorem d20_264 : Dc cN17 264 (.iinc 6 1) 3 := by decide +kernel
theorem d20_267 : Dc cN17 267 (.iload 7) 2 := by decide +kernel
theorem d20_269 : Dc cN17 269 (.i2b) 1 := by decide +kernel
theorem d20_270 : Dc cN17 270 (.bastore) 1 := by decide +kernel
theorem d20_271 : Dc cN17 271 (.bipush 18) 2 := by decide +kernel
theorem d20_273 : Dc cN17 273 (.istore 8) 2 := by decide +kernel
theorem d20_275 : Dc cN17 275 (.iconst 0) 1 := by decide +kernel
theorem d20_276 : Dc cN17 276 (.istore 7) 2 := by decide +kernel
theorem ob_d03 (hw : TH a0 Z) (hE : EW Z a0 consts_1) (dd sr : Addr) (ks : ClassId) (ds : Addr) (kds : ClassId) (tb : Addr) (ktb : ClassId) (v : Nat) (h : Heap) (hO : Ol Z h) (q0 : Exa Z h dd "java/util/Base64$Decoder") (q1 : Fld Z h dd "java/util/Base64$Decoder" "isURL" "Z" (.int 0)) (q2 : Fld Z h dd "java/util/Base64$Decoder" "isMIME" "Z" (.int 0)) (TS : (PTS Z tb)) (TA : (PTA Z tb ktb)) (q5 : Arv Z h sr ks .byte 4 (tx3 v) (.int 0)) (q6 : Arv Z h ds kds .byte 3 [.int 0, .int 0, .int 0] (.int 0)) (nsd : (sr ≠ ds)) (ntd : (tb ≠ ds)) (hv : (v < 16777216)) (ge_ds : Z.heap.size ≤ ds) :
 Ct l Z consts_1 mN19 cN17 11 (some .int) ⟨1, 0, 0, 40⟩ #[.ref dd, .ref sr, .int 0, .int 4, .ref ds] h [ds] (fun rv' hp' so' => rv' = some (.int 3) ∧ so' = [] ∧ Arv Z hp' ds kds .byte 3 [.int (sb (v / 65536)), .int (sb (v / 256)), .int (sb v)] (.int 0)) := by
  refine Ct.mk "java/util/Base64$Decoder" "decode0" rfl rfl (a0 := a0) (plainFor_of_name opn3) hO hE (fun x q => by simp at q; subst q; exact ge_ds) ?_
  intro K T W
  rw [oef14]
  refine gAloadN W d20_0 rfl rfl rfl ?_
  refine wGetF W d20_1 (ow107 hw) Via.refl q1 rfl fun _ F => ?_
  refine gIfYes (pc' := 13) F d20_4 ((if0 _ _).trans (teq (by decide)).1) (by decide) rfl ?_
  refine wGetS F d20_13 (ow109 hw) Via.refl TS rfl fun _ A => ?_
  refine gAstore (ls' := #[aR dd, aR sr, aI 0, aI 4, aR ds, aR tb, aU, aU, aU, aU, aU]) A d20_16 rfl rfl rfl ?_
  refine gIconst (z := 0) A d20_18 rfl rfl ?_
  refine gIstore (ls' := #[aR dd, aR sr, aI 0, aI 4, aR ds, aR tb, aI 0, aU, aU, aU, aU]) A d20_19 rfl rfl ?_
  refine gIconst (z := 0) A d20_21 rfl rfl ?_
  refine gIstore (ls' := #[aR dd, aR sr, aI 0, aI 4, aR ds, aR tb, aI 0, aI 0, aU, aU, aU]) A d20_22 rfl rfl ?_
  refine gBipush (z := 18) A d20_24 rfl rfl ?_
  refine gIstore (ls' := #[aR dd, aR sr, aI 0, aI 4, aR ds, aR tb, aI 0, aI 0, aI 18, aU, aU]) A d20_26 rfl rfl ?_
  refine gIloadN A d20_28 rfl rfl ?_
  refine gIloadN A d20_29 rfl rfl ?_
  refine gIcmpNo A d20_30 (tlt (by decide)).2.1 rfl ?_
  refine gIload A d20_33 rfl rfl ?_
  refine gBipush (z := 18) A d20_35 rfl rfl ?_
  refine gIcmpNo A d20_37 (teq (by decide)).2 rfl ?_
  refine gIloadN A d20_40 rfl rfl ?_
  refine gIloadN A d20_41 rfl rfl ?_
  refine gIconst (z := 4) A d20_42 rfl rfl ?_
  refine gIsub (z := 0) A d20_43 (by decide) rfl ?_
  refine gIcmpYes (pc' := 90) A d20_44 (flt (by decide)).2.1 (by decide) rfl ?_
  refine gIloadN A d20_90 rfl rfl ?_
  refine gIloadN A d20_91 rfl rfl ?_
  refine gIcmpYes (pc' := 98) A d20_92 (tlt (by decide)).1 (by decide) rfl ?_
  refine gAloadN A d20_98 rfl rfl rfl ?_
  refine gIloadN A d20_99 rfl rfl ?_
  refine gIinc (z := 1) (ls' := #[aR dd, aR sr, aI 1, aI 4, aR ds, aR tb, aI 0, aI 0, aI 18, aU, aU]) A d20_100 rfl (by decide) rfl rfl ?_
  refine wLdB (v := (.int (Int32.ofNat (symN (sx0 v))))) A d20_103 q5 (by decide) rfl rfl ?_
  refine gSipush (z := 255) A d20_104 rfl rfl ?_
  refine gIand (z := (Int32.ofNat (symN (sx0 v)))) A d20_107 (b8_of (symN_le _)).mask rfl ?_
  refine gIstore (ls' := #[aR dd, aR sr, aI 1, aI 4, aR ds, aR tb, aI 0, aI 0, aI 18, aI ((Int32.ofNat (symN (sx0 v)))), aU]) A d20_108 rfl rfl ?_
  refine gAload A d20_110 rfl rfl rfl ?_
  refine gIload A d20_112 rfl rfl ?_
  have E := TA.ext A.old.2
  refine wLdI (v := (.int (Int32.ofNat (sx0 v)))) A d20_114 E (ofNat_inb (n := 256) (Nat.lt_of_le_of_lt (symN_le _) (by decide)) (by decide)) (by rw [ofNat_clamp (Nat.lt_of_le_of_lt (symN_le _) (by decide))]; exact tab_at (sx0_lt _)) rfl ?_
  refine gDup A d20_115 rfl rfl ?_
  refine gIstore (ls' := #[aR dd, aR sr, aI 1, aI 4, aR ds, aR tb, aI 0, aI 0, aI 18, aI (Int32.ofNat (sx0 v)), aU]) A d20_116 rfl rfl ?_
  refine gIfYes (pc' := 214) A d20_118 ((if0 _ _).trans (flt (ofNat_nn (Nat.lt_trans (sx0_lt _) (by decide)))).2.1) (by decide) rfl ?_
  refine gIload A d20_214 rfl rfl ?_
  refine gIload A d20_216 rfl rfl ?_
  refine gIload A d20_218 rfl rfl ?_
  refine gIshl (z := (Int32.ofNat ((sx0 v) * 262144))) A d20_220 (shlN (k := 18) (by decide) (by decide) (by have := sx0_lt v; omega)) rfl ?_
  refine gIor (z := (Int32.ofNat ((sx0 v) * 262144))) A d20_221 (zor _) rfl ?_
  refine gIstore (ls' := #[aR dd, aR sr, aI 1, aI 4, aR ds, aR tb, aI 0, aI ((Int32.ofNat ((sx0 v) * 262144))), aI 18, aI (Int32.ofNat (sx0 v)), aU]) A d20_222 rfl rfl ?_
  refine gIinc (z := 12) (ls' := #[aR dd, aR sr, aI 1, aI 4, aR ds, aR tb, aI 0, aI ((Int32.ofNat ((sx0 v) * 262144))), aI 12, aI (Int32.ofNat (sx0 v)), aU]) A d20_224 rfl (by decide) rfl rfl ?_
  refine gIload A d20_227 rfl rfl ?_
  refine gIfYes (pc' := 278) A d20_229 ((if0 _ _).trans (flt (by decide)).2.1) (by decide) rfl ?_
  refine gGoto (pc' := 28) A d20_278 (by decide) rfl ?_
  refine gIloadN A d20_28 rfl rfl ?_
  refine gIloadN A d20_29 rfl rfl ?_
  refine gIcmpNo A d20_30 (tlt (by decide)).2.1 rfl ?_
  refine gIload A d20_33 rfl rfl ?_
  refine gBipush (z := 18) A d20_35 rfl rfl ?_
  refine gIcmpYes (pc' := 90) A d20_37 (feq (by decide)).2 (by decide) rfl ?_
  refine gIloadN A d20_90 rfl rfl ?_
  refine gIloadN A d20_91 rfl rfl ?_
  refine gIcmpYes (pc' := 98) A d20_92 (tlt (by decide)).1 (by decide) rfl ?_
  refine gAloadN A d20_98 rfl rfl rfl ?_
  refine gIloadN A d20_99 rfl rfl ?_
  refine gIinc (z := 2) (ls' := #[aR dd, aR sr, aI 2, aI 4, aR ds, aR tb, aI 0, aI ((Int32.ofNat ((sx0 v) * 262144))), aI 12, aI (Int32.ofNat (sx0 v)), aU]) A d20_100 rfl (by decide) rfl rfl ?_
  refine wLdB (v := (.int (Int32.ofNat (symN (sx1 v))))) A d20_103 q5 (by decide) rfl rfl ?_
  refine gSipush (z := 255) A d20_104 rfl rfl ?_
  refine gIand (z := (Int32.ofNat (symN (sx1 v)))) A d20_107 (b8_of (symN_le _)).mask rfl ?_
  refine gIstore (ls' := #[aR dd, aR sr, aI 2, aI 4, aR ds, aR tb, aI 0, aI ((Int32.ofNat ((sx0 v) * 262144))), aI 12, aI ((Int32.ofNat (symN (sx1 v)))), aU]) A d20_108 rfl rfl ?_
  refine gAload A d20_110 rfl rfl rfl ?_
  refine gIload A d20_112 rfl rfl ?_
  refine wLdI (v := (.int (Int32.ofNat (sx1 v)))) A d20_114 E (ofNat_inb (n := 256) (Nat.lt_of_le_of_lt (symN_le _) (by decide)) (by decide)) (by rw [ofNat_clamp (Nat.lt_of_le_of_lt (symN_le _) (by decide))]; exact tab_at (sx1_lt _)) rfl ?_
  refine gDup A d20_115 rfl rfl ?_
  refine gIstore (ls' := #[aR dd, aR sr, aI 2, aI 4, aR ds, aR tb, aI 0, aI ((Int32.ofNat ((sx0 v) * 262144))), aI 12, aI (Int32.ofNat (sx1 v)), aU]) A d20_116 rfl rfl ?_
  refine gIfYes (pc' := 214) A d20_118 ((if0 _ _).trans (flt (ofNat_nn (Nat.lt_trans (sx1_lt _) (by decide)))).2.1) (by decide) rfl ?_
  refine gIload A d20_214 rfl rfl ?_
  refine gIload A d20_216 rfl rfl ?_
  refine gIload A d20_218 rfl rfl ?_
  refine gIshl (z := (Int32.ofNat ((sx1 v) * 4096))) A d20_220 (shlN (k := 12) (by decide) (by decide) (by have := sx1_lt v; omega)) rfl ?_
  refine gIor (z := (Int32.ofNat ((sx0 v) * 262144 + (sx1 v) * 4096))) A d20_221 (or18 v) rfl ?_
  refine gIstore (ls' := #[aR dd, aR sr, aI 2, aI 4, aR ds, aR tb, aI 0, aI ((Int32.ofNat ((sx0 v) * 262144 + (sx1 v) * 4096))), aI 12, aI (Int32.ofNat (sx1 v)), aU]) A d20_222 rfl rfl ?_
  refine gIinc (z := 6) (ls' := #[aR dd, aR sr, aI 2, aI 4, aR ds, aR tb, aI 0, aI ((Int32.ofNat ((sx0 v) * 262144 + (sx1 v) * 4096))), aI 6, aI (Int32.ofNat (sx1 v)), aU]) A d20_224 rfl (by decide) rfl rfl ?_
  refine gIload A d20_227 rfl rfl ?_
  refine gIfYes (pc' := 278) A d20_229 ((if0 _ _).trans (flt (by decide)).2.1) (by decide) rfl ?_
  refine gGoto (pc' := 28) A d20_278 (by decide) rfl ?_
  refine gIloadN A d20_28 rfl rfl ?_
  refine gIloadN A d20_29 rfl rfl ?_
  refine gIcmpNo A d20_30 (tlt (by decide)).2.1 rfl ?_
  refine gIload A d20_33 rfl rfl ?_
  refine gBipush (z := 18) A d20_35 rfl rfl ?_
  refine gIcmpYes (pc' := 90) A d20_37 (feq (by decide)).2 (by decide) rfl ?_
  refine gIloadN A d20_90 rfl rfl ?_
  refine gIloadN A d20_91 rfl rfl ?_
  refine gIcmpYes (pc' := 98) A d20_92 (tlt (by decide)).1 (by decide) rfl ?_
  refine gAloadN A d20_98 rfl rfl rfl ?_
  refine gIloadN A d20_99 rfl rfl ?_
  refine gIinc (z := 3) (ls' := #[aR dd, aR sr, aI 3, aI 4, aR ds, aR tb, aI 0, aI ((Int32.ofNat ((sx0 v) * 262144 + (sx1 v) * 4096))), aI 6, aI (Int32.ofNat (sx1 v)), aU]) A d20_100 rfl (by decide) rfl rfl ?_
  refine wLdB (v := (.int (Int32.ofNat (symN (sx2 v))))) A d20_103 q5 (by decide) rfl rfl ?_
  refine gSipush (z := 255) A d20_104 rfl rfl ?_
  refine gIand (z := (Int32.ofNat (symN (sx2 v)))) A d20_107 (b8_of (symN_le _)).mask rfl ?_
  refine gIstore (ls' := #[aR dd, aR sr, aI 3, aI 4, aR ds, aR tb, aI 0, aI ((Int32.ofNat ((sx0 v) * 262144 + (sx1 v) * 4096))), aI 6, aI ((Int32.ofNat (symN (sx2 v)))), aU]) A d20_108 rfl rfl ?_
  refine gAload A d20_110 rfl rfl rfl ?_
  refine gIload A d20_112 rfl rfl ?_
  refine wLdI (v := (.int (Int32.ofNat (sx2 v)))) A d20_114 E (ofNat_inb (n := 256) (Nat.lt_of_le_of_lt (symN_le _) (by decide)) (by decide)) (by rw [ofNat_clamp (Nat.lt_of_le_of_lt (symN_le _) (by decide))]; exact tab_at (sx2_lt _)) rfl ?_
  refine gDup A d20_115 rfl rfl ?_
  refine gIstore (ls' := #[aR dd, aR sr, aI 3, aI 4, aR ds, aR tb, aI 0, aI ((Int32.ofNat ((sx0 v) * 262144 + (sx1 v) * 4096))), aI 6, aI (Int32.ofNat (sx2 v)), aU]) A d20_116 rfl rfl ?_
  refine gIfYes (pc' := 214) A d20_118 ((if0 _ _).trans (flt (ofNat_nn (Nat.lt_trans (sx2_lt _) (by decide)))).2.1) (by decide) rfl ?_
  refine gIload A d20_214 rfl rfl ?_
  refine gIload A d20_216 rfl rfl ?_
  refine gIload A d20_218 rfl rfl ?_
  refine gIshl (z := (Int32.ofNat ((sx2 v) * 64))) A d20_220 (shlN (k := 6) (by decide) (by decide) (by have := sx2_lt v; omega)) rfl ?_
  refine gIor (z := (Int32.ofNat ((sx0 v) * 262144 + (sx1 v) * 4096 + (sx2 v) * 64))) A d20_221 (or12 v) rfl ?_
  refine gIstore (ls' := #[aR dd, aR sr, aI 3, aI 4, aR ds, aR tb, aI 0, aI ((Int32.ofNat ((sx0 v) * 262144 + (sx1 v) * 4096 + (sx2 v) * 64))), aI 6, aI (Int32.ofNat (sx2 v)), aU]) A d20_222 rfl rfl ?_
  refine gIinc (z := 0) (ls' := #[aR dd, aR sr, aI 3, aI 4, aR ds, aR tb, aI 0, aI ((Int32.ofNat ((sx0 v) * 262144 + (sx1 v) * 4096 + (sx2 v) * 64))), aI 0, aI (Int32.ofNat (sx2 v)), aU]) A d20_224 rfl (by decide) rfl rfl ?_
  refine gIload A d20_227 rfl rfl ?_
  refine gIfYes (pc' := 278) A d20_229 ((if0 _ _).trans (flt (by decide)).2.1) (by decide) rfl ?_
  refine gGoto (pc' := 28) A d20_278 (by decide) rfl ?_
  refine gIloadN A d20_28 rfl rfl ?_
  refine gIloadN A d20_29 rfl rfl ?_
  refine gIcmpNo A d20_30 (tlt (by decide)).2.1 rfl ?_
  refine gIload A d20_33 rfl rfl ?_
  refine gBipush (z := 18) A d20_35 rfl rfl ?_
  refine gIcmpYes (pc' := 90) A d20_37 (feq (by decide)).2 (by decide) rfl ?_
  refine gIloadN A d20_90 rfl rfl ?_
  refine gIloadN A d20_91 rfl rfl ?_
  refine gIcmpYes (pc' := 98) A d20_92 (tlt (by decide)).1 (by decide) rfl ?_
  refine gAloadN A d20_98 rfl rfl rfl ?_
  refine gIloadN A d20_99 rfl rfl ?_
  refine gIinc (z := 4) (ls' := #[aR dd, aR sr, aI 4, aI 4, aR ds, aR tb, aI 0, aI ((Int32.ofNat ((sx0 v) * 262144 + (sx1 v) * 4096 + (sx2 v) * 64))), aI 0, aI (Int32.ofNat (sx2 v)), aU]) A d20_100 rfl (by decide) rfl rfl ?_
  refine wLdB (v := (.int (Int32.ofNat (symN (sx3 v))))) A d20_103 q5 (by decide) rfl rfl ?_
  refine gSipush (z := 255) A d20_104 rfl rfl ?_
  refine gIand (z := (Int32.ofNat (symN (sx3 v)))) A d20_107 (b8_of (symN_le _)).mask rfl ?_
  refine gIstore (ls' := #[aR dd, aR sr, aI 4, aI 4, aR ds, aR tb, aI 0, aI ((Int32.ofNat ((sx0 v) * 262144 + (sx1 v) * 4096 + (sx2 v) * 64))), aI 0, aI ((Int32.ofNat (symN (sx3 v)))), aU]) A d20_108 rfl rfl ?_
  refine gAload A d20_110 rfl rfl rfl ?_
  refine gIload A d20_112 rfl rfl ?_
  refine wLdI (v := (.int (Int32.ofNat (sx3 v)))) A d20_114 E (ofNat_inb (n := 256) (Nat.lt_of_le_of_lt (symN_le _) (by decide)) (by decide)) (by rw [ofNat_clamp (Nat.lt_of_le_of_lt (symN_le _) (by decide))]; exact tab_at (sx3_lt _)) rfl ?_
  refine gDup A d20_115 rfl rfl ?_
  refine gIstore (ls' := #[aR dd, aR sr, aI 4, aI 4, aR ds, aR tb, aI 0, aI ((Int32.ofNat ((sx0 v) * 262144 + (sx1 v) * 4096 + (sx2 v) * 64))), aI 0, aI (Int32.ofNat (sx3 v)), aU]) A d20_116 rfl rfl ?_
  refine gIfYes (pc' := 214) A d20_118 ((if0 _ _).trans (flt (ofNat_nn (Nat.lt_trans (sx3_lt _) (by decide)))).2.1) (by decide) rfl ?_
  refine gIload A d20_214 rfl rfl ?_
  refine gIload A d20_216 rfl rfl ?_
  refine gIload A d20_218 rfl rfl ?_
  refine gIshl (z := (Int32.ofNat (sx3 v))) A d20_220 (shl0' _) rfl ?_
  refine gIor (z := (Int32.ofNat v)) A d20_221 (or6 hv) rfl ?_
  refine gIstore (ls' := #[aR dd, aR sr, aI 4, aI 4, aR ds, aR tb, aI 0, aI (Int32.ofNat v), aI 0, aI (Int32.ofNat (sx3 v)), aU]) A d20_222 rfl rfl ?_
  refine gIinc (z := (-6)) (ls' := #[aR dd, aR sr, aI 4, aI 4, aR ds, aR tb, aI 0, aI (Int32.ofNat v), aI (-6), aI (Int32.ofNat (sx3 v)), aU]) A d20_224 rfl (by decide) rfl rfl ?_
  refine gIload A d20_227 rfl rfl ?_
  refine gIfNo A d20_229 ((if0 _ _).trans (tlt (by decide)).2.1) rfl ?_
  refine gAload A d20_232 rfl rfl rfl ?_
  refine gIload A d20_234 rfl rfl ?_
  refine gIinc (z := 1) (ls' := #[aR dd, aR sr, aI 4, aI 4, aR ds, aR tb, aI 1, aI (Int32.ofNat v), aI (-6), aI (Int32.ofNat (sx3 v)), aU]) A d20_236 rfl (by decide) rfl rfl ?_
  refine gIload A d20_239 rfl rfl ?_
  refine gBipush (z := 16) A d20_241 rfl rfl ?_
  refine gIshr (z := (Int32.ofNat (v / 65536))) A d20_243 (shrN (k := 16) (by decide) (by decide) (by omega)) rfl ?_
  refine gI2B (z := (sb (v / 65536))) A d20_244 rfl rfl ?_
  refine wStB (y := (sb (v / 65536))) A d20_245 (by simp) q6 (by decide) (sb_idem _) 0 (by decide) (show 0 < 3 from by decide) rfl fun _ G C _ H => ?_
  have I : Arv Z G ds kds .byte 3 [.int (sb (v / 65536)), .int 0, .int 0] (.int 0) := H
  refine gAload C d20_246 rfl rfl rfl ?_
  refine gIload C d20_248 rfl rfl ?_
  refine gIinc (z := 2) (ls' := #[aR dd, aR sr, aI 4, aI 4, aR ds, aR tb, aI 2, aI (Int32.ofNat v), aI (-6), aI (Int32.ofNat (sx3 v)), aU]) C d20_250 rfl (by decide) rfl rfl ?_
  refine gIload C d20_253 rfl rfl ?_
  refine gBipush (z := 8) C d20_255 rfl rfl ?_
  refine gIshr (z := (Int32.ofNat (v / 256))) C d20_257 (shrN (k := 8) (by decide) (by decide) (by omega)) rfl ?_
  refine gI2B (z := (sb (v / 256))) C d20_258 rfl rfl ?_
  refine wStB (y := (sb (v / 256))) C d20_259 (by simp) I (by decide) (sb_idem _) 1 (by decide) (show 1 < 3 from by decide) rfl fun _ J D _ L => ?_
  have M : Arv Z J ds kds .byte 3 [.int (sb (v / 65536)), .int (sb (v / 256)), .int 0] (.int 0) := L
  refine gAload D d20_260 rfl rfl rfl ?_
  refine gIload D d20_262 rfl rfl ?_
  refine gIinc (z := 3) (ls' := #[aR dd, aR sr, aI 4, aI 4, aR ds, aR tb, aI 3, aI (Int32.ofNat v), aI (-6), aI (Int32.ofNat (sx3 v)), aU]) D d20_264 rfl (by decide) rfl rfl ?_
  refine gIload D d20_267 rfl rfl ?_
  refine gI2B (z := (sb v)) D d20_269 rfl rfl ?_
  refine wStB (y := (sb v)) D d20_270 (by simp) M (by decide) (sb_idem _) 2 (by decide) (show 2 < 3 from by decide) rfl fun _ N B _ O => ?_
  have P : Arv Z N ds kds .byte 3 [.int (sb (v / 65536)), .int (sb (v / 256)), .int (sb v)] (.int 0) := O
  refine gBipush (z := 18) B d20_271 rfl rfl ?_
  refine gIstore (ls' := #[aR dd, aR sr, aI 4, aI 4, aR ds, aR tb, aI 3, aI (Int32.ofNat v), aI 18, aI (Int32.ofNat (sx3 v)), aU]) B d20_273 rfl rfl ?_
  refine gIconst (z := 0) B d20_275 rfl rfl ?_
  refine gIstore (ls' := #[aR dd, aR sr, aI 4, aI 4, aR ds, aR tb, aI 3, aI 0, aI 18, aI (Int32.ofNat (sx3 v)), aU]) B d20_276 rfl rfl ?_
  refine gGoto (pc' := 28) B d20_278 (by decide) rfl ?_
  refine gIloadN B d20_28 rfl rfl ?_
  refine gIloadN B d20_29 rfl rfl ?_
  refine gIcmpYes (pc' := 281) B d20_30 (flt (by decide)).2.1 (by decide) rfl ?_
  refine gIload B d20_281 rfl rfl ?_
  refine gBipush (z := 6) B d20_283 rfl rfl ?_
  refine gIcmpYes (pc' := 305) B d20_285 (feq (by decide)).2 (by decide) rfl ?_
  refine gIload B d20_305 rfl rfl ?_
  refine gIfYes (pc' := 341) B d20_307 ((if0 _ _).trans (feq (by decide)).2) (by decide) rfl ?_
  refine gIload B d20_341 rfl rfl ?_
  refine gBipush (z := 12) B d20_343 rfl rfl ?_
  refine gIcmpYes (pc' := 358) B d20_345 (feq (by decide)).2 (by decide) rfl ?_
  refine gIloadN B d20_358 rfl rfl ?_
  refine gIloadN B d20_359 rfl rfl ?_
  refine gIcmpYes (pc' := 416) B d20_360 (flt (by decide)).2.1 (by decide) rfl ?_
  refine gIload B d20_416 rfl rfl ?_
  exact wRetI (so := []) (t := .int) B d20_418 (by simp) rfl (by decide) (by decide) (fun _ q => nomatch q) ⟨rfl, rfl, P⟩
theorem ob_dec3 (hw : TH a0 Z) (hE : EW Z a0 consts_1) (dd sr : Addr) (ks : ClassId) (tb : Addr) (ktb : ClassId) (v : Nat) (h : Heap) (hO : Ol Z h) (q0 : Exa Z h dd "java/util/Base64$Decoder") (q1 : Fld Z h dd "java/util/Base64$Decoder" "isURL" "Z" (.int 0)) (q2 : Fld Z h dd "java/util/Base64$Decoder" "isMIME" "Z" (.int 0)) (TS : (PTS Z tb)) (TA : (PTA Z tb ktb)) (q5 : Arv Z h sr ks .byte 4 (tx3 v) (.int 0)) (hv : (v < 16777216)) :
 Ct l Z consts_1 mN20 cN18 4 (some (.array .byte)) ⟨2, 1, 6, 70⟩ #[.ref dd, .ref sr] h [] (fun rv' hp' so' => ∃ r : Addr, ∃ kr : ClassId, rv' = some (.ref r) ∧ so' = [] ∧ (h.size ≤ r) ∧ Arv Z hp' r kr .byte 3 [.int (sb (v / 65536)), .int (sb (v / 256)), .int (sb v)] (.int 0)) := by
  refine Ct.mk "java/util/Base64$Decoder" "decode" rfl rfl (a0 := a0) (plainFor_of_name opn3) hO hE (fun x q => nomatch q) ?_
  intro K T W
  rw [oef15]
  refine gAloadN W d18_0 rfl rfl rfl ?_
  refine gAloadN W d18_1 rfl rfl rfl ?_
  refine gIconst (z := 0) W d18_2 rfl rfl ?_
  refine gAloadN W d18_3 rfl rfl rfl ?_
  refine wLen W d18_4 q5 rfl ?_
  refine wPrivate (y := mN18) (Wd := 0) (a := dd) (argsL := [.ref sr, .int 0, .int 4]) (rest := []) W d18_5 (ow102 hw) (ow103 hw) (ow105 hw) (ow104 hw) (ow106 hw) (by decide) (Cb.ct (ob_ol3 hw hE dd sr ks tb ktb v h W.old q0 q1 q2 TS TA q5) (ow106 hw) (ow58 hw) hE (by decide) (by decide)) q0 (by simp) rfl (lenOf opd9 rfl) rfl (Nat.le_of_eq rfl) (by decide) (by decide) rfl fun _ _ _ _ D E _ O => ?_
  obtain ⟨rfl, rfl⟩ := O
  show Go K _ _ _ _ [.int 3]
  refine wNewP (cap := 3) D d18_8 (ow1 hw) (by decide) (by decide) (by decide) (by decide) (by decide) rfl fun _ I B H A F G P => ?_
  have Q : Arv Z I B H .byte 3 [.int 0, .int 0, .int 0] (.int 0) := P 3
  refine gAstoreN (ls' := #[aR dd, aR sr, aR B, aU]) A d18_10 rfl rfl rfl ?_
  refine gAloadN A d18_11 rfl rfl rfl ?_
  refine gAloadN A d18_12 rfl rfl rfl ?_
  refine gIconst (z := 0) A d18_13 rfl rfl ?_
  refine gAloadN A d18_14 rfl rfl rfl ?_
  have J := q5.keep E nin0
  have L := J.ext F
  refine wLen A d18_15 L rfl ?_
  refine gAloadN A d18_16 rfl rfl rfl ?_
  have R : sr ≠ B := Nat.ne_of_lt (Nat.lt_of_lt_of_le J.lt (Nat.le_of_eq G.symm))
  have S := q0.keep E
  have M := S.ext F
  have U := q1.keep E nin0
  have V := U.ext F
  have X := q2.keep E nin0
  have Y := X.ext F
  refine wPrivate (y := mN19) (Wd := 0) (a := dd) (argsL := [.ref sr, .int 0, .int 4, .ref B]) (rest := []) A d18_17 (ow114 hw) (ow115 hw) (ow117 hw) (ow116 hw) (ow118 hw) (by decide) (Cb.ct (ob_d03 hw hE dd sr ks B H tb ktb v I A.old M V Y TS TA L Q R (Nat.ne_of_lt (Nat.lt_of_lt_of_le TA.lt (Nat.le_trans D.old.2.1 (Nat.le_of_eq G.symm)))) hv (Nat.le_trans D.old.2.1 (Nat.le_of_eq G.symm))) (ow118 hw) (ow58 hw) hE (by decide) (by decide)) M (by simp) rfl (lenOf opd10 rfl) rfl (Nat.le_of_eq rfl) (by decide) (by decide) rfl fun _ _ _ _ C _ _ Aa => ?_
  obtain ⟨rfl, rfl, N⟩ := Aa
  show Go K _ _ _ _ [.int 3]
  refine gIstoreN (ls' := #[aR dd, aR sr, aR B, aI 3]) C d18_20 rfl rfl ?_
  refine gIloadN C d18_21 rfl rfl ?_
  refine gAloadN C d18_22 rfl rfl rfl ?_
  refine wLen C d18_23 N rfl ?_
  refine gIcmpYes (pc' := 33) C d18_24 (teq (by decide)).1 (by decide) rfl ?_
  refine gAloadN C d18_33 rfl rfl rfl ?_
  exact wRetA (so := []) (t := .array .byte) C d18_34 rfl rfl rfl (by decide) (by decide) (fun _ q => nomatch q) ⟨B, H, rfl, rfl, (Nat.le_trans D.grow (Nat.le_of_eq G.symm)), N⟩
theorem ob_dcS3 (hw : TH a0 Z) (hE : EW Z a0 consts_1) (dd s u : Addr) (ku : ClassId) (z : Int32) (iso u8 tb : Addr) (ktb : ClassId) (v : Nat) (h : Heap) (hO : Ol Z h) (SC : (PSC Z z)) (hz : (¬ z = 0)) (SI : (PSI Z iso)) (SU : (PSU Z u8)) (niu : (iso ≠ u8)) (q5 : Exa Z h dd "java/util/Base64$Decoder") (q6 : Fld Z h dd "java/util/Base64$Decoder" "isURL" "Z" (.int 0)) (q7 : Fld Z h dd "java/util/Base64$Decoder" "isMIME" "Z" (.int 0)) (TS : (PTS Z tb)) (TA : (PTA Z tb ktb)) (q10 : Exa Z h s "java/lang/String") (q11 : Fld Z h s "java/lang/String" "value" "[B" (.ref u)) (q12 : Fld Z h s "java/lang/String" "coder" "B" (.int 0)) (q13 : Arv Z h u ku .byte 4 (tx3 v) (.int 0)) (q14 : Exa Z h u "[B") (hv : (v < 16777216)) :
 Ct l Z consts_1 mN21 cN19 2 (some (.array .byte)) ⟨5, 2, 14, 95⟩ #[.ref dd, .ref s] h [] (fun rv' hp' so' => ∃ r : Addr, ∃ kr : ClassId, rv' = some (.ref r) ∧ so' = [] ∧ (h.size ≤ r) ∧ Arv Z hp' r kr .byte 3 [.int (sb (v / 65536)), .int (sb (v / 256)), .int (sb v)] (.int 0)) := by
  refine Ct.mk "java/util/Base64$Decoder" "decode" rfl rfl (a0 := a0) (plainFor_of_name opn3) hO hE (fun x q => nomatch q) ?_
  intro K T W
  rw [oef8]
  refine gAloadN W d12_0 rfl rfl rfl ?_
  refine gAloadN W d12_1 rfl rfl rfl ?_
  refine wGetS W d12_2 (ow64 hw) Via.refl SI rfl fun _ D => ?_
  refine wVirtual (y := mN17) (z := mN17) (Wd := 1) (a := s) (argsL := [.ref iso]) (rest := [.ref dd]) D d12_5 (ow66 hw) (ow67 hw) (ow69 hw) (ow68 hw) (nfS (ow69 hw)) (by decide) (Cb.ct (ob_gb hw hE s z iso u8 u ku 4 (tx3 v) h D.old SC hz SI SU niu q10 q11 q12 q13 q14 (by decide)) (ow70 hw) (ow15 hw) hE (by decide) (by decide)) q10 (by simp) rfl (lenOf opd11 rfl) rfl (Nat.le_of_eq rfl) (by decide) (by decide) rfl fun _ _ _ E B C _ H => ?_
  obtain ⟨A, rfl, rfl, _, I⟩ := H
  show Go K _ _ _ _ [.ref A, .ref dd]
  have J : Arv Z E A ku .byte 4 (tx3 v) (.int 0) := I
  have F := q5.keep C
  have L := q6.keep C nin0
  have M := q7.keep C nin0
  refine wVirtual (y := mN20) (z := mN20) (Wd := 0) (a := dd) (argsL := [.ref A]) (rest := []) B d12_8 (ow97 hw) (ow98 hw) (ow100 hw) (ow99 hw) (nfS (ow100 hw)) (by decide) (Cb.ct (ob_dec3 hw hE dd A ku tb ktb v E B.old F L M TS TA J hv) (ow101 hw) (ow58 hw) hE (by decide) (by decide)) F (by simp) rfl (lenOf opd12 rfl) rfl (Nat.le_of_eq rfl) (by decide) (by decide) rfl fun _ _ _ _ N _ _ O => ?_
  obtain ⟨G, P, rfl, rfl, Q, R⟩ := O
  show Go K _ _ _ _ [.ref G]
  exact wRetA (so := []) (t := .array .byte) N d12_11 rfl rfl rfl (by decide) (by decide) (fun _ q => nomatch q) ⟨G, P, rfl, rfl, (Nat.le_trans B.grow Q), R⟩
theorem ob_ol4 (hw : TH a0 Z) (hE : EW Z a0 consts_1) (dd sr : Addr) (ks : ClassId) (tb : Addr) (ktb : ClassId) (v g : Nat) (h : Heap) (hO : Ol Z h) (q0 : Exa Z h dd "java/util/Base64$Decoder") (q1 : Fld Z h dd "java/util/Base64$Decoder" "isURL" "Z" (.int 0)) (q2 : Fld Z h dd "java/util/Base64$Decoder" "isMIME" "Z" (.int 0)) (TS : (PTS Z tb)) (TA : (PTA Z tb ktb)) (q5 : Arv Z h sr ks .byte 8 (tx4 v g) (.int 0)) :
 Ct l Z consts_1 mN18 cN16 9 (some .int) ⟨0, 0, 0, 0⟩ #[.ref dd, .ref sr, .int 0, .int 8] h [] (fun rv' hp' so' => rv' = some (.int 4) ∧ so' = []) := by
  refine Ct.mk "java/util/Base64$Decoder" "decodedOutLength" rfl rfl (a0 := a0) (plainFor_of_name opn3) hO hE (fun x q => nomatch q) ?_
  intro K T W
  rw [oef13]
  refine gAloadN W d19_0 rfl rfl rfl ?_
  refine wGetF W d19_1 (ow107 hw) Via.refl q1 rfl fun _ C => ?_
  refine gIfYes (pc' := 13) C d19_4 ((if0 _ _).trans (teq (by decide)).1) (by decide) rfl ?_
  refine wGetS C d19_13 (ow109 hw) Via.refl TS rfl fun _ B => ?_
  refine gAstore (ls' := #[aR dd, aR sr, aI 0, aI 8, aR tb, aU, aU, aU, aU]) B d19_16 rfl rfl rfl ?_
  refine gIconst (z := 0) B d19_18 rfl rfl ?_
  refine gIstore (ls' := #[aR dd, aR sr, aI 0, aI 8, aR tb, aI 0, aU, aU, aU]) B d19_19 rfl rfl ?_
  refine gIloadN B d19_21 rfl rfl ?_
  refine gIloadN B d19_22 rfl rfl ?_
  refine gIsub (z := 8) B d19_23 (by decide) rfl ?_
  refine gIstore (ls' := #[aR dd, aR sr, aI 0, aI 8, aR tb, aI 0, aI 8, aU, aU]) B d19_24 rfl rfl ?_
  refine gIload B d19_26 rfl rfl ?_
  refine gIfYes (pc' := 33) B d19_28 ((if0 _ _).trans (feq (by decide)).2) (by decide) rfl ?_
  refine gIload B d19_33 rfl rfl ?_
  refine gIconst (z := 2) B d19_35 rfl rfl ?_
  refine gIcmpYes (pc' := 66) B d19_36 (flt (by decide)).2.1 (by decide) rfl ?_
  refine gAloadN B d19_66 rfl rfl rfl ?_
  refine wGetF B d19_67 (ow110 hw) Via.refl q2 rfl fun _ A => ?_
  refine gIfYes (pc' := 141) A d19_70 ((if0 _ _).trans (teq (by decide)).1) (by decide) rfl ?_
  refine gAloadN A d19_141 rfl rfl rfl ?_
  refine gIloadN A d19_142 rfl rfl ?_
  refine gIconst (z := 1) A d19_143 rfl rfl ?_
  refine gIsub (z := 7) A d19_144 (by decide) rfl ?_
  refine wLdB (v := (.int 61)) A d19_145 q5 (by decide) rfl rfl ?_
  refine gBipush (z := 61) A d19_146 rfl rfl ?_
  refine gIcmpNo A d19_148 (teq (by decide)).2 rfl ?_
  refine gIinc (z := 1) (ls' := #[aR dd, aR sr, aI 0, aI 8, aR tb, aI 1, aI 8, aU, aU]) A d19_151 rfl (by decide) rfl rfl ?_
  refine gAloadN A d19_154 rfl rfl rfl ?_
  refine gIloadN A d19_155 rfl rfl ?_
  refine gIconst (z := 2) A d19_156 rfl rfl ?_
  refine gIsub (z := 6) A d19_157 (by decide) rfl ?_
  refine wLdB (v := (.int 61)) A d19_158 q5 (by decide) rfl rfl ?_
  refine gBipush (z := 61) A d19_159 rfl rfl ?_
  refine gIcmpNo A d19_161 (teq (by decide)).2 rfl ?_
  refine gIinc (z := 2) (ls' := #[aR dd, aR sr, aI 0, aI 8, aR tb, aI 2, aI 8, aU, aU]) A d19_164 rfl (by decide) rfl rfl ?_
  refine gIload A d19_167 rfl rfl ?_
  refine gIfYes (pc' := 187) A d19_169 ((if0 _ _).trans (feq (by decide)).2) (by decide) rfl ?_
  refine gIconst (z := 3) A d19_187 rfl rfl ?_
  refine gIload A d19_188 rfl rfl ?_
  refine gI2L (z := (8 : Int64)) A d19_190 (by decide) rfl ?_
  refine wLdcL (v := (3 : Int64)) A d19_191 (ow112 hw) rfl ?_
  refine gLadd (z := (11 : Int64)) A d19_194 (by decide) rfl ?_
  refine wLdcL (v := (4 : Int64)) A d19_195 (ow113 hw) rfl ?_
  refine gLdiv (z := (2 : Int64)) A d19_198 (by decide) (by decide) rfl ?_
  refine gL2I (z := 2) A d19_199 (by decide) rfl ?_
  refine gImul (z := 6) A d19_200 (by decide) rfl ?_
  refine gIload A d19_201 rfl rfl ?_
  refine gIsub (z := 4) A d19_203 (by decide) rfl ?_
  exact wRetI (so := []) (t := .int) A d19_204 (by simp) rfl (by decide) (by decide) (fun _ q => nomatch q) ⟨rfl, rfl⟩
abbrev mN22 : MethodName := (⟨"java/util/Base64$Decoder", "decodeBlock", "([BII[BIZZ)I"⟩ : MethodName)
abbrev cN20 := jdk_2450_method_8_code
theorem d39_0 : Dc cN20 0 (.iload 6) 2 := by decide +kernel
theorem d39_2 : Dc cN20 2 (.ifCond .eq 9) 3 := by decide +kernel
theorem d39_11 : Dc cN20 11 (.getstatic 99) 3 := by decide +kernel
theorem d39_14 : Dc cN20 14 (.astore 8) 2 := by decide +kernel
theorem d39_16 : Dc cN20 16 (.iload_n 2) 1 := by decide +kernel
theorem d39_17 : Dc cN20 17 (.iload_n 3) 1 := by decide +kernel
theorem d39_18 : Dc cN20 18 (.iload_n 2) 1 := by decide +kernel
theorem d39_19 : Dc cN20 19 (.isub) 1 := by decide +kernel
theorem d39_20 : Dc cN20 20 (.bipush (-4)) 2 := by decide +kernel
theorem d39_22 : Dc cN20 22 (.iand) 1 := by decide +kernel
theorem d39_23 : Dc cN20 23 (.iadd) 1 := by decide +kernel
theorem d39_24 : Dc cN20 24 (.istore 9) 2 := by decide +kernel
theorem d39_26 : Dc cN20 26 (.iload 5) 2 := by decide +kernel
theorem d39_28 : Dc cN20 28 (.istore 10) 2 := by decide +kernel
theorem d39_30 : Dc cN20 30 (.iload_n 2) 1 := by decide +kernel
theorem d39_31 : Dc cN20 31 (.iload 9) 2 := by decide +kernel
theorem d39_33 : Dc cN20 33 (.if_icmp .ge 147) 3 := by decide +kernel
theorem d39_36 : Dc cN20 36 (.aload 8) 2 := by decide +kernel
theorem d39_38 : Dc cN20 38 (.aload_n 1) 1 := by decide +kernel
theorem d39_39 : Dc cN20 39 (.iload_n 2) 1 := by decide +kernel
theorem d39_40 : Dc cN20 40 (.iinc 2 1) 3 := by decide +kernel
theorem d39_43 : Dc cN20 43 (.baload) 1 := by decide +kernel
theorem d39_44 : Dc cN20 44 (.sipush 255) 3 := by decide +kernel
theorem d39_47 : Dc cN20 47 (.iand) 1 := by decide +kernel
theorem d39_48 : Dc cN20 48 (.iaload) 1 := by decide +kernel
theorem d39_49 : Dc cN20 49 (.istore 11) 2 := by decide +kernel
theorem d39_51 : Dc cN20 51 (.aload 8) 2 := by decide +kernel
theorem d39_53 : Dc cN20 53 (.aload_n 1) 1 := by decide +kernel
theorem d39_54 : Dc cN20 54 (.iload_n 2) 1 := by decide +kernel
theorem d39_55 : Dc cN20 55 (.iinc 2 1) 3 := by decide +kernel
theorem d39_58 : Dc cN20 58 (.baload) 1 := by decide +kernel
theorem d39_59 : Dc cN20 59 (.sipush 255) 3 := by decide +kernel
theorem d39_62 : Dc cN20 62 (.iand) 1 := by decide +kernel
theorem d39_63 : Dc cN20 63 (.iaload) 1 := by decide +kernel
theorem d39_64 : Dc cN20 64 (.istore 12) 2 := by decide +kernel
theorem d39_66 : Dc cN20 66 (.aload 8) 2 := by decide +kernel
theorem d39_68 : Dc cN20 68 (.aload_n 1) 1 := by decide +kernel
theorem d39_69 : Dc cN20 69 (.iload_n 2) 1 := by decide +kernel
theorem d39_70 : Dc cN20 70 (.iinc 2 1) 3 := by decide +kernel
theorem d39_73 : Dc cN20 73 (.baload) 1 := by decide +kernel
theorem d39_74 : Dc cN20 74 (.sipush 255) 3 := by decide +kernel
theorem d39_77 : Dc cN20 77 (.iand) 1 := by decide +kernel
theorem d39_78 : Dc cN20 78 (.iaload) 1 := by decide +kernel
theorem d39_79 : Dc cN20 79 (.istore 13) 2 := by decide +kernel
theorem d39_81 : Dc cN20 81 (.aload 8) 2 := by decide +kernel
theorem d39_83 : Dc cN20 83 (.aload_n 1) 1 := by decide +kernel
theorem d39_84 : Dc cN20 84 (.iload_n 2) 1 := by decide +kernel
theorem d39_85 : Dc cN20 85 (.iinc 2 1) 3 := by decide +kernel
theorem d39_88 : Dc cN20 88 (.baload) 1 := by decide +kernel
theorem d39_89 : Dc cN20 89 (.sipush 255) 3 := by decide +kernel
theorem d39_92 : Dc cN20 92 (.iand) 1 := by decide +kernel
theorem d39_93 : Dc cN20 93 (.iaload) 1 := by decide +kernel
theorem d39_94 : Dc cN20 94 (.istore 14) 2 := by decide +kernel
theorem d39_96 : Dc cN20 96 (.iload 11) 2 := by decide +kernel
theorem d39_98 : Dc cN20 98 (.iload 12) 2 := by decide +kernel
theorem d39_100 : Dc cN20 100 (.ior) 1 := by decide +kernel
theorem d39_101 : Dc cN20 101 (.iload 13) 2 := by decide +kernel
theorem d39_103 : Dc cN20 103 (.ior) 1 := by decide +kernel
theorem d39_104 : Dc cN20 104 (.iload 14) 2 := by decide +kernel
theorem d39_106 : Dc cN20 106 (.ior) 1 := by decide +kernel
theorem d39_107 : Dc cN20 107 (.ifCond .ge 9) 3 := by decide +kernel
theorem d39_116 : Dc cN20 116 (.iload 11) 2 := by decide +kernel
theorem d39_118 : Dc cN20 118 (.bipush 18) 2 := by decide +kernel
theorem d39_120 : Dc cN20 120 (.ishl) 1 := by decide +kernel
theorem d39_121 : Dc cN20 121 (.iload 12) 2 := by decide +kernel
theorem d39_123 : Dc cN20 123 (.bipush 12) 2 := by decide +kernel
theorem d39_125 : Dc cN20 125 (.ishl) 1 := by decide +kernel
theorem d39_126 : Dc cN20 126 (.ior) 1 := by decide +kernel
theorem d39_127 : Dc cN20 127 (.iload 13) 2 := by decide +kernel
theorem d39_129 : Dc cN20 129 (.bipush 6) 2 := by decide +kernel
theorem d39_131 : Dc cN20 131 (.ishl) 1 := by decide +kernel
theorem d39_132 : Dc cN20 132 (.ior) 1 := by decide +kernel
theorem d39_133 : Dc cN20 133 (.iload 14) 2 := by decide +kernel
theorem d39_135 : Dc cN20 135 (.ior) 1 := by decide +kernel
theorem d39_136 : Dc cN20 136 (.istore 15) 2 := by decide +kernel
theorem d39_138 : Dc cN20 138 (.aload 4) 2 := by decide +kernel
theorem d39_140 : Dc cN20 140 (.iload 10) 2 := by decide +kernel
theorem d39_142 : Dc cN20 142 (.iinc 10 1) 3 := by decide +kernel
theorem d39_145 : Dc cN20 145 (.iload 15) 2 := by decide +kernel
theorem d39_147 : Dc cN20 147 (.bipush 16) 2 := by decide +kernel
theorem d39_149 : Dc cN20 149 (.ishr) 1 := by decide +kernel
theorem d39_150 : Dc cN20 150 (.i2b) 1 := by decide +kernel
theorem d39_151 : Dc cN20 151 (.bastore) 1 := by decide +kernel
theorem d39_152 : Dc cN20 152 (.aload 4) 2 := by decide +kernel
theorem d39_154 : Dc cN20 154 (.iload 10) 2 := by decide +kernel
theorem d39_156 : Dc cN20 156 (.iinc 10 1) 3 := by decide +kernel
theorem d39_159 : Dc cN20 159 (.iload 15) 2 := by decide +kernel
theorem d39_161 : Dc cN20 161 (.bipush 8) 2 := by decide +kernel
theorem d39_163 : Dc cN20 163 (.ishr) 1 := by decide +kernel
theorem d39_164 : Dc cN20 164 (.i2b) 1 := by decide +kernel
theorem d39_165 : Dc cN20 165 (.bastore) 1 := by decide +kernel
theorem d39_166 : Dc cN20 166 (.aload 4) 2 := by decide +kernel
theorem d39_168 : Dc cN20 168 (.iload 10) 2 := by decide +kernel
theorem d39_170 : Dc cN20 170 (.iinc 10 1) 3 := by decide +kernel
theorem d39_173 : Dc cN20 173 (.iload 15) 2 := by decide +kernel
theorem d39_175 : Dc cN20 175 (.i2b) 1 := by decide +kernel
theorem d39_176 : Dc cN20 176 (.bastore) 1 := by decide +kernel
theorem d39_177 : Dc cN20 177 (.goto (-147)) 3 := by decide +kernel
theorem d39_110 : Dc cN20 110 (.iload 10) 2 := by decide +kernel
theorem d39_112 : Dc cN20 112 (.iload 5) 2 := by decide +kernel
theorem d39_114 : Dc cN20 114 (.isub) 1 := by decide +kernel
theorem d39_115 : Dc cN20 115 (.ireturn) 1 := by decide +kernel
theorem oef16 (m_ : MethodId) (y0_ : Addr) (y1_ : Addr) (y2_ : Int32) (y3_ : Int32) (y4_ : Addr) (y5_ : Int32) (y6_ : Int32) (y7_ : Int32) : (entryFrame m_ #[.ref y0_, .ref y1_, .int y2_, .int y3_, .ref y4_, .int y5_, .int y6_, .int y7_] 16).locals = #[aR y0_, aR y1_, aI y2_, aI y3_, aR y4_, aI y5_, aI y6_, aI y7_, aU, aU, aU, aU, aU, aU, aU, aU] := by first | (simp [entryFrame, argsToLocals, Value.category]; done) | rfl
theorem ob_bk4 (hw : TH a0 Z) (hE : EW Z a0 consts_1) (dd sr : Addr) (ks : ClassId) (ds : Addr) (kds : ClassId) (tb : Addr) (ktb : ClassId) (v g : Nat) (h : Heap) (hO : Ol Z h) (TS : (PTS Z tb)) (TA : (PTA Z tb ktb)) (q2 : Arv Z h sr ks .byte 8 (tx4 v g) (.int 0)) (q3 : Arv Z h ds kds .byte 4 [.int 0, .int 0, .int 0, .int 0] (.int 0)) (nsd : (sr ≠ ds)) (ntd : (tb ≠ ds)) (hv : (v < 16777216)) (hg : (g < 16777216)) (hzg : (g % 65536 = 0)) (ge_ds : Z.heap.size ≤ ds) :
 Ct l Z consts_1 mN22 cN20 16 (some .int) ⟨0, 0, 0, 0⟩ #[.ref dd, .ref sr, .int 0, .int 8, .ref ds, .int 0, .int 0, .int 0] h [ds] (fun rv' hp' so' => rv' = some (.int 3) ∧ so' = [] ∧ Arv Z hp' ds kds .byte 4 [.int (sb (v / 65536)), .int (sb (v / 256)), .int (sb v), .int 0] (.int 0)) := by
  refine Ct.mk "java/util/Base64$Decoder" "decodeBlock" rfl rfl (a0 := a0) (plainFor_of_name opn3) hO hE (fun x q => by simp at q; subst q; exact ge_ds) ?_
  intro K T W
  rw [oef16]
  refine gIload W d39_0 rfl rfl ?_
  refine gIfYes (pc' := 11) W d39_2 ((if0 _ _).trans (teq (by decide)).1) (by decide) rfl ?_
  refine wGetS W d39_11 (ow109 hw) Via.refl TS rfl fun _ A => ?_
  refine gAstore (ls' := #[aR dd, aR sr, aI 0, aI 8, aR ds, aI 0, aI 0, aI 0, aR tb, aU, aU, aU, aU, aU, aU, aU]) A d39_14 rfl rfl rfl ?_
  refine gIloadN A d39_16 rfl rfl ?_
  refine gIloadN A d39_17 rfl rfl ?_
  refine gIloadN A d39_18 rfl rfl ?_
  refine gIsub (z := 8) A d39_19 (by decide) rfl ?_
  refine gBipush (z := (-4)) A d39_20 rfl rfl ?_
  refine gIand (z := 8) A d39_22 (by decide) rfl ?_
  refine gIadd (z := 8) A d39_23 (by decide) rfl ?_
  refine gIstore (ls' := #[aR dd, aR sr, aI 0, aI 8, aR ds, aI 0, aI 0, aI 0, aR tb, aI 8, aU, aU, aU, aU, aU, aU]) A d39_24 rfl rfl ?_
  refine gIload A d39_26 rfl rfl ?_
  refine gIstore (ls' := #[aR dd, aR sr, aI 0, aI 8, aR ds, aI 0, aI 0, aI 0, aR tb, aI 8, aI 0, aU, aU, aU, aU, aU]) A d39_28 rfl rfl ?_
  refine gIloadN A d39_30 rfl rfl ?_
  refine gIload A d39_31 rfl rfl ?_
  refine gIcmpNo A d39_33 (tlt (by decide)).2.1 rfl ?_
  refine gAload A d39_36 rfl rfl rfl ?_
  refine gAloadN A d39_38 rfl rfl rfl ?_
  refine gIloadN A d39_39 rfl rfl ?_
  refine gIinc (z := 1) (ls' := #[aR dd, aR sr, aI 1, aI 8, aR ds, aI 0, aI 0, aI 0, aR tb, aI 8, aI 0, aU, aU, aU, aU, aU]) A d39_40 rfl (by decide) rfl rfl ?_
  refine wLdB (v := (.int (Int32.ofNat (symN (sx0 v))))) A d39_43 q2 (by decide) rfl rfl ?_
  refine gSipush (z := 255) A d39_44 rfl rfl ?_
  refine gIand (z := (Int32.ofNat (symN (sx0 v)))) A d39_47 (b8_of (symN_le _)).mask rfl ?_
  have E := TA.ext A.old.2
  refine wLdI (v := (.int (Int32.ofNat (sx0 v)))) A d39_48 E (ofNat_inb (n := 256) (Nat.lt_of_le_of_lt (symN_le _) (by decide)) (by decide)) (by rw [ofNat_clamp (Nat.lt_of_le_of_lt (symN_le _) (by decide))]; exact tab_at (sx0_lt _)) rfl ?_
  refine gIstore (ls' := #[aR dd, aR sr, aI 1, aI 8, aR ds, aI 0, aI 0, aI 0, aR tb, aI 8, aI 0, aI (Int32.ofNat (sx0 v)), aU, aU, aU, aU]) A d39_49 rfl rfl ?_
  refine gAload A d39_51 rfl rfl rfl ?_
  refine gAloadN A d39_53 rfl rfl rfl ?_
  refine gIloadN A d39_54 rfl rfl ?_
  refine gIinc (z := 2) (ls' := #[aR dd, aR sr, aI 2, aI 8, aR ds, aI 0, aI 0, aI 0, aR tb, aI 8, aI 0, aI (Int32.ofNat (sx0 v)), aU, aU, aU, aU]) A d39_55 rfl (by decide) rfl rfl ?_
  refine wLdB (v := (.int (Int32.ofNat (symN (sx1 v))))) A d39_58 q2 (by decide) rfl rfl ?_
  refine gSipush (z := 255) A d39_59 rfl rfl ?_
  refine gIand (z := (Int32.ofNat (symN (sx1 v)))) A d39_62 (b8_of (symN_le _)).mask rfl ?_
  refine wLdI (v := (.int (Int32.ofNat (sx1 v)))) A d39_63 E (ofNat_inb (n := 256) (Nat.lt_of_le_of_lt (symN_le _) (by decide)) (by decide)) (by rw [ofNat_clamp (Nat.lt_of_le_of_lt (symN_le _) (by decide))]; exact tab_at (sx1_lt _)) rfl ?_
  refine gIstore (ls' := #[aR dd, aR sr, aI 2, aI 8, aR ds, aI 0, aI 0, aI 0, aR tb, aI 8, aI 0, aI (Int32.ofNat (sx0 v)), aI (Int32.ofNat (sx1 v)), aU, aU, aU]) A d39_64 rfl rfl ?_
  refine gAload A d39_66 rfl rfl rfl ?_
  refine gAloadN A d39_68 rfl rfl rfl ?_
  refine gIloadN A d39_69 rfl rfl ?_
  refine gIinc (z := 3) (ls' := #[aR dd, aR sr, aI 3, aI 8, aR ds, aI 0, aI 0, aI 0, aR tb, aI 8, aI 0, aI (Int32.ofNat (sx0 v)), aI (Int32.ofNat (sx1 v)), aU, aU, aU]) A d39_70 rfl (by decide) rfl rfl ?_
  refine wLdB (v := (.int (Int32.ofNat (symN (sx2 v))))) A d39_73 q2 (by decide) rfl rfl ?_
  refine gSipush (z := 255) A d39_74 rfl rfl ?_
  refine gIand (z := (Int32.ofNat (symN (sx2 v)))) A d39_77 (b8_of (symN_le _)).mask rfl ?_
  refine wLdI (v := (.int (Int32.ofNat (sx2 v)))) A d39_78 E (ofNat_inb (n := 256) (Nat.lt_of_le_of_lt (symN_le _) (by decide)) (by decide)) (by rw [ofNat_clamp (Nat.lt_of_le_of_lt (symN_le _) (by decide))]; exact tab_at (sx2_lt _)) rfl ?_
  refine gIstore (ls' := #[aR dd, aR sr, aI 3, aI 8, aR ds, aI 0, aI 0, aI 0, aR tb, aI 8, aI 0, aI (Int32.ofNat (sx0 v)), aI (Int32.ofNat (sx1 v)), aI (Int32.ofNat (sx2 v)), aU, aU]) A d39_79 rfl rfl ?_
  refine gAload A d39_81 rfl rfl rfl ?_
  refine gAloadN A d39_83 rfl rfl rfl ?_
  refine gIloadN A d39_84 rfl rfl ?_
  refine gIinc (z := 4) (ls' := #[aR dd, aR sr, aI 4, aI 8, aR ds, aI 0, aI 0, aI 0, aR tb, aI 8, aI 0, aI (Int32.ofNat (sx0 v)), aI (Int32.ofNat (sx1 v)), aI (Int32.ofNat (sx2 v)), aU, aU]) A d39_85 rfl (by decide) rfl rfl ?_
  refine wLdB (v := (.int (Int32.ofNat (symN (sx3 v))))) A d39_88 q2 (by decide) rfl rfl ?_
  refine gSipush (z := 255) A d39_89 rfl rfl ?_
  refine gIand (z := (Int32.ofNat (symN (sx3 v)))) A d39_92 (b8_of (symN_le _)).mask rfl ?_
  refine wLdI (v := (.int (Int32.ofNat (sx3 v)))) A d39_93 E (ofNat_inb (n := 256) (Nat.lt_of_le_of_lt (symN_le _) (by decide)) (by decide)) (by rw [ofNat_clamp (Nat.lt_of_le_of_lt (symN_le _) (by decide))]; exact tab_at (sx3_lt _)) rfl ?_
  refine gIstore (ls' := #[aR dd, aR sr, aI 4, aI 8, aR ds, aI 0, aI 0, aI 0, aR tb, aI 8, aI 0, aI (Int32.ofNat (sx0 v)), aI (Int32.ofNat (sx1 v)), aI (Int32.ofNat (sx2 v)), aI (Int32.ofNat (sx3 v)), aU]) A d39_94 rfl rfl ?_
  refine gIload A d39_96 rfl rfl ?_
  refine gIload A d39_98 rfl rfl ?_
  refine gIor (z := ((Int32.ofNat (sx0 v)) ||| (Int32.ofNat (sx1 v)))) A d39_100 rfl rfl ?_
  refine gIload A d39_101 rfl rfl ?_
  refine gIor (z := (((Int32.ofNat (sx0 v)) ||| (Int32.ofNat (sx1 v))) ||| (Int32.ofNat (sx2 v)))) A d39_103 rfl rfl ?_
  refine gIload A d39_104 rfl rfl ?_
  refine gIor (z := ((((Int32.ofNat (sx0 v)) ||| (Int32.ofNat (sx1 v))) ||| (Int32.ofNat (sx2 v))) ||| (Int32.ofNat (sx3 v)))) A d39_106 rfl rfl ?_
  refine gIfYes (pc' := 116) A d39_107 ((if0 _ _).trans (flt (or4_nn (Nat.lt_trans (sx0_lt _) (by decide)) (Nat.lt_trans (sx1_lt _) (by decide)) (Nat.lt_trans (sx2_lt _) (by decide)) (Nat.lt_trans (sx3_lt _) (by decide)))).2.1) (by decide) rfl ?_
  refine gIload A d39_116 rfl rfl ?_
  refine gBipush (z := 18) A d39_118 rfl rfl ?_
  refine gIshl (z := (Int32.ofNat ((sx0 v) * 262144))) A d39_120 (shlN (k := 18) (by decide) (by decide) (by have := sx0_lt v; omega)) rfl ?_
  refine gIload A d39_121 rfl rfl ?_
  refine gBipush (z := 12) A d39_123 rfl rfl ?_
  refine gIshl (z := (Int32.ofNat ((sx1 v) * 4096))) A d39_125 (shlN (k := 12) (by decide) (by decide) (by have := sx1_lt v; omega)) rfl ?_
  refine gIor (z := (Int32.ofNat ((sx0 v) * 262144 + (sx1 v) * 4096))) A d39_126 (or18 v) rfl ?_
  refine gIload A d39_127 rfl rfl ?_
  refine gBipush (z := 6) A d39_129 rfl rfl ?_
  refine gIshl (z := (Int32.ofNat ((sx2 v) * 64))) A d39_131 (shlN (k := 6) (by decide) (by decide) (by have := sx2_lt v; omega)) rfl ?_
  refine gIor (z := (Int32.ofNat ((sx0 v) * 262144 + (sx1 v) * 4096 + (sx2 v) * 64))) A d39_132 (or12 v) rfl ?_
  refine gIload A d39_133 rfl rfl ?_
  refine gIor (z := (Int32.ofNat v)) A d39_135 (or6 hv) rfl ?_
  refine gIstore (ls' := #[aR dd, aR sr, aI 4, aI 8, aR ds, aI 0, aI 0, aI 0, aR tb, aI 8, aI 0, aI (Int32.ofNat (sx0 v)), aI (Int32.ofNat (sx1 v)), aI (Int32.ofNat (sx2 v)), aI (Int32.ofNat (sx3 v)), aI (Int32.ofNat v)]) A d39_136 rfl rfl ?_
  refine gAload A d39_138 rfl rfl rfl ?_
  refine gIload A d39_140 rfl rfl ?_
  refine gIinc (z := 1) (ls' := #[aR dd, aR sr, aI 4, aI 8, aR ds, aI 0, aI 0, aI 0, aR tb, aI 8, aI 1, aI (Int32.ofNat (sx0 v)), aI (Int32.ofNat (sx1 v)), aI (Int32.ofNat (sx2 v)), aI (Int32.ofNat (sx3 v)), aI (Int32.ofNat v)]) A d39_142 rfl (by decide) rfl rfl ?_
  refine gIload A d39_145 rfl rfl ?_
  refine gBipush (z := 16) A d39_147 rfl rfl ?_
  refine gIshr (z := (Int32.ofNat (v / 65536))) A d39_149 (shrN (k := 16) (by decide) (by decide) (by omega)) rfl ?_
  refine gI2B (z := (sb (v / 65536))) A d39_150 rfl rfl ?_
  refine wStB (y := (sb (v / 65536))) A d39_151 (by simp) q3 (by decide) (sb_idem _) 0 (by decide) (show 0 < 4 from by decide) rfl fun _ H C I J => ?_
  have L : Arv Z H ds kds .byte 4 [.int (sb (v / 65536)), .int 0, .int 0, .int 0] (.int 0) := J
  refine gAload C d39_152 rfl rfl rfl ?_
  refine gIload C d39_154 rfl rfl ?_
  refine gIinc (z := 2) (ls' := #[aR dd, aR sr, aI 4, aI 8, aR ds, aI 0, aI 0, aI 0, aR tb, aI 8, aI 2, aI (Int32.ofNat (sx0 v)), aI (Int32.ofNat (sx1 v)), aI (Int32.ofNat (sx2 v)), aI (Int32.ofNat (sx3 v)), aI (Int32.ofNat v)]) C d39_156 rfl (by decide) rfl rfl ?_
  refine gIload C d39_159 rfl rfl ?_
  refine gBipush (z := 8) C d39_161 rfl rfl ?_
  refine gIshr (z := (Int32.ofNat (v / 256))) C d39_163 (shrN (k := 8) (by decide) (by decide) (by omega)) rfl ?_
  refine gI2B (z := (sb (v / 256))) C d39_164 rfl rfl ?_
  refine wStB (y := (sb (v / 256))) C d39_165 (by simp) L (by decide) (sb_idem _) 1 (by decide) (show 1 < 4 from by decide) rfl fun _ M D N O => ?_
  have P : Arv Z M ds kds .byte 4 [.int (sb (v / 65536)), .int (sb (v / 256)), .int 0, .int 0] (.int 0) := O
  refine gAload D d39_166 rfl rfl rfl ?_
  refine gIload D d39_168 rfl rfl ?_
  refine gIinc (z := 3) (ls' := #[aR dd, aR sr, aI 4, aI 8, aR ds, aI 0, aI 0, aI 0, aR tb, aI 8, aI 3, aI (Int32.ofNat (sx0 v)), aI (Int32.ofNat (sx1 v)), aI (Int32.ofNat (sx2 v)), aI (Int32.ofNat (sx3 v)), aI (Int32.ofNat v)]) D d39_170 rfl (by decide) rfl rfl ?_
  refine gIload D d39_173 rfl rfl ?_
  refine gI2B (z := (sb v)) D d39_175 rfl rfl ?_
  refine wStB (y := (sb v)) D d39_176 (by simp) P (by decide) (sb_idem _) 2 (by decide) (show 2 < 4 from by decide) rfl fun _ Q B R S => ?_
  have U : Arv Z Q ds kds .byte 4 [.int (sb (v / 65536)), .int (sb (v / 256)), .int (sb v), .int 0] (.int 0) := S
  refine gGoto (pc' := 30) B d39_177 (by decide) rfl ?_
  refine gIloadN B d39_30 rfl rfl ?_
  refine gIload B d39_31 rfl rfl ?_
  refine gIcmpNo B d39_33 (tlt (by decide)).2.1 rfl ?_
  refine gAload B d39_36 rfl rfl rfl ?_
  refine gAloadN B d39_38 rfl rfl rfl ?_
  refine gIloadN B d39_39 rfl rfl ?_
  refine gIinc (z := 5) (ls' := #[aR dd, aR sr, aI 5, aI 8, aR ds, aI 0, aI 0, aI 0, aR tb, aI 8, aI 3, aI (Int32.ofNat (sx0 v)), aI (Int32.ofNat (sx1 v)), aI (Int32.ofNat (sx2 v)), aI (Int32.ofNat (sx3 v)), aI (Int32.ofNat v)]) B d39_40 rfl (by decide) rfl rfl ?_
  have V := q2.other I nsd
  have X := V.other N nsd
  have F := X.other R nsd
  refine wLdB (v := (.int (Int32.ofNat (symN (sx0 g))))) B d39_43 F (by decide) rfl rfl ?_
  refine gSipush (z := 255) B d39_44 rfl rfl ?_
  refine gIand (z := (Int32.ofNat (symN (sx0 g)))) B d39_47 (b8_of (symN_le _)).mask rfl ?_
  have G := TA.ext B.old.2
  refine wLdI (v := (.int (Int32.ofNat (sx0 g)))) B d39_48 G (ofNat_inb (n := 256) (Nat.lt_of_le_of_lt (symN_le _) (by decide)) (by decide)) (by rw [ofNat_clamp (Nat.lt_of_le_of_lt (symN_le _) (by decide))]; exact tab_at (sx0_lt _)) rfl ?_
  refine gIstore (ls' := #[aR dd, aR sr, aI 5, aI 8, aR ds, aI 0, aI 0, aI 0, aR tb, aI 8, aI 3, aI (Int32.ofNat (sx0 g)), aI (Int32.ofNat (sx1 v)), aI (Int32.ofNat (sx2 v)), aI (Int32.ofNat (sx3 v)), aI (Int32.ofNat v)]) B d39_49 rfl rfl ?_
  refine gAload B d39_51 rfl rfl rfl ?_
  refine gAloadN B d39_53 rfl rfl rfl ?_
  refine gIloadN B d39_54 rfl rfl ?_
  refine gIinc (z := 6) (ls' := #[aR dd, aR sr, aI 6, aI 8, aR ds, aI 0, aI 0, aI 0, aR tb, aI 8, aI 3, aI (Int32.ofNat (sx0 g)), aI (Int32.ofNat (sx1 v)), aI (Int32.ofNat (sx2 v)), aI (Int32.ofNat (sx3 v)), aI (Int32.ofNat v)]) B d39_55 rfl (by decide) rfl rfl ?_
  refine wLdB (v := (.int (Int32.ofNat (symN (sx1 g))))) B d39_58 F (by decide) rfl rfl ?_
  refine gSipush (z := 255) B d39_59 rfl rfl ?_
  refine gIand (z := (Int32.ofNat (symN (sx1 g)))) B d39_62 (b8_of (symN_le _)).mask rfl ?_
  refine wLdI (v := (.int (Int32.ofNat (sx1 g)))) B d39_63 G (ofNat_inb (n := 256) (Nat.lt_of_le_of_lt (symN_le _) (by decide)) (by decide)) (by rw [ofNat_clamp (Nat.lt_of_le_of_lt (symN_le _) (by decide))]; exact tab_at (sx1_lt _)) rfl ?_
  refine gIstore (ls' := #[aR dd, aR sr, aI 6, aI 8, aR ds, aI 0, aI 0, aI 0, aR tb, aI 8, aI 3, aI (Int32.ofNat (sx0 g)), aI (Int32.ofNat (sx1 g)), aI (Int32.ofNat (sx2 v)), aI (Int32.ofNat (sx3 v)), aI (Int32.ofNat v)]) B d39_64 rfl rfl ?_
  refine gAload B d39_66 rfl rfl rfl ?_
  refine gAloadN B d39_68 rfl rfl rfl ?_
  refine gIloadN B d39_69 rfl rfl ?_
  refine gIinc (z := 7) (ls' := #[aR dd, aR sr, aI 7, aI 8, aR ds, aI 0, aI 0, aI 0, aR tb, aI 8, aI 3, aI (Int32.ofNat (sx0 g)), aI (Int32.ofNat (sx1 g)), aI (Int32.ofNat (sx2 v)), aI (Int32.ofNat (sx3 v)), aI (Int32.ofNat v)]) B d39_70 rfl (by decide) rfl rfl ?_
  refine wLdB (v := (.int 61)) B d39_73 F (by decide) rfl rfl ?_
  refine gSipush (z := 255) B d39_74 rfl rfl ?_
  refine gIand (z := 61) B d39_77 (by decide) rfl ?_
  refine wLdI (v := (.int (-2))) B d39_78 G (by decide) rfl rfl ?_
  refine gIstore (ls' := #[aR dd, aR sr, aI 7, aI 8, aR ds, aI 0, aI 0, aI 0, aR tb, aI 8, aI 3, aI (Int32.ofNat (sx0 g)), aI (Int32.ofNat (sx1 g)), aI (-2), aI (Int32.ofNat (sx3 v)), aI (Int32.ofNat v)]) B d39_79 rfl rfl ?_
  refine gAload B d39_81 rfl rfl rfl ?_
  refine gAloadN B d39_83 rfl rfl rfl ?_
  refine gIloadN B d39_84 rfl rfl ?_
  refine gIinc (z := 8) (ls' := #[aR dd, aR sr, aI 8, aI 8, aR ds, aI 0, aI 0, aI 0, aR tb, aI 8, aI 3, aI (Int32.ofNat (sx0 g)), aI (Int32.ofNat (sx1 g)), aI (-2), aI (Int32.ofNat (sx3 v)), aI (Int32.ofNat v)]) B d39_85 rfl (by decide) rfl rfl ?_
  refine wLdB (v := (.int 61)) B d39_88 F (by decide) rfl rfl ?_
  refine gSipush (z := 255) B d39_89 rfl rfl ?_
  refine gIand (z := 61) B d39_92 (by decide) rfl ?_
  refine wLdI (v := (.int (-2))) B d39_93 G (by decide) rfl rfl ?_
  refine gIstore (ls' := #[aR dd, aR sr, aI 8, aI 8, aR ds, aI 0, aI 0, aI 0, aR tb, aI 8, aI 3, aI (Int32.ofNat (sx0 g)), aI (Int32.ofNat (sx1 g)), aI (-2), aI (-2), aI (Int32.ofNat v)]) B d39_94 rfl rfl ?_
  refine gIload B d39_96 rfl rfl ?_
  refine gIload B d39_98 rfl rfl ?_
  refine gIor (z := ((Int32.ofNat (sx0 g)) ||| (Int32.ofNat (sx1 g)))) B d39_100 rfl rfl ?_
  refine gIload B d39_101 rfl rfl ?_
  refine gIor (z := (((Int32.ofNat (sx0 g)) ||| (Int32.ofNat (sx1 g))) ||| (-2))) B d39_103 rfl rfl ?_
  refine gIload B d39_104 rfl rfl ?_
  refine gIor (z := ((((Int32.ofNat (sx0 g)) ||| (Int32.ofNat (sx1 g))) ||| (-2)) ||| (-2))) B d39_106 rfl rfl ?_
  refine gIfNo B d39_107 ((if0 _ _).trans (tlt (or4_neg (by decide))).2.1) rfl ?_
  refine gIload B d39_110 rfl rfl ?_
  refine gIload B d39_112 rfl rfl ?_
  refine gIsub (z := 3) B d39_114 (by decide) rfl ?_
  exact wRetI (so := []) (t := .int) B d39_115 (by simp) rfl (by decide) (by decide) (fun _ q => nomatch q) ⟨rfl, rfl, U⟩
theorem d20_47 : Dc cN17 47 (.aload_n 0) 1 := by decide +kernel
theorem d20_48 : Dc cN17 48 (.aload_n 1) 1 := by decide +kernel
theorem d20_49 : Dc cN17 49 (.iload_n 2) 1 := by decide +kernel
theorem d20_50 : Dc cN17 50 (.iload_n 3) 1 := by decide +kernel
theorem d20_51 : Dc cN17 51 (.aload 4) 2 := by decide +kernel
theorem d20_53 : Dc cN17 53 (.iload 6) 2 := by decide +kernel
theorem d20_55 : Dc cN17 55 (.aload_n 0) 1 := by decide +kernel
theorem d20_56 : Dc cN17 56 (.getfield 7) 3 := by decide +kernel
theorem d20_59 : Dc cN17 59 (.aload_n 0) 1 := by decide +kernel
theorem d20_60 : Dc cN17 60 (.getfield 13) 3 := by decide +kernel
theorem d20_63 : Dc cN17 63 (.invokevirtual 111) 3 := by decide +kernel
theorem ow200 (hw : TH a0 Z) : Bf a0 Z (.code mN22 cN20 16 (some .int)) := mo 200 rfl hw
theorem opd13 : parseMethodDescriptor "([BII[BIZZ)I" = some ⟨[.array .byte, .int, .int, .array .byte, .int, .boolean, .boolean], some (.int)⟩ := by decide +kernel
theorem ow196 (hw : TH a0 Z) : Bf a0 Z (.methodLink "java/util/Base64$Decoder" 111 mN22) := mo 196 rfl hw
theorem ow197 (hw : TH a0 Z) : Bf a0 Z (.instanceMethod mN22) := mo 197 rfl hw
theorem ow199 (hw : TH a0 Z) : Bf a0 Z (.selects "java/util/Base64$Decoder" mN22 mN22) := mo 199 rfl hw
theorem ow198 (hw : TH a0 Z) : Bf a0 Z (.privateMethod mN22) := mo 198 rfl hw
theorem d20_66 : Dc cN17 66 (.istore 9) 2 := by decide +kernel
theorem d20_68 : Dc cN17 68 (.iload 9) 2 := by decide +kernel
theorem d20_70 : Dc cN17 70 (.iconst 2) 1 := by decide +kernel
theorem d20_71 : Dc cN17 71 (.iadd) 1 := by decide +kernel
theorem d20_72 : Dc cN17 72 (.iconst 3) 1 := by decide +kernel
theorem d20_73 : Dc cN17 73 (.idiv) 1 := by decide +kernel
theorem d20_74 : Dc cN17 74 (.iconst 4) 1 := by decide +kernel
theorem d20_75 : Dc cN17 75 (.imul) 1 := by decide +kernel
theorem d20_76 : Dc cN17 76 (.istore 10) 2 := by decide +kernel
theorem d20_78 : Dc cN17 78 (.iload_n 2) 1 := by decide +kernel
theorem d20_79 : Dc cN17 79 (.iload 10) 2 := by decide +kernel
theorem d20_81 : Dc cN17 81 (.iadd) 1 := by decide +kernel
theorem d20_82 : Dc cN17 82 (.istore_n 2) 1 := by decide +kernel
theorem d20_83 : Dc cN17 83 (.iload 6) 2 := by decide +kernel
theorem d20_85 : Dc cN17 85 (.iload 9) 2 := by decide +kernel
theorem d20_87 : Dc cN17 87 (.iadd) 1 := by decide +kernel
theorem d20_88 : Dc cN17 88 (.istore 6) 2 := by decide +kernel
theorem ob_d04 (hw : TH a0 Z) (hE : EW Z a0 consts_1) (dd sr : Addr) (ks : ClassId) (ds : Addr) (kds : ClassId) (tb : Addr) (ktb : ClassId) (v g : Nat) (h : Heap) (hO : Ol Z h) (q0 : Exa Z h dd "java/util/Base64$Decoder") (q1 : Fld Z h dd "java/util/Base64$Decoder" "isURL" "Z" (.int 0)) (q2 : Fld Z h dd "java/util/Base64$Decoder" "isMIME" "Z" (.int 0)) (TS : (PTS Z tb)) (TA : (PTA Z tb ktb)) (q5 : Arv Z h sr ks .byte 8 (tx4 v g) (.int 0)) (q6 : Arv Z h ds kds .byte 4 [.int 0, .int 0, .int 0, .int 0] (.int 0)) (nsd : (sr ≠ ds)) (ntd : (tb ≠ ds)) (hv : (v < 16777216)) (hg : (g < 16777216)) (hzg : (g % 65536 = 0)) (ge_ds : Z.heap.size ≤ ds) :
 Ct l Z consts_1 mN19 cN17 11 (some .int) ⟨1, 0, 0, 40⟩ #[.ref dd, .ref sr, .int 0, .int 8, .ref ds] h [ds] (fun rv' hp' so' => rv' = some (.int 4) ∧ so' = [] ∧ Arv Z hp' ds kds .byte 4 [.int (sb (v / 65536)), .int (sb (v / 256)), .int (sb v), .int (sb (g / 65536))] (.int 0)) := by
  refine Ct.mk "java/util/Base64$Decoder" "decode0" rfl rfl (a0 := a0) (plainFor_of_name opn3) hO hE (fun x q => by simp at q; subst q; exact ge_ds) ?_
  intro K T W
  rw [oef14]
  refine gAloadN W d20_0 rfl rfl rfl ?_
  refine wGetF W d20_1 (ow107 hw) Via.refl q1 rfl fun _ F => ?_
  refine gIfYes (pc' := 13) F d20_4 ((if0 _ _).trans (teq (by decide)).1) (by decide) rfl ?_
  refine wGetS F d20_13 (ow109 hw) Via.refl TS rfl fun _ B => ?_
  refine gAstore (ls' := #[aR dd, aR sr, aI 0, aI 8, aR ds, aR tb, aU, aU, aU, aU, aU]) B d20_16 rfl rfl rfl ?_
  refine gIconst (z := 0) B d20_18 rfl rfl ?_
  refine gIstore (ls' := #[aR dd, aR sr, aI 0, aI 8, aR ds, aR tb, aI 0, aU, aU, aU, aU]) B d20_19 rfl rfl ?_
  refine gIconst (z := 0) B d20_21 rfl rfl ?_
  refine gIstore (ls' := #[aR dd, aR sr, aI 0, aI 8, aR ds, aR tb, aI 0, aI 0, aU, aU, aU]) B d20_22 rfl rfl ?_
  refine gBipush (z := 18) B d20_24 rfl rfl ?_
  refine gIstore (ls' := #[aR dd, aR sr, aI 0, aI 8, aR ds, aR tb, aI 0, aI 0, aI 18, aU, aU]) B d20_26 rfl rfl ?_
  refine gIloadN B d20_28 rfl rfl ?_
  refine gIloadN B d20_29 rfl rfl ?_
  refine gIcmpNo B d20_30 (tlt (by decide)).2.1 rfl ?_
  refine gIload B d20_33 rfl rfl ?_
  refine gBipush (z := 18) B d20_35 rfl rfl ?_
  refine gIcmpNo B d20_37 (teq (by decide)).2 rfl ?_
  refine gIloadN B d20_40 rfl rfl ?_
  refine gIloadN B d20_41 rfl rfl ?_
  refine gIconst (z := 4) B d20_42 rfl rfl ?_
  refine gIsub (z := 4) B d20_43 (by decide) rfl ?_
  refine gIcmpNo B d20_44 (tlt (by decide)).2.1 rfl ?_
  refine gAloadN B d20_47 rfl rfl rfl ?_
  refine gAloadN B d20_48 rfl rfl rfl ?_
  refine gIloadN B d20_49 rfl rfl ?_
  refine gIloadN B d20_50 rfl rfl ?_
  refine gAload B d20_51 rfl rfl rfl ?_
  refine gIload B d20_53 rfl rfl ?_
  refine gAloadN B d20_55 rfl rfl rfl ?_
  refine wGetF B d20_56 (ow107 hw) Via.refl q1 rfl fun _ G => ?_
  refine gAloadN G d20_59 rfl rfl rfl ?_
  refine wGetF G d20_60 (ow110 hw) Via.refl q2 rfl fun _ H => ?_
  refine wPrivate (y := mN22) (Wd := 0) (a := dd) (argsL := [.ref sr, .int 0, .int 8, .ref ds, .int 0, .int 0, .int 0]) (rest := []) H d20_63 (ow196 hw) (ow197 hw) (ow199 hw) (ow198 hw) (ow200 hw) (by decide) (Cb.ct (ob_bk4 hw hE dd sr ks ds kds tb ktb v g h H.old TS TA q5 q6 nsd ntd hv hg hzg ge_ds) (ow200 hw) (ow58 hw) hE (by decide) (by decide)) q0 (by simp) rfl (lenOf opd13 rfl) rfl (Nat.le_of_eq rfl) (by decide) (by decide) rfl fun _ _ _ _ A I _ J => ?_
  obtain ⟨rfl, rfl, L⟩ := J
  show Go K _ _ _ _ [.int 3]
  refine gIstore (ls' := #[aR dd, aR sr, aI 0, aI 8, aR ds, aR tb, aI 0, aI 0, aI 18, aI 3, aU]) A d20_66 rfl rfl ?_
  refine gIload A d20_68 rfl rfl ?_
  refine gIconst (z := 2) A d20_70 rfl rfl ?_
  refine gIadd (z := 5) A d20_71 (by decide) rfl ?_
  refine gIconst (z := 3) A d20_72 rfl rfl ?_
  refine gIdiv (z := 1) A d20_73 (by decide) (by decide) rfl ?_
  refine gIconst (z := 4) A d20_74 rfl rfl ?_
  refine gImul (z := 4) A d20_75 (by decide) rfl ?_
  refine gIstore (ls' := #[aR dd, aR sr, aI 0, aI 8, aR ds, aR tb, aI 0, aI 0, aI 18, aI 3, aI 4]) A d20_76 rfl rfl ?_
  refine gIloadN A d20_78 rfl rfl ?_
  refine gIload A d20_79 rfl rfl ?_
  refine gIadd (z := 4) A d20_81 (by decide) rfl ?_
  refine gIstoreN (ls' := #[aR dd, aR sr, aI 4, aI 8, aR ds, aR tb, aI 0, aI 0, aI 18, aI 3, aI 4]) A d20_82 rfl rfl ?_
  refine gIload A d20_83 rfl rfl ?_
  refine gIload A d20_85 rfl rfl ?_
  refine gIadd (z := 3) A d20_87 (by decide) rfl ?_
  refine gIstore (ls' := #[aR dd, aR sr, aI 4, aI 8, aR ds, aR tb, aI 3, aI 0, aI 18, aI 3, aI 4]) A d20_88 rfl rfl ?_
  refine gIloadN A d20_90 rfl rfl ?_
  refine gIloadN A d20_91 rfl rfl ?_
  refine gIcmpYes (pc' := 98) A d20_92 (tlt (by decide)).1 (by decide) rfl ?_
  refine gAloadN A d20_98 rfl rfl rfl ?_
  refine gIloadN A d20_99 rfl rfl ?_
  refine gIinc (z := 5) (ls' := #[aR dd, aR sr, aI 5, aI 8, aR ds, aR tb, aI 3, aI 0, aI 18, aI 3, aI 4]) A d20_100 rfl (by decide) rfl rfl ?_
  have D := q5.keep I (ninS nsd nin0)
  refine wLdB (v := (.int (Int32.ofNat (symN (sx0 g))))) A d20_103 D (by decide) rfl rfl ?_
  refine gSipush (z := 255) A d20_104 rfl rfl ?_
  refine gIand (z := (Int32.ofNat (symN (sx0 g)))) A d20_107 (b8_of (symN_le _)).mask rfl ?_
  refine gIstore (ls' := #[aR dd, aR sr, aI 5, aI 8, aR ds, aR tb, aI 3, aI 0, aI 18, aI ((Int32.ofNat (symN (sx0 g)))), aI 4]) A d20_108 rfl rfl ?_
  refine gAload A d20_110 rfl rfl rfl ?_
  refine gIload A d20_112 rfl rfl ?_
  have E := TA.ext A.old.2
  refine wLdI (v := (.int (Int32.ofNat (sx0 g)))) A d20_114 E (ofNat_inb (n := 256) (Nat.lt_of_le_of_lt (symN_le _) (by decide)) (by decide)) (by rw [ofNat_clamp (Nat.lt_of_le_of_lt (symN_le _) (by decide))]; exact tab_at (sx0_lt _)) rfl ?_
  refine gDup A d20_115 rfl rfl ?_
  refine gIstore (ls' := #[aR dd, aR sr, aI 5, aI 8, aR ds, aR tb, aI 3, aI 0, aI 18, aI (Int32.ofNat (sx0 g)), aI 4]) A d20_116 rfl rfl ?_
  refine gIfYes (pc' := 214) A d20_118 ((if0 _ _).trans (flt (ofNat_nn (Nat.lt_trans (sx0_lt _) (by decide)))).2.1) (by decide) rfl ?_
  refine gIload A d20_214 rfl rfl ?_
  refine gIload A d20_216 rfl rfl ?_
  refine gIload A d20_218 rfl rfl ?_
  refine gIshl (z := (Int32.ofNat ((sx0 g) * 262144))) A d20_220 (shlN (k := 18) (by decide) (by decide) (by have := sx0_lt g; omega)) rfl ?_
  refine gIor (z := (Int32.ofNat ((sx0 g) * 262144))) A d20_221 (zor _) rfl ?_
  refine gIstore (ls' := #[aR dd, aR sr, aI 5, aI 8, aR ds, aR tb, aI 3, aI ((Int32.ofNat ((sx0 g) * 262144))), aI 18, aI (Int32.ofNat (sx0 g)), aI 4]) A d20_222 rfl rfl ?_
  refine gIinc (z := 12) (ls' := #[aR dd, aR sr, aI 5, aI 8, aR ds, aR tb, aI 3, aI ((Int32.ofNat ((sx0 g) * 262144))), aI 12, aI (Int32.ofNat (sx0 g)), aI 4]) A d20_224 rfl (by decide) rfl rfl ?_
  refine gIload A d20_227 rfl rfl ?_
  refine gIfYes (pc' := 278) A d20_229 ((if0 _ _).trans (flt (by decide)).2.1) (by decide) rfl ?_
  refine gGoto (pc' := 28) A d20_278 (by decide) rfl ?_
  refine gIloadN A d20_28 rfl rfl ?_
  refine gIloadN A d20_29 rfl rfl ?_
  refine gIcmpNo A d20_30 (tlt (by decide)).2.1 rfl ?_
  refine gIload A d20_33 rfl rfl ?_
  refine gBipush (z := 18) A d20_35 rfl rfl ?_
  refine gIcmpYes (pc' := 90) A d20_37 (feq (by decide)).2 (by decide) rfl ?_
  refine gIloadN A d20_90 rfl rfl ?_
  refine gIloadN A d20_91 rfl rfl ?_
  refine gIcmpYes (pc' := 98) A d20_92 (tlt (by decide)).1 (by decide) rfl ?_
  refine gAloadN A d20_98 rfl rfl rfl ?_
  refine gIloadN A d20_99 rfl rfl ?_
  refine gIinc (z := 6) (ls' := #[aR dd, aR sr, aI 6, aI 8, aR ds, aR tb, aI 3, aI ((Int32.ofNat ((sx0 g) * 262144))), aI 12, aI (Int32.ofNat (sx0 g)), aI 4]) A d20_100 rfl (by decide) rfl rfl ?_
  refine wLdB (v := (.int (Int32.ofNat (symN (sx1 g))))) A d20_103 D (by decide) rfl rfl ?_
  refine gSipush (z := 255) A d20_104 rfl rfl ?_
  refine gIand (z := (Int32.ofNat (symN (sx1 g)))) A d20_107 (b8_of (symN_le _)).mask rfl ?_
  refine gIstore (ls' := #[aR dd, aR sr, aI 6, aI 8, aR ds, aR tb, aI 3, aI ((Int32.ofNat ((sx0 g) * 262144))), aI 12, aI ((Int32.ofNat (symN (sx1 g)))), aI 4]) A d20_108 rfl rfl ?_
  refine gAload A d20_110 rfl rfl rfl ?_
  refine gIload A d20_112 rfl rfl ?_
  refine wLdI (v := (.int (Int32.ofNat (sx1 g)))) A d20_114 E (ofNat_inb (n := 256) (Nat.lt_of_le_of_lt (symN_le _) (by decide)) (by decide)) (by rw [ofNat_clamp (Nat.lt_of_le_of_lt (symN_le _) (by decide))]; exact tab_at (sx1_lt _)) rfl ?_
  refine gDup A d20_115 rfl rfl ?_
  refine gIstore (ls' := #[aR dd, aR sr, aI 6, aI 8, aR ds, aR tb, aI 3, aI ((Int32.ofNat ((sx0 g) * 262144))), aI 12, aI (Int32.ofNat (sx1 g)), aI 4]) A d20_116 rfl rfl ?_
  refine gIfYes (pc' := 214) A d20_118 ((if0 _ _).trans (flt (ofNat_nn (Nat.lt_trans (sx1_lt _) (by decide)))).2.1) (by decide) rfl ?_
  refine gIload A d20_214 rfl rfl ?_
  refine gIload A d20_216 rfl rfl ?_
  refine gIload A d20_218 rfl rfl ?_
  refine gIshl (z := (Int32.ofNat ((sx1 g) * 4096))) A d20_220 (shlN (k := 12) (by decide) (by decide) (by have := sx1_lt g; omega)) rfl ?_
  refine gIor (z := (Int32.ofNat g)) A d20_221 (or18z g hg hzg) rfl ?_
  refine gIstore (ls' := #[aR dd, aR sr, aI 6, aI 8, aR ds, aR tb, aI 3, aI (Int32.ofNat g), aI 12, aI (Int32.ofNat (sx1 g)), aI 4]) A d20_222 rfl rfl ?_
  refine gIinc (z := 6) (ls' := #[aR dd, aR sr, aI 6, aI 8, aR ds, aR tb, aI 3, aI (Int32.ofNat g), aI 6, aI (Int32.ofNat (sx1 g)), aI 4]) A d20_224 rfl (by decide) rfl rfl ?_
  refine gIload A d20_227 rfl rfl ?_
  refine gIfYes (pc' := 278) A d20_229 ((if0 _ _).trans (flt (by decide)).2.1) (by decide) rfl ?_
  refine gGoto (pc' := 28) A d20_278 (by decide) rfl ?_
  refine gIloadN A d20_28 rfl rfl ?_
  refine gIloadN A d20_29 rfl rfl ?_
  refine gIcmpNo A d20_30 (tlt (by decide)).2.1 rfl ?_
  refine gIload A d20_33 rfl rfl ?_
  refine gBipush (z := 18) A d20_35 rfl rfl ?_
  refine gIcmpYes (pc' := 90) A d20_37 (feq (by decide)).2 (by decide) rfl ?_
  refine gIloadN A d20_90 rfl rfl ?_
  refine gIloadN A d20_91 rfl rfl ?_
  refine gIcmpYes (pc' := 98) A d20_92 (tlt (by decide)).1 (by decide) rfl ?_
  refine gAloadN A d20_98 rfl rfl rfl ?_
  refine gIloadN A d20_99 rfl rfl ?_
  refine gIinc (z := 7) (ls' := #[aR dd, aR sr, aI 7, aI 8, aR ds, aR tb, aI 3, aI (Int32.ofNat g), aI 6, aI (Int32.ofNat (sx1 g)), aI 4]) A d20_100 rfl (by decide) rfl rfl ?_
  refine wLdB (v := (.int 61)) A d20_103 D (by decide) rfl rfl ?_
  refine gSipush (z := 255) A d20_104 rfl rfl ?_
  refine gIand (z := 61) A d20_107 (by decide) rfl ?_
  refine gIstore (ls' := #[aR dd, aR sr, aI 7, aI 8, aR ds, aR tb, aI 3, aI (Int32.ofNat g), aI 6, aI 61, aI 4]) A d20_108 rfl rfl ?_
  refine gAload A d20_110 rfl rfl rfl ?_
  refine gIload A d20_112 rfl rfl ?_
  refine wLdI (v := (.int (-2))) A d20_114 E (by decide) rfl rfl ?_
  refine gDup A d20_115 rfl rfl ?_
  refine gIstore (ls' := #[aR dd, aR sr, aI 7, aI 8, aR ds, aR tb, aI 3, aI (Int32.ofNat g), aI 6, aI (-2), aI 4]) A d20_116 rfl rfl ?_
  refine gIfNo A d20_118 ((if0 _ _).trans (tlt (by decide)).2.1) rfl ?_
  refine gIload A d20_121 rfl rfl ?_
  refine gBipush (z := (-2)) A d20_123 rfl rfl ?_
  refine gIcmpNo A d20_125 (teq (by decide)).2 rfl ?_
  refine gIload A d20_128 rfl rfl ?_
  refine gBipush (z := 6) A d20_130 rfl rfl ?_
  refine gIcmpNo A d20_132 (teq (by decide)).2 rfl ?_
  refine gIloadN A d20_135 rfl rfl ?_
  refine gIloadN A d20_136 rfl rfl ?_
  refine gIcmpNo A d20_137 (feq (by decide)).1 rfl ?_
  refine gAloadN A d20_140 rfl rfl rfl ?_
  refine gIloadN A d20_141 rfl rfl ?_
  refine gIinc (z := 8) (ls' := #[aR dd, aR sr, aI 8, aI 8, aR ds, aR tb, aI 3, aI (Int32.ofNat g), aI 6, aI (-2), aI 4]) A d20_142 rfl (by decide) rfl rfl ?_
  refine wLdB (v := (.int 61)) A d20_145 D (by decide) rfl rfl ?_
  refine gBipush (z := 61) A d20_146 rfl rfl ?_
  refine gIcmpNo A d20_148 (teq (by decide)).2 rfl ?_
  refine gIload A d20_151 rfl rfl ?_
  refine gBipush (z := 18) A d20_153 rfl rfl ?_
  refine gIcmpYes (pc' := 281) A d20_155 (feq (by decide)).2 (by decide) rfl ?_
  refine gIload A d20_281 rfl rfl ?_
  refine gBipush (z := 6) A d20_283 rfl rfl ?_
  refine gIcmpNo A d20_285 (teq (by decide)).2 rfl ?_
  refine gAload A d20_288 rfl rfl rfl ?_
  refine gIload A d20_290 rfl rfl ?_
  refine gIinc (z := 4) (ls' := #[aR dd, aR sr, aI 8, aI 8, aR ds, aR tb, aI 4, aI (Int32.ofNat g), aI 6, aI (-2), aI 4]) A d20_292 rfl (by decide) rfl rfl ?_
  refine gIload A d20_295 rfl rfl ?_
  refine gBipush (z := 16) A d20_297 rfl rfl ?_
  refine gIshr (z := (Int32.ofNat (g / 65536))) A d20_299 (shrN (k := 16) (by decide) (by decide) (by omega)) rfl ?_
  refine gI2B (z := (sb (g / 65536))) A d20_300 rfl rfl ?_
  refine wStB (y := (sb (g / 65536))) A d20_301 (by simp) L (by decide) (sb_idem _) 3 (by decide) (show 3 < 4 from by decide) rfl fun _ M C _ N => ?_
  have O : Arv Z M ds kds .byte 4 [.int (sb (v / 65536)), .int (sb (v / 256)), .int (sb v), .int (sb (g / 65536))] (.int 0) := N
  refine gGoto (pc' := 358) C d20_302 (by decide) rfl ?_
  refine gIloadN C d20_358 rfl rfl ?_
  refine gIloadN C d20_359 rfl rfl ?_
  refine gIcmpYes (pc' := 416) C d20_360 (flt (by decide)).2.1 (by decide) rfl ?_
  refine gIload C d20_416 rfl rfl ?_
  exact wRetI (so := []) (t := .int) C d20_418 (by simp) rfl (by decide) (by decide) (fun _ q => nomatch q) ⟨rfl, rfl, O⟩
theorem ob_dec4 (hw : TH a0 Z) (hE : EW Z a0 consts_1) (dd sr : Addr) (ks : ClassId) (tb : Addr) (ktb : ClassId) (v g : Nat) (h : Heap) (hO : Ol Z h) (q0 : Exa Z h dd "java/util/Base64$Decoder") (q1 : Fld Z h dd "java/util/Base64$Decoder" "isURL" "Z" (.int 0)) (q2 : Fld Z h dd "java/util/Base64$Decoder" "isMIME" "Z" (.int 0)) (TS : (PTS Z tb)) (TA : (PTA Z tb ktb)) (q5 : Arv Z h sr ks .byte 8 (tx4 v g) (.int 0)) (hv : (v < 16777216)) (hg : (g < 16777216)) (hzg : (g % 65536 = 0)) :
 Ct l Z consts_1 mN20 cN18 4 (some (.array .byte)) ⟨2, 1, 6, 70⟩ #[.ref dd, .ref sr] h [] (fun rv' hp' so' => ∃ r : Addr, ∃ kr : ClassId, rv' = some (.ref r) ∧ so' = [] ∧ (h.size ≤ r) ∧ Arv Z hp' r kr .byte 4 [.int (sb (v / 65536)), .int (sb (v / 256)), .int (sb v), .int (sb (g / 65536))] (.int 0)) := by
  refine Ct.mk "java/util/Base64$Decoder" "decode" rfl rfl (a0 := a0) (plainFor_of_name opn3) hO hE (fun x q => nomatch q) ?_
  intro K T W
  rw [oef15]
  refine gAloadN W d18_0 rfl rfl rfl ?_
  refine gAloadN W d18_1 rfl rfl rfl ?_
  refine gIconst (z := 0) W d18_2 rfl rfl ?_
  refine gAloadN W d18_3 rfl rfl rfl ?_
  refine wLen W d18_4 q5 rfl ?_
  refine wPrivate (y := mN18) (Wd := 0) (a := dd) (argsL := [.ref sr, .int 0, .int 8]) (rest := []) W d18_5 (ow102 hw) (ow103 hw) (ow105 hw) (ow104 hw) (ow106 hw) (by decide) (Cb.ct (ob_ol4 hw hE dd sr ks tb ktb v g h W.old q0 q1 q2 TS TA q5) (ow106 hw) (ow58 hw) hE (by decide) (by decide)) q0 (by simp) rfl (lenOf opd9 rfl) rfl (Nat.le_of_eq rfl) (by decide) (by decide) rfl fun _ _ _ _ D E _ O => ?_
  obtain ⟨rfl, rfl⟩ := O
  show Go K _ _ _ _ [.int 4]
  refine wNewP (cap := 4) D d18_8 (ow1 hw) (by decide) (by decide) (by decide) (by decide) (by decide) rfl fun _ I B H A F G P => ?_
  have Q : Arv Z I B H .byte 4 [.int 0, .int 0, .int 0, .int 0] (.int 0) := P 4
  refine gAstoreN (ls' := #[aR dd, aR sr, aR B, aU]) A d18_10 rfl rfl rfl ?_
  refine gAloadN A d18_11 rfl rfl rfl ?_
  refine gAloadN A d18_12 rfl rfl rfl ?_
  refine gIconst (z := 0) A d18_13 rfl rfl ?_
  refine gAloadN A d18_14 rfl rfl rfl ?_
  have J := q5.keep E nin0
  have L := J.ext F
  refine wLen A d18_15 L rfl ?_
  refine gAloadN A d18_16 rfl rfl rfl ?_
  have R : sr ≠ B := Nat.ne_of_lt (Nat.lt_of_lt_of_le J.lt (Nat.le_of_eq G.symm))
  have S := q0.keep E
  have M := S.ext F
  have U := q1.keep E nin0
  have V := U.ext F
  have X := q2.keep E nin0
  have Y := X.ext F
  refine wPrivate (y := mN19) (Wd := 0) (a := dd) (argsL := [.ref sr, .int 0, .int 8, .ref B]) (rest := []) A d18_17 (ow114 hw) (ow115 hw) (ow117 hw) (ow116 hw) (ow118 hw) (by decide) (Cb.ct (ob_d04 hw hE dd sr ks B H tb ktb v g I A.old M V Y TS TA L Q R (Nat.ne_of_lt (Nat.lt_of_lt_of_le TA.lt (Nat.le_trans D.old.2.1 (Nat.le_of_eq G.symm)))) hv hg hzg (Nat.le_trans D.old.2.1 (Nat.le_of_eq G.symm))) (ow118 hw) (ow58 hw) hE (by decide) (by decide)) M (by simp) rfl (lenOf opd10 rfl) rfl (Nat.le_of_eq rfl) (by decide) (by decide) rfl fun _ _ _ _ C _ _ Aa => ?_
  obtain ⟨rfl, rfl, N⟩ := Aa
  show Go K _ _ _ _ [.int 4]
  refine gIstoreN (ls' := #[aR dd, aR sr, aR B, aI 4]) C d18_20 rfl rfl ?_
  refine gIloadN C d18_21 rfl rfl ?_
  refine gAloadN C d18_22 rfl rfl rfl ?_
  refine wLen C d18_23 N rfl ?_
  refine gIcmpYes (pc' := 33) C d18_24 (teq (by decide)).1 (by decide) rfl ?_
  refine gAloadN C d18_33 rfl rfl rfl ?_
  exact wRetA (so := []) (t := .array .byte) C d18_34 rfl rfl rfl (by decide) (by decide) (fun _ q => nomatch q) ⟨B, H, rfl, rfl, (Nat.le_trans D.grow (Nat.le_of_eq G.symm)), N⟩
theorem ob_dcS4 (hw : TH a0 Z) (hE : EW Z a0 consts_1) (dd s u : Addr) (ku : ClassId) (z : Int32) (iso u8 tb : Addr) (ktb : ClassId) (v g : Nat) (h : Heap) (hO : Ol Z h) (SC : (PSC Z z)) (hz : (¬ z = 0)) (SI : (PSI Z iso)) (SU : (PSU Z u8)) (niu : (iso ≠ u8)) (q5 : Exa Z h dd "java/util/Base64$Decoder") (q6 : Fld Z h dd "java/util/Base64$Decoder" "isURL" "Z" (.int 0)) (q7 : Fld Z h dd "java/util/Base64$Decoder" "isMIME" "Z" (.int 0)) (TS : (PTS Z tb)) (TA : (PTA Z tb ktb)) (q10 : Exa Z h s "java/lang/String") (q11 : Fld Z h s "java/lang/String" "value" "[B" (.ref u)) (q12 : Fld Z h s "java/lang/String" "coder" "B" (.int 0)) (q13 : Arv Z h u ku .byte 8 (tx4 v g) (.int 0)) (q14 : Exa Z h u "[B") (hv : (v < 16777216)) (hg : (g < 16777216)) (hzg : (g % 65536 = 0)) :
 Ct l Z consts_1 mN21 cN19 2 (some (.array .byte)) ⟨5, 2, 14, 95⟩ #[.ref dd, .ref s] h [] (fun rv' hp' so' => ∃ r : Addr, ∃ kr : ClassId, rv' = some (.ref r) ∧ so' = [] ∧ (h.size ≤ r) ∧ Arv Z hp' r kr .byte 4 [.int (sb (v / 65536)), .int (sb (v / 256)), .int (sb v), .int (sb (g / 65536))] (.int 0)) := by
  refine Ct.mk "java/util/Base64$Decoder" "decode" rfl rfl (a0 := a0) (plainFor_of_name opn3) hO hE (fun x q => nomatch q) ?_
  intro K T W
  rw [oef8]
  refine gAloadN W d12_0 rfl rfl rfl ?_
  refine gAloadN W d12_1 rfl rfl rfl ?_
  refine wGetS W d12_2 (ow64 hw) Via.refl SI rfl fun _ D => ?_
  refine wVirtual (y := mN17) (z := mN17) (Wd := 1) (a := s) (argsL := [.ref iso]) (rest := [.ref dd]) D d12_5 (ow66 hw) (ow67 hw) (ow69 hw) (ow68 hw) (nfS (ow69 hw)) (by decide) (Cb.ct (ob_gb hw hE s z iso u8 u ku 8 (tx4 v g) h D.old SC hz SI SU niu q10 q11 q12 q13 q14 (by decide)) (ow70 hw) (ow15 hw) hE (by decide) (by decide)) q10 (by simp) rfl (lenOf opd11 rfl) rfl (Nat.le_of_eq rfl) (by decide) (by decide) rfl fun _ _ _ E B C _ H => ?_
  obtain ⟨A, rfl, rfl, _, I⟩ := H
  show Go K _ _ _ _ [.ref A, .ref dd]
  have J : Arv Z E A ku .byte 8 (tx4 v g) (.int 0) := I
  have F := q5.keep C
  have L := q6.keep C nin0
  have M := q7.keep C nin0
  refine wVirtual (y := mN20) (z := mN20) (Wd := 0) (a := dd) (argsL := [.ref A]) (rest := []) B d12_8 (ow97 hw) (ow98 hw) (ow100 hw) (ow99 hw) (nfS (ow100 hw)) (by decide) (Cb.ct (ob_dec4 hw hE dd A ku tb ktb v g E B.old F L M TS TA J hv hg hzg) (ow101 hw) (ow58 hw) hE (by decide) (by decide)) F (by simp) rfl (lenOf opd12 rfl) rfl (Nat.le_of_eq rfl) (by decide) (by decide) rfl fun _ _ _ _ N _ _ O => ?_
  obtain ⟨G, P, rfl, rfl, Q, R⟩ := O
  show Go K _ _ _ _ [.ref G]
  exact wRetA (so := []) (t := .array .byte) N d12_11 rfl rfl rfl (by decide) (by decide) (fun _ q => nomatch q) ⟨G, P, rfl, rfl, (Nat.le_trans B.grow Q), R⟩
theorem ob_ol5 (hw : TH a0 Z) (hE : EW Z a0 consts_1) (dd sr : Addr) (ks : ClassId) (tb : Addr) (ktb : ClassId) (v g : Nat) (h : Heap) (hO : Ol Z h) (q0 : Exa Z h dd "java/util/Base64$Decoder") (q1 : Fld Z h dd "java/util/Base64$Decoder" "isURL" "Z" (.int 0)) (q2 : Fld Z h dd "java/util/Base64$Decoder" "isMIME" "Z" (.int 0)) (TS : (PTS Z tb)) (TA : (PTA Z tb ktb)) (q5 : Arv Z h sr ks .byte 8 (tx5 v g) (.int 0)) :
 Ct l Z consts_1 mN18 cN16 9 (some .int) ⟨0, 0, 0, 0⟩ #[.ref dd, .ref sr, .int 0, .int 8] h [] (fun rv' hp' so' => rv' = some (.int 5) ∧ so' = []) := by
  refine Ct.mk "java/util/Base64$Decoder" "decodedOutLength" rfl rfl (a0 := a0) (plainFor_of_name opn3) hO hE (fun x q => nomatch q) ?_
  intro K T W
  rw [oef13]
  refine gAloadN W d19_0 rfl rfl rfl ?_
  refine wGetF W d19_1 (ow107 hw) Via.refl q1 rfl fun _ C => ?_
  refine gIfYes (pc' := 13) C d19_4 ((if0 _ _).trans (teq (by decide)).1) (by decide) rfl ?_
  refine wGetS C d19_13 (ow109 hw) Via.refl TS rfl fun _ B => ?_
  refine gAstore (ls' := #[aR dd, aR sr, aI 0, aI 8, aR tb, aU, aU, aU, aU]) B d19_16 rfl rfl rfl ?_
  refine gIconst (z := 0) B d19_18 rfl rfl ?_
  refine gIstore (ls' := #[aR dd, aR sr, aI 0, aI 8, aR tb, aI 0, aU, aU, aU]) B d19_19 rfl rfl ?_
  refine gIloadN B d19_21 rfl rfl ?_
  refine gIloadN B d19_22 rfl rfl ?_
  refine gIsub (z := 8) B d19_23 (by decide) rfl ?_
  refine gIstore (ls' := #[aR dd, aR sr, aI 0, aI 8, aR tb, aI 0, aI 8, aU, aU]) B d19_24 rfl rfl ?_
  refine gIload B d19_26 rfl rfl ?_
  refine gIfYes (pc' := 33) B d19_28 ((if0 _ _).trans (feq (by decide)).2) (by decide) rfl ?_
  refine gIload B d19_33 rfl rfl ?_
  refine gIconst (z := 2) B d19_35 rfl rfl ?_
  refine gIcmpYes (pc' := 66) B d19_36 (flt (by decide)).2.1 (by decide) rfl ?_
  refine gAloadN B d19_66 rfl rfl rfl ?_
  refine wGetF B d19_67 (ow110 hw) Via.refl q2 rfl fun _ A => ?_
  refine gIfYes (pc' := 141) A d19_70 ((if0 _ _).trans (teq (by decide)).1) (by decide) rfl ?_
  refine gAloadN A d19_141 rfl rfl rfl ?_
  refine gIloadN A d19_142 rfl rfl ?_
  refine gIconst (z := 1) A d19_143 rfl rfl ?_
  refine gIsub (z := 7) A d19_144 (by decide) rfl ?_
  refine wLdB (v := (.int 61)) A d19_145 q5 (by decide) rfl rfl ?_
  refine gBipush (z := 61) A d19_146 rfl rfl ?_
  refine gIcmpNo A d19_148 (teq (by decide)).2 rfl ?_
  refine gIinc (z := 1) (ls' := #[aR dd, aR sr, aI 0, aI 8, aR tb, aI 1, aI 8, aU, aU]) A d19_151 rfl (by decide) rfl rfl ?_
  refine gAloadN A d19_154 rfl rfl rfl ?_
  refine gIloadN A d19_155 rfl rfl ?_
  refine gIconst (z := 2) A d19_156 rfl rfl ?_
  refine gIsub (z := 6) A d19_157 (by decide) rfl ?_
  refine wLdB (v := (.int (Int32.ofNat (symN (sx2 g))))) A d19_158 q5 (by decide) rfl rfl ?_
  refine gBipush (z := 61) A d19_159 rfl rfl ?_
  refine gIcmpYes (pc' := 167) A d19_161 (feq (fun q => symN_61 (ofNat_inj (b := 61) (Nat.lt_of_le_of_lt (symN_le _) (by decide)) (by decide) q))).2 (by decide) rfl ?_
  refine gIload A d19_167 rfl rfl ?_
  refine gIfYes (pc' := 187) A d19_169 ((if0 _ _).trans (feq (by decide)).2) (by decide) rfl ?_
  refine gIconst (z := 3) A d19_187 rfl rfl ?_
  refine gIload A d19_188 rfl rfl ?_
  refine gI2L (z := (8 : Int64)) A d19_190 (by decide) rfl ?_
  refine wLdcL (v := (3 : Int64)) A d19_191 (ow112 hw) rfl ?_
  refine gLadd (z := (11 : Int64)) A d19_194 (by decide) rfl ?_
  refine wLdcL (v := (4 : Int64)) A d19_195 (ow113 hw) rfl ?_
  refine gLdiv (z := (2 : Int64)) A d19_198 (by decide) (by decide) rfl ?_
  refine gL2I (z := 2) A d19_199 (by decide) rfl ?_
  refine gImul (z := 6) A d19_200 (by decide) rfl ?_
  refine gIload A d19_201 rfl rfl ?_
  refine gIsub (z := 5) A d19_203 (by decide) rfl ?_
  exact wRetI (so := []) (t := .int) A d19_204 (by simp) rfl (by decide) (by decide) (fun _ q => nomatch q) ⟨rfl, rfl⟩
theorem ob_bk5 (hw : TH a0 Z) (hE : EW Z a0 consts_1) (dd sr : Addr) (ks : ClassId) (ds : Addr) (kds : ClassId) (tb : Addr) (ktb : ClassId) (v g : Nat) (h : Heap) (hO : Ol Z h) (TS : (PTS Z tb)) (TA : (PTA Z tb ktb)) (q2 : Arv Z h sr ks .byte 8 (tx5 v g) (.int 0)) (q3 : Arv Z h ds kds .byte 5 [.int 0, .int 0, .int 0, .int 0, .int 0] (.int 0)) (nsd : (sr ≠ ds)) (ntd : (tb ≠ ds)) (hv : (v < 16777216)) (hg : (g < 16777216)) (hzg : (g % 256 = 0)) (ge_ds : Z.heap.size ≤ ds) :
 Ct l Z consts_1 mN22 cN20 16 (some .int) ⟨0, 0, 0, 0⟩ #[.ref dd, .ref sr, .int 0, .int 8, .ref ds, .int 0, .int 0, .int 0] h [ds] (fun rv' hp' so' => rv' = some (.int 3) ∧ so' = [] ∧ Arv Z hp' ds kds .byte 5 [.int (sb (v / 65536)), .int (sb (v / 256)), .int (sb v), .int 0, .int 0] (.int 0)) := by
  refine Ct.mk "java/util/Base64$Decoder" "decodeBlock" rfl rfl (a0 := a0) (plainFor_of_name opn3) hO hE (fun x q => by simp at q; subst q; exact ge_ds) ?_
  intro K T W
  rw [oef16]
  refine gIload W d39_0 rfl rfl ?_
  refine gIfYes (pc' := 11) W d39_2 ((if0 _ _).trans (teq (by decide)).1) (by decide) rfl ?_
  refine wGetS W d39_11 (ow109 hw) Via.refl TS rfl fun _ A => ?_
  refine gAstore (ls' := #[aR dd, aR sr, aI 0, aI 8, aR ds, aI 0, aI 0, aI 0, aR tb, aU, aU, aU, aU, aU, aU, aU]) A d39_14 rfl rfl rfl ?_
  refine gIloadN A d39_16 rfl rfl ?_
  refine gIloadN A d39_17 rfl rfl ?_
  refine gIloadN A d39_18 rfl rfl ?_
  refine gIsub (z := 8) A d39_19 (by decide) rfl ?_
  refine gBipush (z := (-4)) A d39_20 rfl rfl ?_
  refine gIand (z := 8) A d39_22 (by decide) rfl ?_
  refine gIadd (z := 8) A d39_23 (by decide) rfl ?_
  refine gIstore (ls' := #[aR dd, aR sr, aI 0, aI 8, aR ds, aI 0, aI 0, aI 0, aR tb, aI 8, aU, aU, aU, aU, aU, aU]) A d39_24 rfl rfl ?_
  refine gIload A d39_26 rfl rfl ?_
  refine gIstore (ls' := #[aR dd, aR sr, aI 0, aI 8, aR ds, aI 0, aI 0, aI 0, aR tb, aI 8, aI 0, aU, aU, aU, aU, aU]) A d39_28 rfl rfl ?_
  refine gIloadN A d39_30 rfl rfl ?_
  refine gIload A d39_31 rfl rfl ?_
  refine gIcmpNo A d39_33 (tlt (by decide)).2.1 rfl ?_
  refine gAload A d39_36 rfl rfl rfl ?_
  refine gAloadN A d39_38 rfl rfl rfl ?_
  refine gIloadN A d39_39 rfl rfl ?_
  refine gIinc (z := 1) (ls' := #[aR dd, aR sr, aI 1, aI 8, aR ds, aI 0, aI 0, aI 0, aR tb, aI 8, aI 0, aU, aU, aU, aU, aU]) A d39_40 rfl (by decide) rfl rfl ?_
  refine wLdB (v := (.int (Int32.ofNat (symN (sx0 v))))) A d39_43 q2 (by decide) rfl rfl ?_
  refine gSipush (z := 255) A d39_44 rfl rfl ?_
  refine gIand (z := (Int32.ofNat (symN (sx0 v)))) A d39_47 (b8_of (symN_le _)).mask rfl ?_
  have E := TA.ext A.old.2
  refine wLdI (v := (.int (Int32.ofNat (sx0 v)))) A d39_48 E (ofNat_inb (n := 256) (Nat.lt_of_le_of_lt (symN_le _) (by decide)) (by decide)) (by rw [ofNat_clamp (Nat.lt_of_le_of_lt (symN_le _) (by decide))]; exact tab_at (sx0_lt _)) rfl ?_
  refine gIstore (ls' := #[aR dd, aR sr, aI 1, aI 8, aR ds, aI 0, aI 0, aI 0, aR tb, aI 8, aI 0, aI (Int32.ofNat (sx0 v)), aU, aU, aU, aU]) A d39_49 rfl rfl ?_
  refine gAload A d39_51 rfl rfl rfl ?_
  refine gAloadN A d39_53 rfl rfl rfl ?_
  refine gIloadN A d39_54 rfl rfl ?_
  refine gIinc (z := 2) (ls' := #[aR dd, aR sr, aI 2, aI 8, aR ds, aI 0, aI 0, aI 0, aR tb, aI 8, aI 0, aI (Int32.ofNat (sx0 v)), aU, aU, aU, aU]) A d39_55 rfl (by decide) rfl rfl ?_
  refine wLdB (v := (.int (Int32.ofNat (symN (sx1 v))))) A d39_58 q2 (by decide) rfl rfl ?_
  refine gSipush (z := 255) A d39_59 rfl rfl ?_
  refine gIand (z := (Int32.ofNat (symN (sx1 v)))) A d39_62 (b8_of (symN_le _)).mask rfl ?_
  refine wLdI (v := (.int (Int32.ofNat (sx1 v)))) A d39_63 E (ofNat_inb (n := 256) (Nat.lt_of_le_of_lt (symN_le _) (by decide)) (by decide)) (by rw [ofNat_clamp (Nat.lt_of_le_of_lt (symN_le _) (by decide))]; exact tab_at (sx1_lt _)) rfl ?_
  refine gIstore (ls' := #[aR dd, aR sr, aI 2, aI 8, aR ds, aI 0, aI 0, aI 0, aR tb, aI 8, aI 0, aI (Int32.ofNat (sx0 v)), aI (Int32.ofNat (sx1 v)), aU, aU, aU]) A d39_64 rfl rfl ?_
  refine gAload A d39_66 rfl rfl rfl ?_
  refine gAloadN A d39_68 rfl rfl rfl ?_
  refine gIloadN A d39_69 rfl rfl ?_
  refine gIinc (z := 3) (ls' := #[aR dd, aR sr, aI 3, aI 8, aR ds, aI 0, aI 0, aI 0, aR tb, aI 8, aI 0, aI (Int32.ofNat (sx0 v)), aI (Int32.ofNat (sx1 v)), aU, aU, aU]) A d39_70 rfl (by decide) rfl rfl ?_
  refine wLdB (v := (.int (Int32.ofNat (symN (sx2 v))))) A d39_73 q2 (by decide) rfl rfl ?_
  refine gSipush (z := 255) A d39_74 rfl rfl ?_
  refine gIand (z := (Int32.ofNat (symN (sx2 v)))) A d39_77 (b8_of (symN_le _)).mask rfl ?_
  refine wLdI (v := (.int (Int32.ofNat (sx2 v)))) A d39_78 E (ofNat_inb (n := 256) (Nat.lt_of_le_of_lt (symN_le _) (by decide)) (by decide)) (by rw [ofNat_clamp (Nat.lt_of_le_of_lt (symN_le _) (by decide))]; exact tab_at (sx2_lt _)) rfl ?_
  refine gIstore (ls' := #[aR dd, aR sr, aI 3, aI 8, aR ds, aI 0, aI 0, aI 0, aR tb, aI 8, aI 0, aI (Int32.ofNat (sx0 v)), aI (Int32.ofNat (sx1 v)), aI (Int32.ofNat (sx2 v)), aU, aU]) A d39_79 rfl rfl ?_
  refine gAload A d39_81 rfl rfl rfl ?_
  refine gAloadN A d39_83 rfl rfl rfl ?_
  refine gIloadN A d39_84 rfl rfl ?_
  refine gIinc (z := 4) (ls' := #[aR dd, aR sr, aI 4, aI 8, aR ds, aI 0, aI 0, aI 0, aR tb, aI 8, aI 0, aI (Int32.ofNat (sx0 v)), aI (Int32.ofNat (sx1 v)), aI (Int32.ofNat (sx2 v)), aU, aU]) A d39_85 rfl (by decide) rfl rfl ?_
  refine wLdB (v := (.int (Int32.ofNat (symN (sx3 v))))) A d39_88 q2 (by decide) rfl rfl ?_
  refine gSipush (z := 255) A d39_89 rfl rfl ?_
  refine gIand (z := (Int32.ofNat (symN (sx3 v)))) A d39_92 (b8_of (symN_le _)).mask rfl ?_
  refine wLdI (v := (.int (Int32.ofNat (sx3 v)))) A d39_93 E (ofNat_inb (n := 256) (Nat.lt_of_le_of_lt (symN_le _) (by decide)) (by decide)) (by rw [ofNat_clamp (Nat.lt_of_le_of_lt (symN_le _) (by decide))]; exact tab_at (sx3_lt _)) rfl ?_
  refine gIstore (ls' := #[aR dd, aR sr, aI 4, aI 8, aR ds, aI 0, aI 0, aI 0, aR tb, aI 8, aI 0, aI (Int32.ofNat (sx0 v)), aI (Int32.ofNat (sx1 v)), aI (Int32.ofNat (sx2 v)), aI (Int32.ofNat (sx3 v)), aU]) A d39_94 rfl rfl ?_
  refine gIload A d39_96 rfl rfl ?_
  refine gIload A d39_98 rfl rfl ?_
  refine gIor (z := ((Int32.ofNat (sx0 v)) ||| (Int32.ofNat (sx1 v)))) A d39_100 rfl rfl ?_
  refine gIload A d39_101 rfl rfl ?_
  refine gIor (z := (((Int32.ofNat (sx0 v)) ||| (Int32.ofNat (sx1 v))) ||| (Int32.ofNat (sx2 v)))) A d39_103 rfl rfl ?_
  refine gIload A d39_104 rfl rfl ?_
  refine gIor (z := ((((Int32.ofNat (sx0 v)) ||| (Int32.ofNat (sx1 v))) ||| (Int32.ofNat (sx2 v))) ||| (Int32.ofNat (sx3 v)))) A d39_106 rfl rfl ?_
  refine gIfYes (pc' := 116) A d39_107 ((if0 _ _).trans (flt (or4_nn (Nat.lt_trans (sx0_lt _) (by decide)) (Nat.lt_trans (sx1_lt _) (by decide)) (Nat.lt_trans (sx2_lt _) (by decide)) (Nat.lt_trans (sx3_lt _) (by decide)))).2.1) (by decide) rfl ?_
  refine gIload A d39_116 rfl rfl ?_
  refine gBipush (z := 18) A d39_118 rfl rfl ?_
  refine gIshl (z := (Int32.ofNat ((sx0 v) * 262144))) A d39_120 (shlN (k := 18) (by decide) (by decide) (by have := sx0_lt v; omega)) rfl ?_
  refine gIload A d39_121 rfl rfl ?_
  refine gBipush (z := 12) A d39_123 rfl rfl ?_
  refine gIshl (z := (Int32.ofNat ((sx1 v) * 4096))) A d39_125 (shlN (k := 12) (by decide) (by decide) (by have := sx1_lt v; omega)) rfl ?_
  refine gIor (z := (Int32.ofNat ((sx0 v) * 262144 + (sx1 v) * 4096))) A d39_126 (or18 v) rfl ?_
  refine gIload A d39_127 rfl rfl ?_
  refine gBipush (z := 6) A d39_129 rfl rfl ?_
  refine gIshl (z := (Int32.ofNat ((sx2 v) * 64))) A d39_131 (shlN (k := 6) (by decide) (by decide) (by have := sx2_lt v; omega)) rfl ?_
  refine gIor (z := (Int32.ofNat ((sx0 v) * 262144 + (sx1 v) * 4096 + (sx2 v) * 64))) A d39_132 (or12 v) rfl ?_
  refine gIload A d39_133 rfl rfl ?_
  refine gIor (z := (Int32.ofNat v)) A d39_135 (or6 hv) rfl ?_
  refine gIstore (ls' := #[aR dd, aR sr, aI 4, aI 8, aR ds, aI 0, aI 0, aI 0, aR tb, aI 8, aI 0, aI (Int32.ofNat (sx0 v)), aI (Int32.ofNat (sx1 v)), aI (Int32.ofNat (sx2 v)), aI (Int32.ofNat (sx3 v)), aI (Int32.ofNat v)]) A d39_136 rfl rfl ?_
  refine gAload A d39_138 rfl rfl rfl ?_
  refine gIload A d39_140 rfl rfl ?_
  refine gIinc (z := 1) (ls' := #[aR dd, aR sr, aI 4, aI 8, aR ds, aI 0, aI 0, aI 0, aR tb, aI 8, aI 1, aI (Int32.ofNat (sx0 v)), aI (Int32.ofNat (sx1 v)), aI (Int32.ofNat (sx2 v)), aI (Int32.ofNat (sx3 v)), aI (Int32.ofNat v)]) A d39_142 rfl (by decide) rfl rfl ?_
  refine gIload A d39_145 rfl rfl ?_
  refine gBipush (z := 16) A d39_147 rfl rfl ?_
  refine gIshr (z := (Int32.ofNat (v / 65536))) A d39_149 (shrN (k := 16) (by decide) (by decide) (by omega)) rfl ?_
  refine gI2B (z := (sb (v / 65536))) A d39_150 rfl rfl ?_
  refine wStB (y := (sb (v / 65536))) A d39_151 (by simp) q3 (by decide) (sb_idem _) 0 (by decide) (show 0 < 5 from by decide) rfl fun _ H C I J => ?_
  have L : Arv Z H ds kds .byte 5 [.int (sb (v / 65536)), .int 0, .int 0, .int 0, .int 0] (.int 0) := J
  refine gAload C d39_152 rfl rfl rfl ?_
  refine gIload C d39_154 rfl rfl ?_
  refine gIinc (z := 2) (ls' := #[aR dd, aR sr, aI 4, aI 8, aR ds, aI 0, aI 0, aI 0, aR tb, aI 8, aI 2, aI (Int32.ofNat (sx0 v)), aI (Int32.ofNat (sx1 v)), aI (Int32.ofNat (sx2 v)), aI (Int32.ofNat (sx3 v)), aI (Int32.ofNat v)]) C d39_156 rfl (by decide) rfl rfl ?_
  refine gIload C d39_159 rfl rfl ?_
  refine gBipush (z := 8) C d39_161 rfl rfl ?_
  refine gIshr (z := (Int32.ofNat (v / 256))) C d39_163 (shrN (k := 8) (by decide) (by decide) (by omega)) rfl ?_
  refine gI2B (z := (sb (v / 256))) C d39_164 rfl rfl ?_
  refine wStB (y := (sb (v / 256))) C d39_165 (by simp) L (by decide) (sb_idem _) 1 (by decide) (show 1 < 5 from by decide) rfl fun _ M D N O => ?_
  have P : Arv Z M ds kds .byte 5 [.int (sb (v / 65536)), .int (sb (v / 256)), .int 0, .int 0, .int 0] (.int 0) := O
  refine gAload D d39_166 rfl rfl rfl ?_
  refine gIload D d39_168 rfl rfl ?_
  refine gIinc (z := 3) (ls' := #[aR dd, aR sr, aI 4, aI 8, aR ds, aI 0, aI 0, aI 0, aR tb, aI 8, aI 3, aI (Int32.ofNat (sx0 v)), aI (Int32.ofNat (sx1 v)), aI (Int32.ofNat (sx2 v)), aI (Int32.ofNat (sx3 v)), aI (Int32.ofNat v)]) D d39_170 rfl (by decide) rfl rfl ?_
  refine gIload D d39_173 rfl rfl ?_
  refine gI2B (z := (sb v)) D d39_175 rfl rfl ?_
  refine wStB (y := (sb v)) D d39_176 (by simp) P (by decide) (sb_idem _) 2 (by decide) (show 2 < 5 from by decide) rfl fun _ Q B R S => ?_
  have U : Arv Z Q ds kds .byte 5 [.int (sb (v / 65536)), .int (sb (v / 256)), .int (sb v), .int 0, .int 0] (.int 0) := S
  refine gGoto (pc' := 30) B d39_177 (by decide) rfl ?_
  refine gIloadN B d39_30 rfl rfl ?_
  refine gIload B d39_31 rfl rfl ?_
  refine gIcmpNo B d39_33 (tlt (by decide)).2.1 rfl ?_
  refine gAload B d39_36 rfl rfl rfl ?_
  refine gAloadN B d39_38 rfl rfl rfl ?_
  refine gIloadN B d39_39 rfl rfl ?_
  refine gIinc (z := 5) (ls' := #[aR dd, aR sr, aI 5, aI 8, aR ds, aI 0, aI 0, aI 0, aR tb, aI 8, aI 3, aI (Int32.ofNat (sx0 v)), aI (Int32.ofNat (sx1 v)), aI (Int32.ofNat (sx2 v)), aI (Int32.ofNat (sx3 v)), aI (Int32.ofNat v)]) B d39_40 rfl (by decide) rfl rfl ?_
  have V := q2.other I nsd
  have X := V.other N nsd
  have F := X.other R nsd
  refine wLdB (v := (.int (Int32.ofNat (symN (sx0 g))))) B d39_43 F (by decide) rfl rfl ?_
  refine gSipush (z := 255) B d39_44 rfl rfl ?_
  refine gIand (z := (Int32.ofNat (symN (sx0 g)))) B d39_47 (b8_of (symN_le _)).mask rfl ?_
  have G := TA.ext B.old.2
  refine wLdI (v := (.int (Int32.ofNat (sx0 g)))) B d39_48 G (ofNat_inb (n := 256) (Nat.lt_of_le_of_lt (symN_le _) (by decide)) (by decide)) (by rw [ofNat_clamp (Nat.lt_of_le_of_lt (symN_le _) (by decide))]; exact tab_at (sx0_lt _)) rfl ?_
  refine gIstore (ls' := #[aR dd, aR sr, aI 5, aI 8, aR ds, aI 0, aI 0, aI 0, aR tb, aI 8, aI 3, aI (Int32.ofNat (sx0 g)), aI (Int32.ofNat (sx1 v)), aI (Int32.ofNat (sx2 v)), aI (Int32.ofNat (sx3 v)), aI (Int32.ofNat v)]) B d39_49 rfl rfl ?_
  refine gAload B d39_51 rfl rfl rfl ?_
  refine gAloadN B d39_53 rfl rfl rfl ?_
  refine gIloadN B d39_54 rfl rfl ?_
  refine gIinc (z := 6) (ls' := #[aR dd, aR sr, aI 6, aI 8, aR ds, aI 0, aI 0, aI 0, aR tb, aI 8, aI 3, aI (Int32.ofNat (sx0 g)), aI (Int32.ofNat (sx1 v)), aI (Int32.ofNat (sx2 v)), aI (Int32.ofNat (sx3 v)), aI (Int32.ofNat v)]) B d39_55 rfl (by decide) rfl rfl ?_
  refine wLdB (v := (.int (Int32.ofNat (symN (sx1 g))))) B d39_58 F (by decide) rfl rfl ?_
  refine gSipush (z := 255) B d39_59 rfl rfl ?_
  refine gIand (z := (Int32.ofNat (symN (sx1 g)))) B d39_62 (b8_of (symN_le _)).mask rfl ?_
  refine wLdI (v := (.int (Int32.ofNat (sx1 g)))) B d39_63 G (ofNat_inb (n := 256) (Nat.lt_of_le_of_lt (symN_le _) (by decide)) (by decide)) (by rw [ofNat_clamp (Nat.lt_of_le_of_lt (symN_le _) (by decide))]; exact tab_at (sx1_lt _)) rfl ?_
  refine gIstore (ls' := #[aR dd, aR sr, aI 6, aI 8, aR ds, aI 0, aI 0, aI 0, aR tb, aI 8, aI 3, aI (Int32.ofNat (sx0 g)), aI (Int32.ofNat (sx1 g)), aI (Int32.ofNat (sx2 v)), aI (Int32.ofNat (sx3 v)), aI (Int32.ofNat v)]) B d39_64 rfl rfl ?_
  refine gAload B d39_66 rfl rfl rfl ?_
  refine gAloadN B d39_68 rfl rfl rfl ?_
  refine gIloadN B d39_69 rfl rfl ?_
  refine gIinc (z := 7) (ls' := #[aR dd, aR sr, aI 7, aI 8, aR ds, aI 0, aI 0, aI 0, aR tb, aI 8, aI 3, aI (Int32.ofNat (sx0 g)), aI (Int32.ofNat (sx1 g)), aI (Int32.ofNat (sx2 v)), aI (Int32.ofNat (sx3 v)), aI (Int32.ofNat v)]) B d39_70 rfl (by decide) rfl rfl ?_
  refine wLdB (v := (.int (Int32.ofNat (symN (sx2 g))))) B d39_73 F (by decide) rfl rfl ?_
  refine gSipush (z := 255) B d39_74 rfl rfl ?_
  refine gIand (z := (Int32.ofNat (symN (sx2 g)))) B d39_77 (b8_of (symN_le _)).mask rfl ?_
  refine wLdI (v := (.int (Int32.ofNat (sx2 g)))) B d39_78 G (ofNat_inb (n := 256) (Nat.lt_of_le_of_lt (symN_le _) (by decide)) (by decide)) (by rw [ofNat_clamp (Nat.lt_of_le_of_lt (symN_le _) (by decide))]; exact tab_at (sx2_lt _)) rfl ?_
  refine gIstore (ls' := #[aR dd, aR sr, aI 7, aI 8, aR ds, aI 0, aI 0, aI 0, aR tb, aI 8, aI 3, aI (Int32.ofNat (sx0 g)), aI (Int32.ofNat (sx1 g)), aI (Int32.ofNat (sx2 g)), aI (Int32.ofNat (sx3 v)), aI (Int32.ofNat v)]) B d39_79 rfl rfl ?_
  refine gAload B d39_81 rfl rfl rfl ?_
  refine gAloadN B d39_83 rfl rfl rfl ?_
  refine gIloadN B d39_84 rfl rfl ?_
  refine gIinc (z := 8) (ls' := #[aR dd, aR sr, aI 8, aI 8, aR ds, aI 0, aI 0, aI 0, aR tb, aI 8, aI 3, aI (Int32.ofNat (sx0 g)), aI (Int32.ofNat (sx1 g)), aI (Int32.ofNat (sx2 g)), aI (Int32.ofNat (sx3 v)), aI (Int32.ofNat v)]) B d39_85 rfl (by decide) rfl rfl ?_
  refine wLdB (v := (.int 61)) B d39_88 F (by decide) rfl rfl ?_
  refine gSipush (z := 255) B d39_89 rfl rfl ?_
  refine gIand (z := 61) B d39_92 (by decide) rfl ?_
  refine wLdI (v := (.int (-2))) B d39_93 G (by decide) rfl rfl ?_
  refine gIstore (ls' := #[aR dd, aR sr, aI 8, aI 8, aR ds, aI 0, aI 0, aI 0, aR tb, aI 8, aI 3, aI (Int32.ofNat (sx0 g)), aI (Int32.ofNat (sx1 g)), aI (Int32.ofNat (sx2 g)), aI (-2), aI (Int32.ofNat v)]) B d39_94 rfl rfl ?_
  refine gIload B d39_96 rfl rfl ?_
  refine gIload B d39_98 rfl rfl ?_
  refine gIor (z := ((Int32.ofNat (sx0 g)) ||| (Int32.ofNat (sx1 g)))) B d39_100 rfl rfl ?_
  refine gIload B d39_101 rfl rfl ?_
  refine gIor (z := (((Int32.ofNat (sx0 g)) ||| (Int32.ofNat (sx1 g))) ||| (Int32.ofNat (sx2 g)))) B d39_103 rfl rfl ?_
  refine gIload B d39_104 rfl rfl ?_
  refine gIor (z := ((((Int32.ofNat (sx0 g)) ||| (Int32.ofNat (sx1 g))) ||| (Int32.ofNat (sx2 g))) ||| (-2))) B d39_106 rfl rfl ?_
  refine gIfNo B d39_107 ((if0 _ _).trans (tlt (or4_neg (by decide))).2.1) rfl ?_
  refine gIload B d39_110 rfl rfl ?_
  refine gIload B d39_112 rfl rfl ?_
  refine gIsub (z := 3) B d39_114 (by decide) rfl ?_
  exact wRetI (so := []) (t := .int) B d39_115 (by simp) rfl (by decide) (by decide) (fun _ q => nomatch q) ⟨rfl, rfl, U⟩
theorem ob_d05 (hw : TH a0 Z) (hE : EW Z a0 consts_1) (dd sr : Addr) (ks : ClassId) (ds : Addr) (kds : ClassId) (tb : Addr) (ktb : ClassId) (v g : Nat) (h : Heap) (hO : Ol Z h) (q0 : Exa Z h dd "java/util/Base64$Decoder") (q1 : Fld Z h dd "java/util/Base64$Decoder" "isURL" "Z" (.int 0)) (q2 : Fld Z h dd "java/util/Base64$Decoder" "isMIME" "Z" (.int 0)) (TS : (PTS Z tb)) (TA : (PTA Z tb ktb)) (q5 : Arv Z h sr ks .byte 8 (tx5 v g) (.int 0)) (q6 : Arv Z h ds kds .byte 5 [.int 0, .int 0, .int 0, .int 0, .int 0] (.int 0)) (nsd : (sr ≠ ds)) (ntd : (tb ≠ ds)) (hv : (v < 16777216)) (hg : (g < 16777216)) (hzg : (g % 256 = 0)) (ge_ds : Z.heap.size ≤ ds) :
 Ct l Z consts_1 mN19 cN17 11 (some .int) ⟨1, 0, 0, 40⟩ #[.ref dd, .ref sr, .int 0, .int 8, .ref ds] h [ds] (fun rv' hp' so' => rv' = some (.int 5) ∧ so' = [] ∧ Arv Z hp' ds kds .byte 5 [.int (sb (v / 65536)), .int (sb (v / 256)), .int (sb v), .int (sb (g / 65536)), .int (sb (g / 256))] (.int 0)) := by
  refine Ct.mk "java/util/Base64$Decoder" "decode0" rfl rfl (a0 := a0) (plainFor_of_name opn3) hO hE (fun x q => by simp at q; subst q; exact ge_ds) ?_
  intro K T W
  rw [oef14]
  refine gAloadN W d20_0 rfl rfl rfl ?_
  refine wGetF W d20_1 (ow107 hw) Via.refl q1 rfl fun _ G => ?_
  refine gIfYes (pc' := 13) G d20_4 ((if0 _ _).trans (teq (by decide)).1) (by decide) rfl ?_
  refine wGetS G d20_13 (ow109 hw) Via.refl TS rfl fun _ B => ?_
  refine gAstore (ls' := #[aR dd, aR sr, aI 0, aI 8, aR ds, aR tb, aU, aU, aU, aU, aU]) B d20_16 rfl rfl rfl ?_
  refine gIconst (z := 0) B d20_18 rfl rfl ?_
  refine gIstore (ls' := #[aR dd, aR sr, aI 0, aI 8, aR ds, aR tb, aI 0, aU, aU, aU, aU]) B d20_19 rfl rfl ?_
  refine gIconst (z := 0) B d20_21 rfl rfl ?_
  refine gIstore (ls' := #[aR dd, aR sr, aI 0, aI 8, aR ds, aR tb, aI 0, aI 0, aU, aU, aU]) B d20_22 rfl rfl ?_
  refine gBipush (z := 18) B d20_24 rfl rfl ?_
  refine gIstore (ls' := #[aR dd, aR sr, aI 0, aI 8, aR ds, aR tb, aI 0, aI 0, aI 18, aU, aU]) B d20_26 rfl rfl ?_
  refine gIloadN B d20_28 rfl rfl ?_
  refine gIloadN B d20_29 rfl rfl ?_
  refine gIcmpNo B d20_30 (tlt (by decide)).2.1 rfl ?_
  refine gIload B d20_33 rfl rfl ?_
  refine gBipush (z := 18) B d20_35 rfl rfl ?_
  refine gIcmpNo B d20_37 (teq (by decide)).2 rfl ?_
  refine gIloadN B d20_40 rfl rfl ?_
  refine gIloadN B d20_41 rfl rfl ?_
  refine gIconst (z := 4) B d20_42 rfl rfl ?_
  refine gIsub (z := 4) B d20_43 (by decide) rfl ?_
  refine gIcmpNo B d20_44 (tlt (by decide)).2.1 rfl ?_
  refine gAloadN B d20_47 rfl rfl rfl ?_
  refine gAloadN B d20_48 rfl rfl rfl ?_
  refine gIloadN B d20_49 rfl rfl ?_
  refine gIloadN B d20_50 rfl rfl ?_
  refine gAload B d20_51 rfl rfl rfl ?_
  refine gIload B d20_53 rfl rfl ?_
  refine gAloadN B d20_55 rfl rfl rfl ?_
  refine wGetF B d20_56 (ow107 hw) Via.refl q1 rfl fun _ H => ?_
  refine gAloadN H d20_59 rfl rfl rfl ?_
  refine wGetF H d20_60 (ow110 hw) Via.refl q2 rfl fun _ I => ?_
  refine wPrivate (y := mN22) (Wd := 0) (a := dd) (argsL := [.ref sr, .int 0, .int 8, .ref ds, .int 0, .int 0, .int 0]) (rest := []) I d20_63 (ow196 hw) (ow197 hw) (ow199 hw) (ow198 hw) (ow200 hw) (by decide) (Cb.ct (ob_bk5 hw hE dd sr ks ds kds tb ktb v g h I.old TS TA q5 q6 nsd ntd hv hg hzg ge_ds) (ow200 hw) (ow58 hw) hE (by decide) (by decide)) q0 (by simp) rfl (lenOf opd13 rfl) rfl (Nat.le_of_eq rfl) (by decide) (by decide) rfl fun _ _ _ _ A J _ L => ?_
  obtain ⟨rfl, rfl, M⟩ := L
  show Go K _ _ _ _ [.int 3]
  refine gIstore (ls' := #[aR dd, aR sr, aI 0, aI 8, aR ds, aR tb, aI 0, aI 0, aI 18, aI 3, aU]) A d20_66 rfl rfl ?_
  refine gIload A d20_68 rfl rfl ?_
  refine gIconst (z := 2) A d20_70 rfl rfl ?_
  refine gIadd (z := 5) A d20_71 (by decide) rfl ?_
  refine gIconst (z := 3) A d20_72 rfl rfl ?_
  refine gIdiv (z := 1) A d20_73 (by decide) (by decide) rfl ?_
  refine gIconst (z := 4) A d20_74 rfl rfl ?_
  refine gImul (z := 4) A d20_75 (by decide) rfl ?_
  refine gIstore (ls' := #[aR dd, aR sr, aI 0, aI 8, aR ds, aR tb, aI 0, aI 0, aI 18, aI 3, aI 4]) A d20_76 rfl rfl ?_
  refine gIloadN A d20_78 rfl rfl ?_
  refine gIload A d20_79 rfl rfl ?_
  refine gIadd (z := 4) A d20_81 (by decide) rfl ?_
  refine gIstoreN (ls' := #[aR dd, aR sr, aI 4, aI 8, aR ds, aR tb, aI 0, aI 0, aI 18, aI 3, aI 4]) A d20_82 rfl rfl ?_
  refine gIload A d20_83 rfl rfl ?_
  refine gIload A d20_85 rfl rfl ?_
  refine gIadd (z := 3) A d20_87 (by decide) rfl ?_
  refine gIstore (ls' := #[aR dd, aR sr, aI 4, aI 8, aR ds, aR tb, aI 3, aI 0, aI 18, aI 3, aI 4]) A d20_88 rfl rfl ?_
  refine gIloadN A d20_90 rfl rfl ?_
  refine gIloadN A d20_91 rfl rfl ?_
  refine gIcmpYes (pc' := 98) A d20_92 (tlt (by decide)).1 (by decide) rfl ?_
  refine gAloadN A d20_98 rfl rfl rfl ?_
  refine gIloadN A d20_99 rfl rfl ?_
  refine gIinc (z := 5) (ls' := #[aR dd, aR sr, aI 5, aI 8, aR ds, aR tb, aI 3, aI 0, aI 18, aI 3, aI 4]) A d20_100 rfl (by decide) rfl rfl ?_
  have E := q5.keep J (ninS nsd nin0)
  refine wLdB (v := (.int (Int32.ofNat (symN (sx0 g))))) A d20_103 E (by decide) rfl rfl ?_
  refine gSipush (z := 255) A d20_104 rfl rfl ?_
  refine gIand (z := (Int32.ofNat (symN (sx0 g)))) A d20_107 (b8_of (symN_le _)).mask rfl ?_
  refine gIstore (ls' := #[aR dd, aR sr, aI 5, aI 8, aR ds, aR tb, aI 3, aI 0, aI 18, aI ((Int32.ofNat (symN (sx0 g)))), aI 4]) A d20_108 rfl rfl ?_
  refine gAload A d20_110 rfl rfl rfl ?_
  refine gIload A d20_112 rfl rfl ?_
  have F := TA.ext A.old.2
  refine wLdI (v := (.int (Int32.ofNat (sx0 g)))) A d20_114 F (ofNat_inb (n := 256) (Nat.lt_of_le_of_lt (symN_le _) (by decide)) (by decide)) (by rw [ofNat_clamp (Nat.lt_of_le_of_lt (symN_le _) (by decide))]; exact tab_at (sx0_lt _)) rfl ?_
  refine gDup A d20_115 rfl rfl ?_
  refine gIstore (ls' := #[aR dd, aR sr, aI 5, aI 8, aR ds, aR tb, aI 3, aI 0, aI 18, aI (Int32.ofNat (sx0 g)), aI 4]) A d20_116 rfl rfl ?_
  refine gIfYes (pc' := 214) A d20_118 ((if0 _ _).trans (flt (ofNat_nn (Nat.lt_trans (sx0_lt _) (by decide)))).2.1) (by decide) rfl ?_
  refine gIload A d20_214 rfl rfl ?_
  refine gIload A d20_216 rfl rfl ?_
  refine gIload A d20_218 rfl rfl ?_
  refine gIshl (z := (Int32.ofNat ((sx0 g) * 262144))) A d20_220 (shlN (k := 18) (by decide) (by decide) (by have := sx0_lt g; omega)) rfl ?_
  refine gIor (z := (Int32.ofNat ((sx0 g) * 262144))) A d20_221 (zor _) rfl ?_
  refine gIstore (ls' := #[aR dd, aR sr, aI 5, aI 8, aR ds, aR tb, aI 3, aI ((Int32.ofNat ((sx0 g) * 262144))), aI 18, aI (Int32.ofNat (sx0 g)), aI 4]) A d20_222 rfl rfl ?_
  refine gIinc (z := 12) (ls' := #[aR dd, aR sr, aI 5, aI 8, aR ds, aR tb, aI 3, aI ((Int32.ofNat ((sx0 g) * 262144))), aI 12, aI (Int32.ofNat (sx0 g)), aI 4]) A d20_224 rfl (by decide) rfl rfl ?_
  refine gIload A d20_227 rfl rfl ?_
  refine gIfYes (pc' := 278) A d20_229 ((if0 _ _).trans (flt (by decide)).2.1) (by decide) rfl ?_
  refine gGoto (pc' := 28) A d20_278 (by decide) rfl ?_
  refine gIloadN A d20_28 rfl rfl ?_
  refine gIloadN A d20_29 rfl rfl ?_
  refine gIcmpNo A d20_30 (tlt (by decide)).2.1 rfl ?_
  refine gIload A d20_33 rfl rfl ?_
  refine gBipush (z := 18) A d20_35 rfl rfl ?_
  refine gIcmpYes (pc' := 90) A d20_37 (feq (by decide)).2 (by decide) rfl ?_
  refine gIloadN A d20_90 rfl rfl ?_
  refine gIloadN A d20_91 rfl rfl ?_
  refine gIcmpYes (pc' := 98) A d20_92 (tlt (by decide)).1 (by decide) rfl ?_
  refine gAloadN A d20_98 rfl rfl rfl ?_
  refine gIloadN A d20_99 rfl rfl ?_
  refine gIinc (z := 6) (ls' := #[aR dd, aR sr, aI 6, aI 8, aR ds, aR tb, aI 3, aI ((Int32.ofNat ((sx0 g) * 262144))), aI 12, aI (Int32.ofNat (sx0 g)), aI 4]) A d20_100 rfl (by decide) rfl rfl ?_
  refine wLdB (v := (.int (Int32.ofNat (symN (sx1 g))))) A d20_103 E (by decide) rfl rfl ?_
  refine gSipush (z := 255) A d20_104 rfl rfl ?_
  refine gIand (z := (Int32.ofNat (symN (sx1 g)))) A d20_107 (b8_of (symN_le _)).mask rfl ?_
  refine gIstore (ls' := #[aR dd, aR sr, aI 6, aI 8, aR ds, aR tb, aI 3, aI ((Int32.ofNat ((sx0 g) * 262144))), aI 12, aI ((Int32.ofNat (symN (sx1 g)))), aI 4]) A d20_108 rfl rfl ?_
  refine gAload A d20_110 rfl rfl rfl ?_
  refine gIload A d20_112 rfl rfl ?_
  refine wLdI (v := (.int (Int32.ofNat (sx1 g)))) A d20_114 F (ofNat_inb (n := 256) (Nat.lt_of_le_of_lt (symN_le _) (by decide)) (by decide)) (by rw [ofNat_clamp (Nat.lt_of_le_of_lt (symN_le _) (by decide))]; exact tab_at (sx1_lt _)) rfl ?_
  refine gDup A d20_115 rfl rfl ?_
  refine gIstore (ls' := #[aR dd, aR sr, aI 6, aI 8, aR ds, aR tb, aI 3, aI ((Int32.ofNat ((sx0 g) * 262144))), aI 12, aI (Int32.ofNat (sx1 g)), aI 4]) A d20_116 rfl rfl ?_
  refine gIfYes (pc' := 214) A d20_118 ((if0 _ _).trans (flt (ofNat_nn (Nat.lt_trans (sx1_lt _) (by decide)))).2.1) (by decide) rfl ?_
  refine gIload A d20_214 rfl rfl ?_
  refine gIload A d20_216 rfl rfl ?_
  refine gIload A d20_218 rfl rfl ?_
  refine gIshl (z := (Int32.ofNat ((sx1 g) * 4096))) A d20_220 (shlN (k := 12) (by decide) (by decide) (by have := sx1_lt g; omega)) rfl ?_
  refine gIor (z := (Int32.ofNat ((sx0 g) * 262144 + (sx1 g) * 4096))) A d20_221 (or18 g) rfl ?_
  refine gIstore (ls' := #[aR dd, aR sr, aI 6, aI 8, aR ds, aR tb, aI 3, aI ((Int32.ofNat ((sx0 g) * 262144 + (sx1 g) * 4096))), aI 12, aI (Int32.ofNat (sx1 g)), aI 4]) A d20_222 rfl rfl ?_
  refine gIinc (z := 6) (ls' := #[aR dd, aR sr, aI 6, aI 8, aR ds, aR tb, aI 3, aI ((Int32.ofNat ((sx0 g) * 262144 + (sx1 g) * 4096))), aI 6, aI (Int32.ofNat (sx1 g)), aI 4]) A d20_224 rfl (by decide) rfl rfl ?_
  refine gIload A d20_227 rfl rfl ?_
  refine gIfYes (pc' := 278) A d20_229 ((if0 _ _).trans (flt (by decide)).2.1) (by decide) rfl ?_
  refine gGoto (pc' := 28) A d20_278 (by decide) rfl ?_
  refine gIloadN A d20_28 rfl rfl ?_
  refine gIloadN A d20_29 rfl rfl ?_
  refine gIcmpNo A d20_30 (tlt (by decide)).2.1 rfl ?_
  refine gIload A d20_33 rfl rfl ?_
  refine gBipush (z := 18) A d20_35 rfl rfl ?_
  refine gIcmpYes (pc' := 90) A d20_37 (feq (by decide)).2 (by decide) rfl ?_
  refine gIloadN A d20_90 rfl rfl ?_
  refine gIloadN A d20_91 rfl rfl ?_
  refine gIcmpYes (pc' := 98) A d20_92 (tlt (by decide)).1 (by decide) rfl ?_
  refine gAloadN A d20_98 rfl rfl rfl ?_
  refine gIloadN A d20_99 rfl rfl ?_
  refine gIinc (z := 7) (ls' := #[aR dd, aR sr, aI 7, aI 8, aR ds, aR tb, aI 3, aI ((Int32.ofNat ((sx0 g) * 262144 + (sx1 g) * 4096))), aI 6, aI (Int32.ofNat (sx1 g)), aI 4]) A d20_100 rfl (by decide) rfl rfl ?_
  refine wLdB (v := (.int (Int32.ofNat (symN (sx2 g))))) A d20_103 E (by decide) rfl rfl ?_
  refine gSipush (z := 255) A d20_104 rfl rfl ?_
  refine gIand (z := (Int32.ofNat (symN (sx2 g)))) A d20_107 (b8_of (symN_le _)).mask rfl ?_
  refine gIstore (ls' := #[aR dd, aR sr, aI 7, aI 8, aR ds, aR tb, aI 3, aI ((Int32.ofNat ((sx0 g) * 262144 + (sx1 g) * 4096))), aI 6, aI ((Int32.ofNat (symN (sx2 g)))), aI 4]) A d20_108 rfl rfl ?_
  refine gAload A d20_110 rfl rfl rfl ?_
  refine gIload A d20_112 rfl rfl ?_
  refine wLdI (v := (.int (Int32.ofNat (sx2 g)))) A d20_114 F (ofNat_inb (n := 256) (Nat.lt_of_le_of_lt (symN_le _) (by decide)) (by decide)) (by rw [ofNat_clamp (Nat.lt_of_le_of_lt (symN_le _) (by decide))]; exact tab_at (sx2_lt _)) rfl ?_
  refine gDup A d20_115 rfl rfl ?_
  refine gIstore (ls' := #[aR dd, aR sr, aI 7, aI 8, aR ds, aR tb, aI 3, aI ((Int32.ofNat ((sx0 g) * 262144 + (sx1 g) * 4096))), aI 6, aI (Int32.ofNat (sx2 g)), aI 4]) A d20_116 rfl rfl ?_
  refine gIfYes (pc' := 214) A d20_118 ((if0 _ _).trans (flt (ofNat_nn (Nat.lt_trans (sx2_lt _) (by decide)))).2.1) (by decide) rfl ?_
  refine gIload A d20_214 rfl rfl ?_
  refine gIload A d20_216 rfl rfl ?_
  refine gIload A d20_218 rfl rfl ?_
  refine gIshl (z := (Int32.ofNat ((sx2 g) * 64))) A d20_220 (shlN (k := 6) (by decide) (by decide) (by have := sx2_lt g; omega)) rfl ?_
  refine gIor (z := (Int32.ofNat g)) A d20_221 (or12z g hg hzg) rfl ?_
  refine gIstore (ls' := #[aR dd, aR sr, aI 7, aI 8, aR ds, aR tb, aI 3, aI (Int32.ofNat g), aI 6, aI (Int32.ofNat (sx2 g)), aI 4]) A d20_222 rfl rfl ?_
  refine gIinc (z := 0) (ls' := #[aR dd, aR sr, aI 7, aI 8, aR ds, aR tb, aI 3, aI (Int32.ofNat g), aI 0, aI (Int32.ofNat (sx2 g)), aI 4]) A d20_224 rfl (by decide) rfl rfl ?_
  refine gIload A d20_227 rfl rfl ?_
  refine gIfYes (pc' := 278) A d20_229 ((if0 _ _).trans (flt (by decide)).2.1) (by decide) rfl ?_
  refine gGoto (pc' := 28) A d20_278 (by decide) rfl ?_
  refine gIloadN A d20_28 rfl rfl ?_
  refine gIloadN A d20_29 rfl rfl ?_
  refine gIcmpNo A d20_30 (tlt (by decide)).2.1 rfl ?_
  refine gIload A d20_33 rfl rfl ?_
  refine gBipush (z := 18) A d20_35 rfl rfl ?_
  refine gIcmpYes (pc' := 90) A d20_37 (feq (by decide)).2 (by decide) rfl ?_
  refine gIloadN A d20_90 rfl rfl ?_
  refine gIloadN A d20_91 rfl rfl ?_
  refine gIcmpYes (pc' := 98) A d20_92 (tlt (by decide)).1 (by decide) rfl ?_
  refine gAloadN A d20_98 rfl rfl rfl ?_
  refine gIloadN A d20_99 rfl rfl ?_
  refine gIinc (z := 8) (ls' := #[aR dd, aR sr, aI 8, aI 8, aR ds, aR tb, aI 3, aI (Int32.ofNat g), aI 0, aI (Int32.ofNat (sx2 g)), aI 4]) A d20_100 rfl (by decide) rfl rfl ?_
  refine wLdB (v := (.int 61)) A d20_103 E (by decide) rfl rfl ?_
  refine gSipush (z := 255) A d20_104 rfl rfl ?_
  refine gIand (z := 61) A d20_107 (by decide) rfl ?_
  refine gIstore (ls' := #[aR dd, aR sr, aI 8, aI 8, aR ds, aR tb, aI 3, aI (Int32.ofNat g), aI 0, aI 61, aI 4]) A d20_108 rfl rfl ?_
  refine gAload A d20_110 rfl rfl rfl ?_
  refine gIload A d20_112 rfl rfl ?_
  refine wLdI (v := (.int (-2))) A d20_114 F (by decide) rfl rfl ?_
  refine gDup A d20_115 rfl rfl ?_
  refine gIstore (ls' := #[aR dd, aR sr, aI 8, aI 8, aR ds, aR tb, aI 3, aI (Int32.ofNat g), aI 0, aI (-2), aI 4]) A d20_116 rfl rfl ?_
  refine gIfNo A d20_118 ((if0 _ _).trans (tlt (by decide)).2.1) rfl ?_
  refine gIload A d20_121 rfl rfl ?_
  refine gBipush (z := (-2)) A d20_123 rfl rfl ?_
  refine gIcmpNo A d20_125 (teq (by decide)).2 rfl ?_
  refine gIload A d20_128 rfl rfl ?_
  refine gBipush (z := 6) A d20_130 rfl rfl ?_
  refine gIcmpYes (pc' := 151) A d20_132 (feq (by decide)).2 (by decide) rfl ?_
  refine gIload A d20_151 rfl rfl ?_
  refine gBipush (z := 18) A d20_153 rfl rfl ?_
  refine gIcmpYes (pc' := 281) A d20_155 (feq (by decide)).2 (by decide) rfl ?_
  refine gIload A d20_281 rfl rfl ?_
  refine gBipush (z := 6) A d20_283 rfl rfl ?_
  refine gIcmpYes (pc' := 305) A d20_285 (feq (by decide)).2 (by decide) rfl ?_
  refine gIload A d20_305 rfl rfl ?_
  refine gIfNo A d20_307 ((if0 _ _).trans (teq (by decide)).2) rfl ?_
  refine gAload A d20_310 rfl rfl rfl ?_
  refine gIload A d20_312 rfl rfl ?_
  refine gIinc (z := 4) (ls' := #[aR dd, aR sr, aI 8, aI 8, aR ds, aR tb, aI 4, aI (Int32.ofNat g), aI 0, aI (-2), aI 4]) A d20_314 rfl (by decide) rfl rfl ?_
  refine gIload A d20_317 rfl rfl ?_
  refine gBipush (z := 16) A d20_319 rfl rfl ?_
  refine gIshr (z := (Int32.ofNat (g / 65536))) A d20_321 (shrN (k := 16) (by decide) (by decide) (by omega)) rfl ?_
  refine gI2B (z := (sb (g / 65536))) A d20_322 rfl rfl ?_
  refine wStB (y := (sb (g / 65536))) A d20_323 (by simp) M (by decide) (sb_idem _) 3 (by decide) (show 3 < 5 from by decide) rfl fun _ N C _ O => ?_
  have P : Arv Z N ds kds .byte 5 [.int (sb (v / 65536)), .int (sb (v / 256)), .int (sb v), .int (sb (g / 65536)), .int 0] (.int 0) := O
  refine gAload C d20_324 rfl rfl rfl ?_
  refine gIload C d20_326 rfl rfl ?_
  refine gIinc (z := 5) (ls' := #[aR dd, aR sr, aI 8, aI 8, aR ds, aR tb, aI 5, aI (Int32.ofNat g), aI 0, aI (-2), aI 4]) C d20_328 rfl (by decide) rfl rfl ?_
  refine gIload C d20_331 rfl rfl ?_
  refine gBipush (z := 8) C d20_333 rfl rfl ?_
  refine gIshr (z := (Int32.ofNat (g / 256))) C d20_335 (shrN (k := 8) (by decide) (by decide) (by omega)) rfl ?_
  refine gI2B (z := (sb (g / 256))) C d20_336 rfl rfl ?_
  refine wStB (y := (sb (g / 256))) C d20_337 (by simp) P (by decide) (sb_idem _) 4 (by decide) (show 4 < 5 from by decide) rfl fun _ Q D _ R => ?_
  have S : Arv Z Q ds kds .byte 5 [.int (sb (v / 65536)), .int (sb (v / 256)), .int (sb v), .int (sb (g / 65536)), .int (sb (g / 256))] (.int 0) := R
  refine gGoto (pc' := 358) D d20_338 (by decide) rfl ?_
  refine gIloadN D d20_358 rfl rfl ?_
  refine gIloadN D d20_359 rfl rfl ?_
  refine gIcmpYes (pc' := 416) D d20_360 (flt (by decide)).2.1 (by decide) rfl ?_
  refine gIload D d20_416 rfl rfl ?_
  exact wRetI (so := []) (t := .int) D d20_418 (by simp) rfl (by decide) (by decide) (fun _ q => nomatch q) ⟨rfl, rfl, S⟩
theorem ob_dec5 (hw : TH a0 Z) (hE : EW Z a0 consts_1) (dd sr : Addr) (ks : ClassId) (tb : Addr) (ktb : ClassId) (v g : Nat) (h : Heap) (hO : Ol Z h) (q0 : Exa Z h dd "java/util/Base64$Decoder") (q1 : Fld Z h dd "java/util/Base64$Decoder" "isURL" "Z" (.int 0)) (q2 : Fld Z h dd "java/util/Base64$Decoder" "isMIME" "Z" (.int 0)) (TS : (PTS Z tb)) (TA : (PTA Z tb ktb)) (q5 : Arv Z h sr ks .byte 8 (tx5 v g) (.int 0)) (hv : (v < 16777216)) (hg : (g < 16777216)) (hzg : (g % 256 = 0)) :
 Ct l Z consts_1 mN20 cN18 4 (some (.array .byte)) ⟨2, 1, 6, 70⟩ #[.ref dd, .ref sr] h [] (fun rv' hp' so' => ∃ r : Addr, ∃ kr : ClassId, rv' = some (.ref r) ∧ so' = [] ∧ (h.size ≤ r) ∧ Arv Z hp' r kr .byte 5 [.int (sb (v / 65536)), .int (sb (v / 256)), .int (sb v), .int (sb (g / 65536)), .int (sb (g / 256))] (.int 0)) := by
  refine Ct.mk "java/util/Base64$Decoder" "decode" rfl rfl (a0 := a0) (plainFor_of_name opn3) hO hE (fun x q => nomatch q) ?_
  intro K T W
  rw [oef15]
  refine gAloadN W d18_0 rfl rfl rfl ?_
  refine gAloadN W d18_1 rfl rfl rfl ?_
  refine gIconst (z := 0) W d18_2 rfl rfl ?_
  refine gAloadN W d18_3 rfl rfl rfl ?_
  refine wLen W d18_4 q5 rfl ?_
  refine wPrivate (y := mN18) (Wd := 0) (a := dd) (argsL := [.ref sr, .int 0, .int 8]) (rest := []) W d18_5 (ow102 hw) (ow103 hw) (ow105 hw) (ow104 hw) (ow106 hw) (by decide) (Cb.ct (ob_ol5 hw hE dd sr ks tb ktb v g h W.old q0 q1 q2 TS TA q5) (ow106 hw) (ow58 hw) hE (by decide) (by decide)) q0 (by simp) rfl (lenOf opd9 rfl) rfl (Nat.le_of_eq rfl) (by decide) (by decide) rfl fun _ _ _ _ D E _ O => ?_
  obtain ⟨rfl, rfl⟩ := O
  show Go K _ _ _ _ [.int 5]
  refine wNewP (cap := 5) D d18_8 (ow1 hw) (by decide) (by decide) (by decide) (by decide) (by decide) rfl fun _ I B H A F G P => ?_
  have Q : Arv Z I B H .byte 5 [.int 0, .int 0, .int 0, .int 0, .int 0] (.int 0) := P 5
  refine gAstoreN (ls' := #[aR dd, aR sr, aR B, aU]) A d18_10 rfl rfl rfl ?_
  refine gAloadN A d18_11 rfl rfl rfl ?_
  refine gAloadN A d18_12 rfl rfl rfl ?_
  refine gIconst (z := 0) A d18_13 rfl rfl ?_
  refine gAloadN A d18_14 rfl rfl rfl ?_
  have J := q5.keep E nin0
  have L := J.ext F
  refine wLen A d18_15 L rfl ?_
  refine gAloadN A d18_16 rfl rfl rfl ?_
  have R : sr ≠ B := Nat.ne_of_lt (Nat.lt_of_lt_of_le J.lt (Nat.le_of_eq G.symm))
  have S := q0.keep E
  have M := S.ext F
  have U := q1.keep E nin0
  have V := U.ext F
  have X := q2.keep E nin0
  have Y := X.ext F
  refine wPrivate (y := mN19) (Wd := 0) (a := dd) (argsL := [.ref sr, .int 0, .int 8, .ref B]) (rest := []) A d18_17 (ow114 hw) (ow115 hw) (ow117 hw) (ow116 hw) (ow118 hw) (by decide) (Cb.ct (ob_d05 hw hE dd sr ks B H tb ktb v g I A.old M V Y TS TA L Q R (Nat.ne_of_lt (Nat.lt_of_lt_of_le TA.lt (Nat.le_trans D.old.2.1 (Nat.le_of_eq G.symm)))) hv hg hzg (Nat.le_trans D.old.2.1 (Nat.le_of_eq G.symm))) (ow118 hw) (ow58 hw) hE (by decide) (by decide)) M (by simp) rfl (lenOf opd10 rfl) rfl (Nat.le_of_eq rfl) (by decide) (by decide) rfl fun _ _ _ _ C _ _ Aa => ?_
  obtain ⟨rfl, rfl, N⟩ := Aa
  show Go K _ _ _ _ [.int 5]
  refine gIstoreN (ls' := #[aR dd, aR sr, aR B, aI 5]) C d18_20 rfl rfl ?_
  refine gIloadN C d18_21 rfl rfl ?_
  refine gAloadN C d18_22 rfl rfl rfl ?_
  refine wLen C d18_23 N rfl ?_
  refine gIcmpYes (pc' := 33) C d18_24 (teq (by decide)).1 (by decide) rfl ?_
  refine gAloadN C d18_33 rfl rfl rfl ?_
  exact wRetA (so := []) (t := .array .byte) C d18_34 rfl rfl rfl (by decide) (by decide) (fun _ q => nomatch q) ⟨B, H, rfl, rfl, (Nat.le_trans D.grow (Nat.le_of_eq G.symm)), N⟩
theorem ob_dcS5 (hw : TH a0 Z) (hE : EW Z a0 consts_1) (dd s u : Addr) (ku : ClassId) (z : Int32) (iso u8 tb : Addr) (ktb : ClassId) (v g : Nat) (h : Heap) (hO : Ol Z h) (SC : (PSC Z z)) (hz : (¬ z = 0)) (SI : (PSI Z iso)) (SU : (PSU Z u8)) (niu : (iso ≠ u8)) (q5 : Exa Z h dd "java/util/Base64$Decoder") (q6 : Fld Z h dd "java/util/Base64$Decoder" "isURL" "Z" (.int 0)) (q7 : Fld Z h dd "java/util/Base64$Decoder" "isMIME" "Z" (.int 0)) (TS : (PTS Z tb)) (TA : (PTA Z tb ktb)) (q10 : Exa Z h s "java/lang/String") (q11 : Fld Z h s "java/lang/String" "value" "[B" (.ref u)) (q12 : Fld Z h s "java/lang/String" "coder" "B" (.int 0)) (q13 : Arv Z h u ku .byte 8 (tx5 v g) (.int 0)) (q14 : Exa Z h u "[B") (hv : (v < 16777216)) (hg : (g < 16777216)) (hzg : (g % 256 = 0)) :
 Ct l Z consts_1 mN21 cN19 2 (some (.array .byte)) ⟨5, 2, 14, 95⟩ #[.ref dd, .ref s] h [] (fun rv' hp' so' => ∃ r : Addr, ∃ kr : ClassId, rv' = some (.ref r) ∧ so' = [] ∧ (h.size ≤ r) ∧ Arv Z hp' r kr .byte 5 [.int (sb (v / 65536)), .int (sb (v / 256)), .int (sb v), .int (sb (g / 65536)), .int (sb (g / 256))] (.int 0)) := by
  refine Ct.mk "java/util/Base64$Decoder" "decode" rfl rfl (a0 := a0) (plainFor_of_name opn3) hO hE (fun x q => nomatch q) ?_
  intro K T W
  rw [oef8]
  refine gAloadN W d12_0 rfl rfl rfl ?_
  refine gAloadN W d12_1 rfl rfl rfl ?_
  refine wGetS W d12_2 (ow64 hw) Via.refl SI rfl fun _ D => ?_
  refine wVirtual (y := mN17) (z := mN17) (Wd := 1) (a := s) (argsL := [.ref iso]) (rest := [.ref dd]) D d12_5 (ow66 hw) (ow67 hw) (ow69 hw) (ow68 hw) (nfS (ow69 hw)) (by decide) (Cb.ct (ob_gb hw hE s z iso u8 u ku 8 (tx5 v g) h D.old SC hz SI SU niu q10 q11 q12 q13 q14 (by decide)) (ow70 hw) (ow15 hw) hE (by decide) (by decide)) q10 (by simp) rfl (lenOf opd11 rfl) rfl (Nat.le_of_eq rfl) (by decide) (by decide) rfl fun _ _ _ E B C _ H => ?_
  obtain ⟨A, rfl, rfl, _, I⟩ := H
  show Go K _ _ _ _ [.ref A, .ref dd]
  have J : Arv Z E A ku .byte 8 (tx5 v g) (.int 0) := I
  have F := q5.keep C
  have L := q6.keep C nin0
  have M := q7.keep C nin0
  refine wVirtual (y := mN20) (z := mN20) (Wd := 0) (a := dd) (argsL := [.ref A]) (rest := []) B d12_8 (ow97 hw) (ow98 hw) (ow100 hw) (ow99 hw) (nfS (ow100 hw)) (by decide) (Cb.ct (ob_dec5 hw hE dd A ku tb ktb v g E B.old F L M TS TA J hv hg hzg) (ow101 hw) (ow58 hw) hE (by decide) (by decide)) F (by simp) rfl (lenOf opd12 rfl) rfl (Nat.le_of_eq rfl) (by decide) (by decide) rfl fun _ _ _ _ N _ _ O => ?_
  obtain ⟨G, P, rfl, rfl, Q, R⟩ := O
  show Go K _ _ _ _ [.ref G]
  exact wRetA (so := []) (t := .array .byte) N d12_11 rfl rfl rfl (by decide) (by decide) (fun _ q => nomatch q) ⟨G, P, rfl, rfl, (Nat.le_trans B.grow Q), R⟩
theorem ob_ol6 (hw : TH a0 Z) (hE : EW Z a0 consts_1) (dd sr : Addr) (ks : ClassId) (tb : Addr) (ktb : ClassId) (v g : Nat) (h : Heap) (hO : Ol Z h) (q0 : Exa Z h dd "java/util/Base64$Decoder") (q1 : Fld Z h dd "java/util/Base64$Decoder" "isURL" "Z" (.int 0)) (q2 : Fld Z h dd "java/util/Base64$Decoder" "isMIME" "Z" (.int 0)) (TS : (PTS Z tb)) (TA : (PTA Z tb ktb)) (q5 : Arv Z h sr ks .byte 8 (tx6 v g) (.int 0)) :
 Ct l Z consts_1 mN18 cN16 9 (some .int) ⟨0, 0, 0, 0⟩ #[.ref dd, .ref sr, .int 0, .int 8] h [] (fun rv' hp' so' => rv' = some (.int 6) ∧ so' = []) := by
  refine Ct.mk "java/util/Base64$Decoder" "decodedOutLength" rfl rfl (a0 := a0) (plainFor_of_name opn3) hO hE (fun x q => nomatch q) ?_
  intro K T W
  rw [oef13]
  refine gAloadN W d19_0 rfl rfl rfl ?_
  refine wGetF W d19_1 (ow107 hw) Via.refl q1 rfl fun _ C => ?_
  refine gIfYes (pc' := 13) C d19_4 ((if0 _ _).trans (teq (by decide)).1) (by decide) rfl ?_
  refine wGetS C d19_13 (ow109 hw) Via.refl TS rfl fun _ B => ?_
  refine gAstore (ls' := #[aR dd, aR sr, aI 0, aI 8, aR tb, aU, aU, aU, aU]) B d19_16 rfl rfl rfl ?_
  refine gIconst (z := 0) B d19_18 rfl rfl ?_
  refine gIstore (ls' := #[aR dd, aR sr, aI 0, aI 8, aR tb, aI 0, aU, aU, aU]) B d19_19 rfl rfl ?_
  refine gIloadN B d19_21 rfl rfl ?_
  refine gIloadN B d19_22 rfl rfl ?_
  refine gIsub (z := 8) B d19_23 (by decide) rfl ?_
  refine gIstore (ls' := #[aR dd, aR sr, aI 0, aI 8, aR tb, aI 0, aI 8, aU, aU]) B d19_24 rfl rfl ?_
  refine gIload B d19_26 rfl rfl ?_
  refine gIfYes (pc' := 33) B d19_28 ((if0 _ _).trans (feq (by decide)).2) (by decide) rfl ?_
  refine gIload B d19_33 rfl rfl ?_
  refine gIconst (z := 2) B d19_35 rfl rfl ?_
  refine gIcmpYes (pc' := 66) B d19_36 (flt (by decide)).2.1 (by decide) rfl ?_
  refine gAloadN B d19_66 rfl rfl rfl ?_
  refine wGetF B d19_67 (ow110 hw) Via.refl q2 rfl fun _ A => ?_
  refine gIfYes (pc' := 141) A d19_70 ((if0 _ _).trans (teq (by decide)).1) (by decide) rfl ?_
  refine gAloadN A d19_141 rfl rfl rfl ?_
  refine gIloadN A d19_142 rfl rfl ?_
  refine gIconst (z := 1) A d19_143 rfl rfl ?_
  refine gIsub (z := 7) A d19_144 (by decide) rfl ?_
  refine wLdB (v := (.int (Int32.ofNat (symN (sx3 g))))) A d19_145 q5 (by decide) rfl rfl ?_
  refine gBipush (z := 61) A d19_146 rfl rfl ?_
  refine gIcmpYes (pc' := 167) A d19_148 (feq (fun q => symN_61 (ofNat_inj (b := 61) (Nat.lt_of_le_of_lt (symN_le _) (by decide)) (by decide) q))).2 (by decide) rfl ?_
  refine gIload A d19_167 rfl rfl ?_
  refine gIfNo A d19_169 ((if0 _ _).trans (teq (by decide)).2) rfl ?_
  refine gIload A d19_172 rfl rfl ?_
  refine gIconst (z := 3) A d19_174 rfl rfl ?_
  refine gIand (z := 0) A d19_175 (by decide) rfl ?_
  refine gIfYes (pc' := 187) A d19_176 ((if0 _ _).trans (teq (by decide)).1) (by decide) rfl ?_
  refine gIconst (z := 3) A d19_187 rfl rfl ?_
  refine gIload A d19_188 rfl rfl ?_
  refine gI2L (z := (8 : Int64)) A d19_190 (by decide) rfl ?_
  refine wLdcL (v := (3 : Int64)) A d19_191 (ow112 hw) rfl ?_
  refine gLadd (z := (11 : Int64)) A d19_194 (by decide) rfl ?_
  refine wLdcL (v := (4 : Int64)) A d19_195 (ow113 hw) rfl ?_
  refine gLdiv (z := (2 : Int64)) A d19_198 (by decide) (by decide) rfl ?_
  refine gL2I (z := 2) A d19_199 (by decide) rfl ?_
  refine gImul (z := 6) A d19_200 (by decide) rfl ?_
  refine gIload A d19_201 rfl rfl ?_
  refine gIsub (z := 6) A d19_203 (by decide) rfl ?_
  exact wRetI (so := []) (t := .int) A d19_204 (by simp) rfl (by decide) (by decide) (fun _ q => nomatch q) ⟨rfl, rfl⟩
theorem d39_180 : Dc cN20 180 (.iload 10) 2 := by decide +kernel
theorem d39_182 : Dc cN20 182 (.iload 5) 2 := by decide +kernel
theorem d39_184 : Dc cN20 184 (.isub) 1 := by decide +kernel
theorem d39_185 : Dc cN20 185 (.ireturn) 1 := by decide +kernel
theorem ob_bk6 (hw : TH a0 Z) (hE : EW Z a0 consts_1) (dd sr : Addr) (ks : ClassId) (ds : Addr) (kds : ClassId) (tb : Addr) (ktb : ClassId) (v g : Nat) (h : Heap) (hO : Ol Z h) (TS : (PTS Z tb)) (TA : (PTA Z tb ktb)) (q2 : Arv Z h sr ks .byte 8 (tx6 v g) (.int 0)) (q3 : Arv Z h ds kds .byte 6 [.int 0, .int 0, .int 0, .int 0, .int 0, .int 0] (.int 0)) (nsd : (sr ≠ ds)) (ntd : (tb ≠ ds)) (hv : (v < 16777216)) (hg : (g < 16777216)) (ge_ds : Z.heap.size ≤ ds) :
 Ct l Z consts_1 mN22 cN20 16 (some .int) ⟨0, 0, 0, 0⟩ #[.ref dd, .ref sr, .int 0, .int 8, .ref ds, .int 0, .int 0, .int 0] h [ds] (fun rv' hp' so' => rv' = some (.int 6) ∧ so' = [] ∧ Arv Z hp' ds kds .byte 6 [.int (sb (v / 65536)), .int (sb (v / 256)), .int (sb v), .int (sb (g / 65536)), .int (sb (g / 256)), .int (sb g)] (.int 0)) := by
  refine Ct.mk "java/util/Base64$Decoder" "decodeBlock" rfl rfl (a0 := a0) (plainFor_of_name opn3) hO hE (fun x q => by simp at q; subst q; exact ge_ds) ?_
  intro K T W
  rw [oef16]
  refine gIload W d39_0 rfl rfl ?_
  refine gIfYes (pc' := 11) W d39_2 ((if0 _ _).trans (teq (by decide)).1) (by decide) rfl ?_
  refine wGetS W d39_11 (ow109 hw) Via.refl TS rfl fun _ A => ?_
  refine gAstore (ls' := #[aR dd, aR sr, aI 0, aI 8, aR ds, aI 0, aI 0, aI 0, aR tb, aU, aU, aU, aU, aU, aU, aU]) A d39_14 rfl rfl rfl ?_
  refine gIloadN A d39_16 rfl rfl ?_
  refine gIloadN A d39_17 rfl rfl ?_
  refine gIloadN A d39_18 rfl rfl ?_
  refine gIsub (z := 8) A d39_19 (by decide) rfl ?_
  refine gBipush (z := (-4)) A d39_20 rfl rfl ?_
  refine gIand (z := 8) A d39_22 (by decide) rfl ?_
  refine gIadd (z := 8) A d39_23 (by decide) rfl ?_
  refine gIstore (ls' := #[aR dd, aR sr, aI 0, aI 8, aR ds, aI 0, aI 0, aI 0, aR tb, aI 8, aU, aU, aU, aU, aU, aU]) A d39_24 rfl rfl ?_
  refine gIload A d39_26 rfl rfl ?_
  refine gIstore (ls' := #[aR dd, aR sr, aI 0, aI 8, aR ds, aI 0, aI 0, aI 0, aR tb, aI 8, aI 0, aU, aU, aU, aU, aU]) A d39_28 rfl rfl ?_
  refine gIloadN A d39_30 rfl rfl ?_
  refine gIload A d39_31 rfl rfl ?_
  refine gIcmpNo A d39_33 (tlt (by decide)).2.1 rfl ?_
  refine gAload A d39_36 rfl rfl rfl ?_
  refine gAloadN A d39_38 rfl rfl rfl ?_
  refine gIloadN A d39_39 rfl rfl ?_
  refine gIinc (z := 1) (ls' := #[aR dd, aR sr, aI 1, aI 8, aR ds, aI 0, aI 0, aI 0, aR tb, aI 8, aI 0, aU, aU, aU, aU, aU]) A d39_40 rfl (by decide) rfl rfl ?_
  refine wLdB (v := (.int (Int32.ofNat (symN (sx0 v))))) A d39_43 q2 (by decide) rfl rfl ?_
  refine gSipush (z := 255) A d39_44 rfl rfl ?_
  refine gIand (z := (Int32.ofNat (symN (sx0 v)))) A d39_47 (b8_of (symN_le _)).mask rfl ?_
  have H := TA.ext A.old.2
  refine wLdI (v := (.int (Int32.ofNat (sx0 v)))) A d39_48 H (ofNat_inb (n := 256) (Nat.lt_of_le_of_lt (symN_le _) (by decide)) (by decide)) (by rw [ofNat_clamp (Nat.lt_of_le_of_lt (symN_le _) (by decide))]; exact tab_at (sx0_lt _)) rfl ?_
  refine gIstore (ls' := #[aR dd, aR sr, aI 1, aI 8, aR ds, aI 0, aI 0, aI 0, aR tb, aI 8, aI 0, aI (Int32.ofNat (sx0 v)), aU, aU, aU, aU]) A d39_49 rfl rfl ?_
  refine gAload A d39_51 rfl rfl rfl ?_
  refine gAloadN A d39_53 rfl rfl rfl ?_
  refine gIloadN A d39_54 rfl rfl ?_
  refine gIinc (z := 2) (ls' := #[aR dd, aR sr, aI 2, aI 8, aR ds, aI 0, aI 0, aI 0, aR tb, aI 8, aI 0, aI (Int32.ofNat (sx0 v)), aU, aU, aU, aU]) A d39_55 rfl (by decide) rfl rfl ?_
  refine wLdB (v := (.int (Int32.ofNat (symN (sx1 v))))) A d39_58 q2 (by decide) rfl rfl ?_
  refine gSipush (z := 255) A d39_59 rfl rfl ?_
  refine gIand (z := (Int32.ofNat (symN (sx1 v)))) A d39_62 (b8_of (symN_le _)).mask rfl ?_
  refine wLdI (v := (.int (Int32.ofNat (sx1 v)))) A d39_63 H (ofNat_inb (n := 256) (Nat.lt_of_le_of_lt (symN_le _) (by decide)) (by decide)) (by rw [ofNat_clamp (Nat.lt_of_le_of_lt (symN_le _) (by decide))]; exact tab_at (sx1_lt _)) rfl ?_
  refine gIstore (ls' := #[aR dd, aR sr, aI 2, aI 8, aR ds, aI 0, aI 0, aI 0, aR tb, aI 8, aI 0, aI (Int32.ofNat (sx0 v)), aI (Int32.ofNat (sx1 v)), aU, aU, aU]) A d39_64 rfl rfl ?_
  refine gAload A d39_66 rfl rfl rfl ?_
  refine gAloadN A d39_68 rfl rfl rfl ?_
  refine gIloadN A d39_69 rfl rfl ?_
  refine gIinc (z := 3) (ls' := #[aR dd, aR sr, aI 3, aI 8, aR ds, aI 0, aI 0, aI 0, aR tb, aI 8, aI 0, aI (Int32.ofNat (sx0 v)), aI (Int32.ofNat (sx1 v)), aU, aU, aU]) A d39_70 rfl (by decide) rfl rfl ?_
  refine wLdB (v := (.int (Int32.ofNat (symN (sx2 v))))) A d39_73 q2 (by decide) rfl rfl ?_
  refine gSipush (z := 255) A d39_74 rfl rfl ?_
  refine gIand (z := (Int32.ofNat (symN (sx2 v)))) A d39_77 (b8_of (symN_le _)).mask rfl ?_
  refine wLdI (v := (.int (Int32.ofNat (sx2 v)))) A d39_78 H (ofNat_inb (n := 256) (Nat.lt_of_le_of_lt (symN_le _) (by decide)) (by decide)) (by rw [ofNat_clamp (Nat.lt_of_le_of_lt (symN_le _) (by decide))]; exact tab_at (sx2_lt _)) rfl ?_
  refine gIstore (ls' := #[aR dd, aR sr, aI 3, aI 8, aR ds, aI 0, aI 0, aI 0, aR tb, aI 8, aI 0, aI (Int32.ofNat (sx0 v)), aI (Int32.ofNat (sx1 v)), aI (Int32.ofNat (sx2 v)), aU, aU]) A d39_79 rfl rfl ?_
  refine gAload A d39_81 rfl rfl rfl ?_
  refine gAloadN A d39_83 rfl rfl rfl ?_
  refine gIloadN A d39_84 rfl rfl ?_
  refine gIinc (z := 4) (ls' := #[aR dd, aR sr, aI 4, aI 8, aR ds, aI 0, aI 0, aI 0, aR tb, aI 8, aI 0, aI (Int32.ofNat (sx0 v)), aI (Int32.ofNat (sx1 v)), aI (Int32.ofNat (sx2 v)), aU, aU]) A d39_85 rfl (by decide) rfl rfl ?_
  refine wLdB (v := (.int (Int32.ofNat (symN (sx3 v))))) A d39_88 q2 (by decide) rfl rfl ?_
  refine gSipush (z := 255) A d39_89 rfl rfl ?_
  refine gIand (z := (Int32.ofNat (symN (sx3 v)))) A d39_92 (b8_of (symN_le _)).mask rfl ?_
  refine wLdI (v := (.int (Int32.ofNat (sx3 v)))) A d39_93 H (ofNat_inb (n := 256) (Nat.lt_of_le_of_lt (symN_le _) (by decide)) (by decide)) (by rw [ofNat_clamp (Nat.lt_of_le_of_lt (symN_le _) (by decide))]; exact tab_at (sx3_lt _)) rfl ?_
  refine gIstore (ls' := #[aR dd, aR sr, aI 4, aI 8, aR ds, aI 0, aI 0, aI 0, aR tb, aI 8, aI 0, aI (Int32.ofNat (sx0 v)), aI (Int32.ofNat (sx1 v)), aI (Int32.ofNat (sx2 v)), aI (Int32.ofNat (sx3 v)), aU]) A d39_94 rfl rfl ?_
  refine gIload A d39_96 rfl rfl ?_
  refine gIload A d39_98 rfl rfl ?_
  refine gIor (z := ((Int32.ofNat (sx0 v)) ||| (Int32.ofNat (sx1 v)))) A d39_100 rfl rfl ?_
  refine gIload A d39_101 rfl rfl ?_
  refine gIor (z := (((Int32.ofNat (sx0 v)) ||| (Int32.ofNat (sx1 v))) ||| (Int32.ofNat (sx2 v)))) A d39_103 rfl rfl ?_
  refine gIload A d39_104 rfl rfl ?_
  refine gIor (z := ((((Int32.ofNat (sx0 v)) ||| (Int32.ofNat (sx1 v))) ||| (Int32.ofNat (sx2 v))) ||| (Int32.ofNat (sx3 v)))) A d39_106 rfl rfl ?_
  refine gIfYes (pc' := 116) A d39_107 ((if0 _ _).trans (flt (or4_nn (Nat.lt_trans (sx0_lt _) (by decide)) (Nat.lt_trans (sx1_lt _) (by decide)) (Nat.lt_trans (sx2_lt _) (by decide)) (Nat.lt_trans (sx3_lt _) (by decide)))).2.1) (by decide) rfl ?_
  refine gIload A d39_116 rfl rfl ?_
  refine gBipush (z := 18) A d39_118 rfl rfl ?_
  refine gIshl (z := (Int32.ofNat ((sx0 v) * 262144))) A d39_120 (shlN (k := 18) (by decide) (by decide) (by have := sx0_lt v; omega)) rfl ?_
  refine gIload A d39_121 rfl rfl ?_
  refine gBipush (z := 12) A d39_123 rfl rfl ?_
  refine gIshl (z := (Int32.ofNat ((sx1 v) * 4096))) A d39_125 (shlN (k := 12) (by decide) (by decide) (by have := sx1_lt v; omega)) rfl ?_
  refine gIor (z := (Int32.ofNat ((sx0 v) * 262144 + (sx1 v) * 4096))) A d39_126 (or18 v) rfl ?_
  refine gIload A d39_127 rfl rfl ?_
  refine gBipush (z := 6) A d39_129 rfl rfl ?_
  refine gIshl (z := (Int32.ofNat ((sx2 v) * 64))) A d39_131 (shlN (k := 6) (by decide) (by decide) (by have := sx2_lt v; omega)) rfl ?_
  refine gIor (z := (Int32.ofNat ((sx0 v) * 262144 + (sx1 v) * 4096 + (sx2 v) * 64))) A d39_132 (or12 v) rfl ?_
  refine gIload A d39_133 rfl rfl ?_
  refine gIor (z := (Int32.ofNat v)) A d39_135 (or6 hv) rfl ?_
  refine gIstore (ls' := #[aR dd, aR sr, aI 4, aI 8, aR ds, aI 0, aI 0, aI 0, aR tb, aI 8, aI 0, aI (Int32.ofNat (sx0 v)), aI (Int32.ofNat (sx1 v)), aI (Int32.ofNat (sx2 v)), aI (Int32.ofNat (sx3 v)), aI (Int32.ofNat v)]) A d39_136 rfl rfl ?_
  refine gAload A d39_138 rfl rfl rfl ?_
  refine gIload A d39_140 rfl rfl ?_
  refine gIinc (z := 1) (ls' := #[aR dd, aR sr, aI 4, aI 8, aR ds, aI 0, aI 0, aI 0, aR tb, aI 8, aI 1, aI (Int32.ofNat (sx0 v)), aI (Int32.ofNat (sx1 v)), aI (Int32.ofNat (sx2 v)), aI (Int32.ofNat (sx3 v)), aI (Int32.ofNat v)]) A d39_142 rfl (by decide) rfl rfl ?_
  refine gIload A d39_145 rfl rfl ?_
  refine gBipush (z := 16) A d39_147 rfl rfl ?_
  refine gIshr (z := (Int32.ofNat (v / 65536))) A d39_149 (shrN (k := 16) (by decide) (by decide) (by omega)) rfl ?_
  refine gI2B (z := (sb (v / 65536))) A d39_150 rfl rfl ?_
  refine wStB (y := (sb (v / 65536))) A d39_151 (by simp) q3 (by decide) (sb_idem _) 0 (by decide) (show 0 < 6 from by decide) rfl fun _ L C M N => ?_
  have O : Arv Z L ds kds .byte 6 [.int (sb (v / 65536)), .int 0, .int 0, .int 0, .int 0, .int 0] (.int 0) := N
  refine gAload C d39_152 rfl rfl rfl ?_
  refine gIload C d39_154 rfl rfl ?_
  refine gIinc (z := 2) (ls' := #[aR dd, aR sr, aI 4, aI 8, aR ds, aI 0, aI 0, aI 0, aR tb, aI 8, aI 2, aI (Int32.ofNat (sx0 v)), aI (Int32.ofNat (sx1 v)), aI (Int32.ofNat (sx2 v)), aI (Int32.ofNat (sx3 v)), aI (Int32.ofNat v)]) C d39_156 rfl (by decide) rfl rfl ?_
  refine gIload C d39_159 rfl rfl ?_
  refine gBipush (z := 8) C d39_161 rfl rfl ?_
  refine gIshr (z := (Int32.ofNat (v / 256))) C d39_163 (shrN (k := 8) (by decide) (by decide) (by omega)) rfl ?_
  refine gI2B (z := (sb (v / 256))) C d39_164 rfl rfl ?_
  refine wStB (y := (sb (v / 256))) C d39_165 (by simp) O (by decide) (sb_idem _) 1 (by decide) (show 1 < 6 from by decide) rfl fun _ P F Q R => ?_
  have S : Arv Z P ds kds .byte 6 [.int (sb (v / 65536)), .int (sb (v / 256)), .int 0, .int 0, .int 0, .int 0] (.int 0) := R
  refine gAload F d39_166 rfl rfl rfl ?_
  refine gIload F d39_168 rfl rfl ?_
  refine gIinc (z := 3) (ls' := #[aR dd, aR sr, aI 4, aI 8, aR ds, aI 0, aI 0, aI 0, aR tb, aI 8, aI 3, aI (Int32.ofNat (sx0 v)), aI (Int32.ofNat (sx1 v)), aI (Int32.ofNat (sx2 v)), aI (Int32.ofNat (sx3 v)), aI (Int32.ofNat v)]) F d39_170 rfl (by decide) rfl rfl ?_
  refine gIload F d39_173 rfl rfl ?_
  refine gI2B (z := (sb v)) F d39_175 rfl rfl ?_
  refine wStB (y := (sb v)) F d39_176 (by simp) S (by decide) (sb_idem _) 2 (by decide) (show 2 < 6 from by decide) rfl fun _ U B V X => ?_
  have Y : Arv Z U ds kds .byte 6 [.int (sb (v / 65536)), .int (sb (v / 256)), .int (sb v), .int 0, .int 0, .int 0] (.int 0) := X
  refine gGoto (pc' := 30) B d39_177 (by decide) rfl ?_
  refine gIloadN B d39_30 rfl rfl ?_
  refine gIload B d39_31 rfl rfl ?_
  refine gIcmpNo B d39_33 (tlt (by decide)).2.1 rfl ?_
  refine gAload B d39_36 rfl rfl rfl ?_
  refine gAloadN B d39_38 rfl rfl rfl ?_
  refine gIloadN B d39_39 rfl rfl ?_
  refine gIinc (z := 5) (ls' := #[aR dd, aR sr, aI 5, aI 8, aR ds, aI 0, aI 0, aI 0, aR tb, aI 8, aI 3, aI (Int32.ofNat (sx0 v)), aI (Int32.ofNat (sx1 v)), aI (Int32.ofNat (sx2 v)), aI (Int32.ofNat (sx3 v)), aI (Int32.ofNat v)]) B d39_40 rfl (by decide) rfl rfl ?_
  have Aa := q2.other M nsd
  have Ab := Aa.other Q nsd
  have I := Ab.other V nsd
  refine wLdB (v := (.int (Int32.ofNat (symN (sx0 g))))) B d39_43 I (by decide) rfl rfl ?_
  refine gSipush (z := 255) B d39_44 rfl rfl ?_
  refine gIand (z := (Int32.ofNat (symN (sx0 g)))) B d39_47 (b8_of (symN_le _)).mask rfl ?_
  have J := TA.ext B.old.2
  refine wLdI (v := (.int (Int32.ofNat (sx0 g)))) B d39_48 J (ofNat_inb (n := 256) (Nat.lt_of_le_of_lt (symN_le _) (by decide)) (by decide)) (by rw [ofNat_clamp (Nat.lt_of_le_of_lt (symN_le _) (by decide))]; exact tab_at (sx0_lt _)) rfl ?_
  refine gIstore (ls' := #[aR dd, aR sr, aI 5, aI 8, aR ds, aI 0, aI 0, aI 0, aR tb, aI 8, aI 3, aI (Int32.ofNat (sx0 g)), aI (Int32.ofNat (sx1 v)), aI (Int32.ofNat (sx2 v)), aI (Int32.ofNat (sx3 v)), aI (Int32.ofNat v)]) B d39_49 rfl rfl ?_
  refine gAload B d39_51 rfl rfl rfl ?_
  refine gAloadN B d39_53 rfl rfl rfl ?_
  refine gIloadN B d39_54 rfl rfl ?_
  refine gIinc (z := 6) (ls' := #[aR dd, aR sr, aI 6, aI 8, aR ds, aI 0, aI 0, aI 0, aR tb, aI 8, aI 3, aI (Int32.ofNat (sx0 g)), aI (Int32.ofNat (sx1 v)), aI (Int32.ofNat (sx2 v)), aI (Int32.ofNat (sx3 v)), aI (Int32.ofNat v)]) B d39_55 rfl (by decide) rfl rfl ?_
  refine wLdB (v := (.int (Int32.ofNat (symN (sx1 g))))) B d39_58 I (by decide) rfl rfl ?_
  refine gSipush (z := 255) B d39_59 rfl rfl ?_
  refine gIand (z := (Int32.ofNat (symN (sx1 g)))) B d39_62 (b8_of (symN_le _)).mask rfl ?_
  refine wLdI (v := (.int (Int32.ofNat (sx1 g)))) B d39_63 J (ofNat_inb (n := 256) (Nat.lt_of_le_of_lt (symN_le _) (by decide)) (by decide)) (by rw [ofNat_clamp (Nat.lt_of_le_of_lt (symN_le _) (by decide))]; exact tab_at (sx1_lt _)) rfl ?_
  refine gIstore (ls' := #[aR dd, aR sr, aI 6, aI 8, aR ds, aI 0, aI 0, aI 0, aR tb, aI 8, aI 3, aI (Int32.ofNat (sx0 g)), aI (Int32.ofNat (sx1 g)), aI (Int32.ofNat (sx2 v)), aI (Int32.ofNat (sx3 v)), aI (Int32.ofNat v)]) B d39_64 rfl rfl ?_
  refine gAload B d39_66 rfl rfl rfl ?_
  refine gAloadN B d39_68 rfl rfl rfl ?_
  refine gIloadN B d39_69 rfl rfl ?_
  refine gIinc (z := 7) (ls' := #[aR dd, aR sr, aI 7, aI 8, aR ds, aI 0, aI 0, aI 0, aR tb, aI 8, aI 3, aI (Int32.ofNat (sx0 g)), aI (Int32.ofNat (sx1 g)), aI (Int32.ofNat (sx2 v)), aI (Int32.ofNat (sx3 v)), aI (Int32.ofNat v)]) B d39_70 rfl (by decide) rfl rfl ?_
  refine wLdB (v := (.int (Int32.ofNat (symN (sx2 g))))) B d39_73 I (by decide) rfl rfl ?_
  refine gSipush (z := 255) B d39_74 rfl rfl ?_
  refine gIand (z := (Int32.ofNat (symN (sx2 g)))) B d39_77 (b8_of (symN_le _)).mask rfl ?_
  refine wLdI (v := (.int (Int32.ofNat (sx2 g)))) B d39_78 J (ofNat_inb (n := 256) (Nat.lt_of_le_of_lt (symN_le _) (by decide)) (by decide)) (by rw [ofNat_clamp (Nat.lt_of_le_of_lt (symN_le _) (by decide))]; exact tab_at (sx2_lt _)) rfl ?_
  refine gIstore (ls' := #[aR dd, aR sr, aI 7, aI 8, aR ds, aI 0, aI 0, aI 0, aR tb, aI 8, aI 3, aI (Int32.ofNat (sx0 g)), aI (Int32.ofNat (sx1 g)), aI (Int32.ofNat (sx2 g)), aI (Int32.ofNat (sx3 v)), aI (Int32.ofNat v)]) B d39_79 rfl rfl ?_
  refine gAload B d39_81 rfl rfl rfl ?_
  refine gAloadN B d39_83 rfl rfl rfl ?_
  refine gIloadN B d39_84 rfl rfl ?_
  refine gIinc (z := 8) (ls' := #[aR dd, aR sr, aI 8, aI 8, aR ds, aI 0, aI 0, aI 0, aR tb, aI 8, aI 3, aI (Int32.ofNat (sx0 g)), aI (Int32.ofNat (sx1 g)), aI (Int32.ofNat (sx2 g)), aI (Int32.ofNat (sx3 v)), aI (Int32.ofNat v)]) B d39_85 rfl (by decide) rfl rfl ?_
  refine wLdB (v := (.int (Int32.ofNat (symN (sx3 g))))) B d39_88 I (by decide) rfl rfl ?_
  refine gSipush (z := 255) B d39_89 rfl rfl ?_
  refine gIand (z := (Int32.ofNat (symN (sx3 g)))) B d39_92 (b8_of (symN_le _)).mask rfl ?_
  refine wLdI (v := (.int (Int32.ofNat (sx3 g)))) B d39_93 J (ofNat_inb (n := 256) (Nat.lt_of_le_of_lt (symN_le _) (by decide)) (by decide)) (by rw [ofNat_clamp (Nat.lt_of_le_of_lt (symN_le _) (by decide))]; exact tab_at (sx3_lt _)) rfl ?_
  refine gIstore (ls' := #[aR dd, aR sr, aI 8, aI 8, aR ds, aI 0, aI 0, aI 0, aR tb, aI 8, aI 3, aI (Int32.ofNat (sx0 g)), aI (Int32.ofNat (sx1 g)), aI (Int32.ofNat (sx2 g)), aI (Int32.ofNat (sx3 g)), aI (Int32.ofNat v)]) B d39_94 rfl rfl ?_
  refine gIload B d39_96 rfl rfl ?_
  refine gIload B d39_98 rfl rfl ?_
  refine gIor (z := ((Int32.ofNat (sx0 g)) ||| (Int32.ofNat (sx1 g)))) B d39_100 rfl rfl ?_
  refine gIload B d39_101 rfl rfl ?_
  refine gIor (z := (((Int32.ofNat (sx0 g)) ||| (Int32.ofNat (sx1 g))) ||| (Int32.ofNat (sx2 g)))) B d39_103 rfl rfl ?_
  refine gIload B d39_104 rfl rfl ?_
  refine gIor (z := ((((Int32.ofNat (sx0 g)) ||| (Int32.ofNat (sx1 g))) ||| (Int32.ofNat (sx2 g))) ||| (Int32.ofNat (sx3 g)))) B d39_106 rfl rfl ?_
  refine gIfYes (pc' := 116) B d39_107 ((if0 _ _).trans (flt (or4_nn (Nat.lt_trans (sx0_lt _) (by decide)) (Nat.lt_trans (sx1_lt _) (by decide)) (Nat.lt_trans (sx2_lt _) (by decide)) (Nat.lt_trans (sx3_lt _) (by decide)))).2.1) (by decide) rfl ?_
  refine gIload B d39_116 rfl rfl ?_
  refine gBipush (z := 18) B d39_118 rfl rfl ?_
  refine gIshl (z := (Int32.ofNat ((sx0 g) * 262144))) B d39_120 (shlN (k := 18) (by decide) (by decide) (by have := sx0_lt g; omega)) rfl ?_
  refine gIload B d39_121 rfl rfl ?_
  refine gBipush (z := 12) B d39_123 rfl rfl ?_
  refine gIshl (z := (Int32.ofNat ((sx1 g) * 4096))) B d39_125 (shlN (k := 12) (by decide) (by decide) (by have := sx1_lt g; omega)) rfl ?_
  refine gIor (z := (Int32.ofNat ((sx0 g) * 262144 + (sx1 g) * 4096))) B d39_126 (or18 g) rfl ?_
  refine gIload B d39_127 rfl rfl ?_
  refine gBipush (z := 6) B d39_129 rfl rfl ?_
  refine gIshl (z := (Int32.ofNat ((sx2 g) * 64))) B d39_131 (shlN (k := 6) (by decide) (by decide) (by have := sx2_lt g; omega)) rfl ?_
  refine gIor (z := (Int32.ofNat ((sx0 g) * 262144 + (sx1 g) * 4096 + (sx2 g) * 64))) B d39_132 (or12 g) rfl ?_
  refine gIload B d39_133 rfl rfl ?_
  refine gIor (z := (Int32.ofNat g)) B d39_135 (or6 hg) rfl ?_
  refine gIstore (ls' := #[aR dd, aR sr, aI 8, aI 8, aR ds, aI 0, aI 0, aI 0, aR tb, aI 8, aI 3, aI (Int32.ofNat (sx0 g)), aI (Int32.ofNat (sx1 g)), aI (Int32.ofNat (sx2 g)), aI (Int32.ofNat (sx3 g)), aI (Int32.ofNat g)]) B d39_136 rfl rfl ?_
  refine gAload B d39_138 rfl rfl rfl ?_
  refine gIload B d39_140 rfl rfl ?_
  refine gIinc (z := 4) (ls' := #[aR dd, aR sr, aI 8, aI 8, aR ds, aI 0, aI 0, aI 0, aR tb, aI 8, aI 4, aI (Int32.ofNat (sx0 g)), aI (Int32.ofNat (sx1 g)), aI (Int32.ofNat (sx2 g)), aI (Int32.ofNat (sx3 g)), aI (Int32.ofNat g)]) B d39_142 rfl (by decide) rfl rfl ?_
  refine gIload B d39_145 rfl rfl ?_
  refine gBipush (z := 16) B d39_147 rfl rfl ?_
  refine gIshr (z := (Int32.ofNat (g / 65536))) B d39_149 (shrN (k := 16) (by decide) (by decide) (by omega)) rfl ?_
  refine gI2B (z := (sb (g / 65536))) B d39_150 rfl rfl ?_
  refine wStB (y := (sb (g / 65536))) B d39_151 (by simp) Y (by decide) (sb_idem _) 3 (by decide) (show 3 < 6 from by decide) rfl fun _ Ac D _ Ad => ?_
  have Ae : Arv Z Ac ds kds .byte 6 [.int (sb (v / 65536)), .int (sb (v / 256)), .int (sb v), .int (sb (g / 65536)), .int 0, .int 0] (.int 0) := Ad
  refine gAload D d39_152 rfl rfl rfl ?_
  refine gIload D d39_154 rfl rfl ?_
  refine gIinc (z := 5) (ls' := #[aR dd, aR sr, aI 8, aI 8, aR ds, aI 0, aI 0, aI 0, aR tb, aI 8, aI 5, aI (Int32.ofNat (sx0 g)), aI (Int32.ofNat (sx1 g)), aI (Int32.ofNat (sx2 g)), aI (Int32.ofNat (sx3 g)), aI (Int32.ofNat g)]) D d39_156 rfl (by decide) rfl rfl ?_
  refine gIload D d39_159 rfl rfl ?_
  refine gBipush (z := 8) D d39_161 rfl rfl ?_
  refine gIshr (z := (Int32.ofNat (g / 256))) D d39_163 (shrN (k := 8) (by decide) (by decide) (by omega)) rfl ?_
  refine gI2B (z := (sb (g / 256))) D d39_164 rfl rfl ?_
  refine wStB (y := (sb (g / 256))) D d39_165 (by simp) Ae (by decide) (sb_idem _) 4 (by decide) (show 4 < 6 from by decide) rfl fun _ Af G _ Ag => ?_
  have Ah : Arv Z Af ds kds .byte 6 [.int (sb (v / 65536)), .int (sb (v / 256)), .int (sb v), .int (sb (g / 65536)), .int (sb (g / 256)), .int 0] (.int 0) := Ag
  refine gAload G d39_166 rfl rfl rfl ?_
  refine gIload G d39_168 rfl rfl ?_
  refine gIinc (z := 6) (ls' := #[aR dd, aR sr, aI 8, aI 8, aR ds, aI 0, aI 0, aI 0, aR tb, aI 8, aI 6, aI (Int32.ofNat (sx0 g)), aI (Int32.ofNat (sx1 g)), aI (Int32.ofNat (sx2 g)), aI (Int32.ofNat (sx3 g)), aI (Int32.ofNat g)]) G d39_170 rfl (by decide) rfl rfl ?_
  refine gIload G d39_173 rfl rfl ?_
  refine gI2B (z := (sb g)) G d39_175 rfl rfl ?_
  refine wStB (y := (sb g)) G d39_176 (by simp) Ah (by decide) (sb_idem _) 5 (by decide) (show 5 < 6 from by decide) rfl fun _ Ai E _ Aj => ?_
  have Ak : Arv Z Ai ds kds .byte 6 [.int (sb (v / 65536)), .int (sb (v / 256)), .int (sb v), .int (sb (g / 65536)), .int (sb (g / 256)), .int (sb g)] (.int 0) := Aj
  refine gGoto (pc' := 30) E d39_177 (by decide) rfl ?_
  refine gIloadN E d39_30 rfl rfl ?_
  refine gIload E d39_31 rfl rfl ?_
  refine gIcmpYes (pc' := 180) E d39_33 (flt (by decide)).2.1 (by decide) rfl ?_
  refine gIload E d39_180 rfl rfl ?_
  refine gIload E d39_182 rfl rfl ?_
  refine gIsub (z := 6) E d39_184 (by decide) rfl ?_
  exact wRetI (so := []) (t := .int) E d39_185 (by simp) rfl (by decide) (by decide) (fun _ q => nomatch q) ⟨rfl, rfl, Ak⟩
theorem d20_95 : Dc cN17 95 (.goto 186) 3 := by decide +kernel
theorem ob_d06 (hw : TH a0 Z) (hE : EW Z a0 consts_1) (dd sr : Addr) (ks : ClassId) (ds : Addr) (kds : ClassId) (tb : Addr) (ktb : ClassId) (v g : Nat) (h : Heap) (hO : Ol Z h) (q0 : Exa Z h dd "java/util/Base64$Decoder") (q1 : Fld Z h dd "java/util/Base64$Decoder" "isURL" "Z" (.int 0)) (q2 : Fld Z h dd "java/util/Base64$Decoder" "isMIME" "Z" (.int 0)) (TS : (PTS Z tb)) (TA : (PTA Z tb ktb)) (q5 : Arv Z h sr ks .byte 8 (tx6 v g) (.int 0)) (q6 : Arv Z h ds kds .byte 6 [.int 0, .int 0, .int 0, .int 0, .int 0, .int 0] (.int 0)) (nsd : (sr ≠ ds)) (ntd : (tb ≠ ds)) (hv : (v < 16777216)) (hg : (g < 16777216)) (ge_ds : Z.heap.size ≤ ds) :
 Ct l Z consts_1 mN19 cN17 11 (some .int) ⟨1, 0, 0, 40⟩ #[.ref dd, .ref sr, .int 0, .int 8, .ref ds] h [ds] (fun rv' hp' so' => rv' = some (.int 6) ∧ so' = [] ∧ Arv Z hp' ds kds .byte 6 [.int (sb (v / 65536)), .int (sb (v / 256)), .int (sb v), .int (sb (g / 65536)), .int (sb (g / 256)), .int (sb g)] (.int 0)) := by
  refine Ct.mk "java/util/Base64$Decoder" "decode0" rfl rfl (a0 := a0) (plainFor_of_name opn3) hO hE (fun x q => by simp at q; subst q; exact ge_ds) ?_
  intro K T W
  rw [oef14]
  refine gAloadN W d20_0 rfl rfl rfl ?_
  refine wGetF W d20_1 (ow107 hw) Via.refl q1 rfl fun _ C => ?_
  refine gIfYes (pc' := 13) C d20_4 ((if0 _ _).trans (teq (by decide)).1) (by decide) rfl ?_
  refine wGetS C d20_13 (ow109 hw) Via.refl TS rfl fun _ B => ?_
  refine gAstore (ls' := #[aR dd, aR sr, aI 0, aI 8, aR ds, aR tb, aU, aU, aU, aU, aU]) B d20_16 rfl rfl rfl ?_
  refine gIconst (z := 0) B d20_18 rfl rfl ?_
  refine gIstore (ls' := #[aR dd, aR sr, aI 0, aI 8, aR ds, aR tb, aI 0, aU, aU, aU, aU]) B d20_19 rfl rfl ?_
  refine gIconst (z := 0) B d20_21 rfl rfl ?_
  refine gIstore (ls' := #[aR dd, aR sr, aI 0, aI 8, aR ds, aR tb, aI 0, aI 0, aU, aU, aU]) B d20_22 rfl rfl ?_
  refine gBipush (z := 18) B d20_24 rfl rfl ?_
  refine gIstore (ls' := #[aR dd, aR sr, aI 0, aI 8, aR ds, aR tb, aI 0, aI 0, aI 18, aU, aU]) B d20_26 rfl rfl ?_
  refine gIloadN B d20_28 rfl rfl ?_
  refine gIloadN B d20_29 rfl rfl ?_
  refine gIcmpNo B d20_30 (tlt (by decide)).2.1 rfl ?_
  refine gIload B d20_33 rfl rfl ?_
  refine gBipush (z := 18) B d20_35 rfl rfl ?_
  refine gIcmpNo B d20_37 (teq (by decide)).2 rfl ?_
  refine gIloadN B d20_40 rfl rfl ?_
  refine gIloadN B d20_41 rfl rfl ?_
  refine gIconst (z := 4) B d20_42 rfl rfl ?_
  refine gIsub (z := 4) B d20_43 (by decide) rfl ?_
  refine gIcmpNo B d20_44 (tlt (by decide)).2.1 rfl ?_
  refine gAloadN B d20_47 rfl rfl rfl ?_
  refine gAloadN B d20_48 rfl rfl rfl ?_
  refine gIloadN B d20_49 rfl rfl ?_
  refine gIloadN B d20_50 rfl rfl ?_
  refine gAload B d20_51 rfl rfl rfl ?_
  refine gIload B d20_53 rfl rfl ?_
  refine gAloadN B d20_55 rfl rfl rfl ?_
  refine wGetF B d20_56 (ow107 hw) Via.refl q1 rfl fun _ D => ?_
  refine gAloadN D d20_59 rfl rfl rfl ?_
  refine wGetF D d20_60 (ow110 hw) Via.refl q2 rfl fun _ E => ?_
  refine wPrivate (y := mN22) (Wd := 0) (a := dd) (argsL := [.ref sr, .int 0, .int 8, .ref ds, .int 0, .int 0, .int 0]) (rest := []) E d20_63 (ow196 hw) (ow197 hw) (ow199 hw) (ow198 hw) (ow200 hw) (by decide) (Cb.ct (ob_bk6 hw hE dd sr ks ds kds tb ktb v g h E.old TS TA q5 q6 nsd ntd hv hg ge_ds) (ow200 hw) (ow58 hw) hE (by decide) (by decide)) q0 (by simp) rfl (lenOf opd13 rfl) rfl (Nat.le_of_eq rfl) (by decide) (by decide) rfl fun _ _ _ _ A _ _ F => ?_
  obtain ⟨rfl, rfl, G⟩ := F
  show Go K _ _ _ _ [.int 6]
  refine gIstore (ls' := #[aR dd, aR sr, aI 0, aI 8, aR ds, aR tb, aI 0, aI 0, aI 18, aI 6, aU]) A d20_66 rfl rfl ?_
  refine gIload A d20_68 rfl rfl ?_
  refine gIconst (z := 2) A d20_70 rfl rfl ?_
  refine gIadd (z := 8) A d20_71 (by decide) rfl ?_
  refine gIconst (z := 3) A d20_72 rfl rfl ?_
  refine gIdiv (z := 2) A d20_73 (by decide) (by decide) rfl ?_
  refine gIconst (z := 4) A d20_74 rfl rfl ?_
  refine gImul (z := 8) A d20_75 (by decide) rfl ?_
  refine gIstore (ls' := #[aR dd, aR sr, aI 0, aI 8, aR ds, aR tb, aI 0, aI 0, aI 18, aI 6, aI 8]) A d20_76 rfl rfl ?_
  refine gIloadN A d20_78 rfl rfl ?_
  refine gIload A d20_79 rfl rfl ?_
  refine gIadd (z := 8) A d20_81 (by decide) rfl ?_
  refine gIstoreN (ls' := #[aR dd, aR sr, aI 8, aI 8, aR ds, aR tb, aI 0, aI 0, aI 18, aI 6, aI 8]) A d20_82 rfl rfl ?_
  refine gIload A d20_83 rfl rfl ?_
  refine gIload A d20_85 rfl rfl ?_
  refine gIadd (z := 6) A d20_87 (by decide) rfl ?_
  refine gIstore (ls' := #[aR dd, aR sr, aI 8, aI 8, aR ds, aR tb, aI 6, aI 0, aI 18, aI 6, aI 8]) A d20_88 rfl rfl ?_
  refine gIloadN A d20_90 rfl rfl ?_
  refine gIloadN A d20_91 rfl rfl ?_
  refine gIcmpNo A d20_92 (flt (by decide)).1 rfl ?_
  refine gGoto (pc' := 281) A d20_95 (by decide) rfl ?_
  refine gIload A d20_281 rfl rfl ?_
  refine gBipush (z := 6) A d20_283 rfl rfl ?_
  refine gIcmpYes (pc' := 305) A d20_285 (feq (by decide)).2 (by decide) rfl ?_
  refine gIload A d20_305 rfl rfl ?_
  refine gIfYes (pc' := 341) A d20_307 ((if0 _ _).trans (feq (by decide)).2) (by decide) rfl ?_
  refine gIload A d20_341 rfl rfl ?_
  refine gBipush (z := 12) A d20_343 rfl rfl ?_
  refine gIcmpYes (pc' := 358) A d20_345 (feq (by decide)).2 (by decide) rfl ?_
  refine gIloadN A d20_358 rfl rfl ?_
  refine gIloadN A d20_359 rfl rfl ?_
  refine gIcmpYes (pc' := 416) A d20_360 (flt (by decide)).2.1 (by decide) rfl ?_
  refine gIload A d20_416 rfl rfl ?_
  exact wRetI (so := []) (t := .int) A d20_418 (by simp) rfl (by decide) (by decide) (fun _ q => nomatch q) ⟨rfl, rfl, G⟩
theorem ob_dec6 (hw : TH a0 Z) (hE : EW Z a0 consts_1) (dd sr : Addr) (ks : ClassId) (tb : Addr) (ktb : ClassId) (v g : Nat) (h : Heap) (hO : Ol Z h) (q0 : Exa Z h dd "java/util/Base64$Decoder") (q1 : Fld Z h dd "java/util/Base64$Decoder" "isURL" "Z" (.int 0)) (q2 : Fld Z h dd "java/util/Base64$Decoder" "isMIME" "Z" (.int 0)) (TS : (PTS Z tb)) (TA : (PTA Z tb ktb)) (q5 : Arv Z h sr ks .byte 8 (tx6 v g) (.int 0)) (hv : (v < 16777216)) (hg : (g < 16777216)) :
 Ct l Z consts_1 mN20 cN18 4 (some (.array .byte)) ⟨2, 1, 6, 70⟩ #[.ref dd, .ref sr] h [] (fun rv' hp' so' => ∃ r : Addr, ∃ kr : ClassId, rv' = some (.ref r) ∧ so' = [] ∧ (h.size ≤ r) ∧ Arv Z hp' r kr .byte 6 [.int (sb (v / 65536)), .int (sb (v / 256)), .int (sb v), .int (sb (g / 65536)), .int (sb (g / 256)), .int (sb g)] (.int 0)) := by
  refine Ct.mk "java/util/Base64$Decoder" "decode" rfl rfl (a0 := a0) (plainFor_of_name opn3) hO hE (fun x q => nomatch q) ?_
  intro K T W
  rw [oef15]
  refine gAloadN W d18_0 rfl rfl rfl ?_
  refine gAloadN W d18_1 rfl rfl rfl ?_
  refine gIconst (z := 0) W d18_2 rfl rfl ?_
  refine gAloadN W d18_3 rfl rfl rfl ?_
  refine wLen W d18_4 q5 rfl ?_
  refine wPrivate (y := mN18) (Wd := 0) (a := dd) (argsL := [.ref sr, .int 0, .int 8]) (rest := []) W d18_5 (ow102 hw) (ow103 hw) (ow105 hw) (ow104 hw) (ow106 hw) (by decide) (Cb.ct (ob_ol6 hw hE dd sr ks tb ktb v g h W.old q0 q1 q2 TS TA q5) (ow106 hw) (ow58 hw) hE (by decide) (by decide)) q0 (by simp) rfl (lenOf opd9 rfl) rfl (Nat.le_of_eq rfl) (by decide) (by decide) rfl fun _ _ _ _ D E _ O => ?_
  obtain ⟨rfl, rfl⟩ := O
  show Go K _ _ _ _ [.int 6]
  refine wNewP (cap := 6) D d18_8 (ow1 hw) (by decide) (by decide) (by decide) (by decide) (by decide) rfl fun _ I B H A F G P => ?_
  have Q : Arv Z I B H .byte 6 [.int 0, .int 0, .int 0, .int 0, .int 0, .int 0] (.int 0) := P 6
  refine gAstoreN (ls' := #[aR dd, aR sr, aR B, aU]) A d18_10 rfl rfl rfl ?_
  refine gAloadN A d18_11 rfl rfl rfl ?_
  refine gAloadN A d18_12 rfl rfl rfl ?_
  refine gIconst (z := 0) A d18_13 rfl rfl ?_
  refine gAloadN A d18_14 rfl rfl rfl ?_
  have J := q5.keep E nin0
  have L := J.ext F
  refine wLen A d18_15 L rfl ?_
  refine gAloadN A d18_16 rfl rfl rfl ?_
  have R : sr ≠ B := Nat.ne_of_lt (Nat.lt_of_lt_of_le J.lt (Nat.le_of_eq G.symm))
  have S := q0.keep E
  have M := S.ext F
  have U := q1.keep E nin0
  have V := U.ext F
  have X := q2.keep E nin0
  have Y := X.ext F
  refine wPrivate (y := mN19) (Wd := 0) (a := dd) (argsL := [.ref sr, .int 0, .int 8, .ref B]) (rest := []) A d18_17 (ow114 hw) (ow115 hw) (ow117 hw) (ow116 hw) (ow118 hw) (by decide) (Cb.ct (ob_d06 hw hE dd sr ks B H tb ktb v g I A.old M V Y TS TA L Q R (Nat.ne_of_lt (Nat.lt_of_lt_of_le TA.lt (Nat.le_trans D.old.2.1 (Nat.le_of_eq G.symm)))) hv hg (Nat.le_trans D.old.2.1 (Nat.le_of_eq G.symm))) (ow118 hw) (ow58 hw) hE (by decide) (by decide)) M (by simp) rfl (lenOf opd10 rfl) rfl (Nat.le_of_eq rfl) (by decide) (by decide) rfl fun _ _ _ _ C _ _ Aa => ?_
  obtain ⟨rfl, rfl, N⟩ := Aa
  show Go K _ _ _ _ [.int 6]
  refine gIstoreN (ls' := #[aR dd, aR sr, aR B, aI 6]) C d18_20 rfl rfl ?_
  refine gIloadN C d18_21 rfl rfl ?_
  refine gAloadN C d18_22 rfl rfl rfl ?_
  refine wLen C d18_23 N rfl ?_
  refine gIcmpYes (pc' := 33) C d18_24 (teq (by decide)).1 (by decide) rfl ?_
  refine gAloadN C d18_33 rfl rfl rfl ?_
  exact wRetA (so := []) (t := .array .byte) C d18_34 rfl rfl rfl (by decide) (by decide) (fun _ q => nomatch q) ⟨B, H, rfl, rfl, (Nat.le_trans D.grow (Nat.le_of_eq G.symm)), N⟩
theorem ob_dcS6 (hw : TH a0 Z) (hE : EW Z a0 consts_1) (dd s u : Addr) (ku : ClassId) (z : Int32) (iso u8 tb : Addr) (ktb : ClassId) (v g : Nat) (h : Heap) (hO : Ol Z h) (SC : (PSC Z z)) (hz : (¬ z = 0)) (SI : (PSI Z iso)) (SU : (PSU Z u8)) (niu : (iso ≠ u8)) (q5 : Exa Z h dd "java/util/Base64$Decoder") (q6 : Fld Z h dd "java/util/Base64$Decoder" "isURL" "Z" (.int 0)) (q7 : Fld Z h dd "java/util/Base64$Decoder" "isMIME" "Z" (.int 0)) (TS : (PTS Z tb)) (TA : (PTA Z tb ktb)) (q10 : Exa Z h s "java/lang/String") (q11 : Fld Z h s "java/lang/String" "value" "[B" (.ref u)) (q12 : Fld Z h s "java/lang/String" "coder" "B" (.int 0)) (q13 : Arv Z h u ku .byte 8 (tx6 v g) (.int 0)) (q14 : Exa Z h u "[B") (hv : (v < 16777216)) (hg : (g < 16777216)) :
 Ct l Z consts_1 mN21 cN19 2 (some (.array .byte)) ⟨5, 2, 14, 95⟩ #[.ref dd, .ref s] h [] (fun rv' hp' so' => ∃ r : Addr, ∃ kr : ClassId, rv' = some (.ref r) ∧ so' = [] ∧ (h.size ≤ r) ∧ Arv Z hp' r kr .byte 6 [.int (sb (v / 65536)), .int (sb (v / 256)), .int (sb v), .int (sb (g / 65536)), .int (sb (g / 256)), .int (sb g)] (.int 0)) := by
  refine Ct.mk "java/util/Base64$Decoder" "decode" rfl rfl (a0 := a0) (plainFor_of_name opn3) hO hE (fun x q => nomatch q) ?_
  intro K T W
  rw [oef8]
  refine gAloadN W d12_0 rfl rfl rfl ?_
  refine gAloadN W d12_1 rfl rfl rfl ?_
  refine wGetS W d12_2 (ow64 hw) Via.refl SI rfl fun _ D => ?_
  refine wVirtual (y := mN17) (z := mN17) (Wd := 1) (a := s) (argsL := [.ref iso]) (rest := [.ref dd]) D d12_5 (ow66 hw) (ow67 hw) (ow69 hw) (ow68 hw) (nfS (ow69 hw)) (by decide) (Cb.ct (ob_gb hw hE s z iso u8 u ku 8 (tx6 v g) h D.old SC hz SI SU niu q10 q11 q12 q13 q14 (by decide)) (ow70 hw) (ow15 hw) hE (by decide) (by decide)) q10 (by simp) rfl (lenOf opd11 rfl) rfl (Nat.le_of_eq rfl) (by decide) (by decide) rfl fun _ _ _ E B C _ H => ?_
  obtain ⟨A, rfl, rfl, _, I⟩ := H
  show Go K _ _ _ _ [.ref A, .ref dd]
  have J : Arv Z E A ku .byte 8 (tx6 v g) (.int 0) := I
  have F := q5.keep C
  have L := q6.keep C nin0
  have M := q7.keep C nin0
  refine wVirtual (y := mN20) (z := mN20) (Wd := 0) (a := dd) (argsL := [.ref A]) (rest := []) B d12_8 (ow97 hw) (ow98 hw) (ow100 hw) (ow99 hw) (nfS (ow100 hw)) (by decide) (Cb.ct (ob_dec6 hw hE dd A ku tb ktb v g E B.old F L M TS TA J hv hg) (ow101 hw) (ow58 hw) hE (by decide) (by decide)) F (by simp) rfl (lenOf opd12 rfl) rfl (Nat.le_of_eq rfl) (by decide) (by decide) rfl fun _ _ _ _ N _ _ O => ?_
  obtain ⟨G, P, rfl, rfl, Q, R⟩ := O
  show Go K _ _ _ _ [.ref G]
  exact wRetA (so := []) (t := .array .byte) N d12_11 rfl rfl rfl (by decide) (by decide) (fun _ q => nomatch q) ⟨G, P, rfl, rfl, (Nat.le_trans B.grow Q), R⟩
-- CUT
abbrev mN23 : MethodName := (⟨"jdk/internal/util/Preconditions", "checkIndex", "(IILjava/util/function/BiFunction;)I"⟩ : MethodName)
abbrev cN21 := jdk_41_method_11_code
theorem opn4 : plainName "jdk/internal/util/Preconditions" = true := by first | (simp [plainName, overriddenIn]; done) | decide +kernel
theorem d30_0 : Dc cN21 0 (.iload_n 0) 1 := by decide +kernel
theorem d30_1 : Dc cN21 1 (.ifCond .lt 8) 3 := by decide +kernel
theorem d30_4 : Dc cN21 4 (.iload_n 0) 1 := by decide +kernel
theorem d30_5 : Dc cN21 5 (.iload_n 1) 1 := by decide +kernel
theorem d30_6 : Dc cN21 6 (.if_icmp .lt 10) 3 := by decide +kernel
theorem d30_16 : Dc cN21 16 (.iload_n 0) 1 := by decide +kernel
theorem d30_17 : Dc cN21 17 (.ireturn) 1 := by decide +kernel
theorem oef17 (m_ : MethodId) (y0_ : Int32) (y1_ : Int32) (y2_ : Value) (ry2_ : y2_.isRef = true) : (entryFrame m_ #[.int y0_, .int y1_, y2_] 3).locals = #[aI y0_, aI y1_, .val y2_] := by rcases ref_cases ry2_ with rfl | ⟨_, rfl⟩ <;> rfl
theorem ob_pv (hw : TH a0 Z) (hE : EW Z a0 consts_1) (i m : Nat) (fm : Value) (h : Heap) (hO : Ol Z h) (him : (i < m)) (hm : (m < 2 ^ 31)) (rf : (fm.isRef = true)) :
 Ct l Z consts_1 mN23 cN21 3 (some .int) ⟨0, 0, 0, 0⟩ #[.int (Int32.ofNat i), .int (Int32.ofNat m), fm] h [] (fun rv' hp' so' => rv' = some (.int (Int32.ofNat i)) ∧ so' = []) := by
  refine Ct.mk "jdk/internal/util/Preconditions" "checkIndex" rfl rfl (a0 := a0) (plainFor_of_name opn4) hO hE (fun x q => nomatch q) ?_
  intro K T W
  rw [oef17 _ ((Int32.ofNat i)) ((Int32.ofNat m)) fm rf]
  refine gIloadN W d30_0 rfl rfl ?_
  refine gIfNo W d30_1 ((if0 _ _).trans (flt (ofNat_nn (by omega))).1) rfl ?_
  refine gIloadN W d30_4 rfl rfl ?_
  refine gIloadN W d30_5 rfl rfl ?_
  refine gIcmpYes (pc' := 16) W d30_6 (tlt ((ofNat_lt (by omega) hm).mpr him)).1 (by decide) rfl ?_
  refine gIloadN W d30_16 rfl rfl ?_
  exact wRetI (so := []) (t := .int) W d30_17 (by simp) rfl (by decide) (by decide) (fun _ q => nomatch q) ⟨rfl, rfl⟩
abbrev mN24 : MethodName := (⟨"java/lang/String", "checkIndex", "(II)V"⟩ : MethodName)
abbrev cN22 := jdk_42_method_155_code
theorem d29_0 : Dc cN22 0 (.iload_n 0) 1 := by decide +kernel
theorem d29_1 : Dc cN22 1 (.iload_n 1) 1 := by decide +kernel
theorem d29_2 : Dc cN22 2 (.getstatic 1053) 3 := by decide +kernel
theorem ow162 (hw : TH a0 Z) : Bf a0 Z (.fieldLink "java/lang/String" 1053 "jdk/internal/util/Preconditions" "SIOOBE_FORMATTER" "Ljava/util/function/BiFunction;") := mo 162 rfl hw
theorem d29_5 : Dc cN22 5 (.invokestatic 1059) 3 := by decide +kernel
theorem ow164 (hw : TH a0 Z) : Bf a0 Z (.methodLink "java/lang/String" 1059 mN23) := mo 164 rfl hw
theorem ow163 (hw : TH a0 Z) : Bf a0 Z (.initialized "jdk/internal/util/Preconditions") := mo 163 rfl hw
theorem ow166 (hw : TH a0 Z) : Bf a0 Z (.code mN23 cN21 3 (some .int)) := mo 166 rfl hw
theorem opd14 : parseMethodDescriptor "(IILjava/util/function/BiFunction;)I" = some ⟨[.int, .int, .object "java/util/function/BiFunction"], some (.int)⟩ := by decide +kernel
theorem ow165 (hw : TH a0 Z) : Bf a0 Z (.static mN23) := mo 165 rfl hw
theorem d29_8 : Dc cN22 8 (.pop) 1 := by decide +kernel
theorem d29_9 : Dc cN22 9 (.return_) 1 := by decide +kernel
theorem oef18 (m_ : MethodId) (y0_ : Int32) (y1_ : Int32) : (entryFrame m_ #[.int y0_, .int y1_] 2).locals = #[aI y0_, aI y1_] := by first | (simp [entryFrame, argsToLocals, Value.category]; done) | rfl
theorem ob_ck (hw : TH a0 Z) (hE : EW Z a0 consts_1) (i m : Nat) (fm : Value) (h : Heap) (hO : Ol Z h) (him : (i < m)) (hm : (m < 2 ^ 31)) (SF : (PSF Z fm)) (rf : (fm.isRef = true)) :
 Ct l Z consts_1 mN24 cN22 2 none ⟨1, 0, 0, 16⟩ #[.int (Int32.ofNat i), .int (Int32.ofNat m)] h [] (fun rv' hp' so' => rv' = none ∧ so' = []) := by
  refine Ct.mk "java/lang/String" "checkIndex" rfl rfl (a0 := a0) (plainFor_of_name opn2) hO hE (fun x q => nomatch q) ?_
  intro K T W
  rw [oef18]
  refine gIloadN W d29_0 rfl rfl ?_
  refine gIloadN W d29_1 rfl rfl ?_
  refine wGetS W d29_2 (ow162 hw) Via.refl SF rfl fun _ A => ?_
  refine wStatic (y := mN23) (Wd := 0) (argsL := [.int (Int32.ofNat i), .int (Int32.ofNat m), fm]) (rest := []) A d29_5 (ow164 hw) (ow165 hw) (ow163 hw) (ow166 hw) (by decide) (Cb.ct (ob_pv hw hE i m fm h A.old him hm rf) (ow166 hw) (ow163 hw) hE (by decide) (by decide)) (by simp) rfl (lenOf opd14 rfl) rfl (Nat.le_of_eq rfl) (by decide) (by decide) rfl fun _ _ _ _ B _ _ C => ?_
  obtain ⟨rfl, rfl⟩ := C
  show Go K _ _ _ _ [.int (Int32.ofNat i)]
  refine gPop B d29_8 rfl rfl ?_
  exact wRet0 (so := []) B d29_9 (by decide) (by decide) (fun _ q => nomatch q) ⟨rfl, rfl⟩
abbrev mN25 : MethodName := (⟨"java/lang/String", "isLatin1", "()Z"⟩ : MethodName)
abbrev cN23 := jdk_42_method_154_code
theorem d27_0 : Dc cN23 0 (.getstatic 38) 3 := by decide +kernel
theorem d27_3 : Dc cN23 3 (.ifCond .eq 14) 3 := by decide +kernel
theorem d27_6 : Dc cN23 6 (.aload_n 0) 1 := by decide +kernel
theorem d27_7 : Dc cN23 7 (.getfield 15) 3 := by decide +kernel
theorem d27_10 : Dc cN23 10 (.ifCond .ne 7) 3 := by decide +kernel
theorem d27_13 : Dc cN23 13 (.iconst 1) 1 := by decide +kernel
theorem d27_14 : Dc cN23 14 (.goto 4) 3 := by decide +kernel
theorem d27_18 : Dc cN23 18 (.ireturn) 1 := by decide +kernel
theorem ob_il (hw : TH a0 Z) (hE : EW Z a0 consts_1) (s : Addr) (z : Int32) (h : Heap) (hO : Ol Z h) (SC : (PSC Z z)) (hz : (¬ z = 0)) (q2 : Fld Z h s "java/lang/String" "coder" "B" (.int 0)) :
 Ct l Z consts_1 mN25 cN23 1 (some .boolean) ⟨0, 0, 0, 0⟩ #[.ref s] h [] (fun rv' hp' so' => rv' = some (.int 1) ∧ so' = []) := by
  refine Ct.mk "java/lang/String" "isLatin1" rfl rfl (a0 := a0) (plainFor_of_name opn2) hO hE (fun x q => nomatch q) ?_
  intro K T W
  rw [oef9]
  refine wGetS W d27_0 (ow26 hw) Via.refl SC rfl fun _ B => ?_
  refine gIfNo B d27_3 ((if0 _ _).trans (feq hz).1) rfl ?_
  refine gAloadN B d27_6 rfl rfl rfl ?_
  refine wGetF B d27_7 (ow37 hw) Via.refl q2 rfl fun _ A => ?_
  refine gIfNo A d27_10 ((if0 _ _).trans (teq rfl).2) rfl ?_
  refine gIconst (z := 1) A d27_13 rfl rfl ?_
  refine gGoto (pc' := 18) A d27_14 (by decide) rfl ?_
  exact wRetI (so := []) (t := .boolean) A d27_18 (by simp) rfl (by decide) (by decide) (fun _ q => nomatch q) ⟨rfl, rfl⟩
abbrev mN26 : MethodName := (⟨"java/lang/StringLatin1", "indexOfChar", "([BIII)I"⟩ : MethodName)
abbrev cN24 := jdk_43_method_23_code
theorem opn5 : plainName "java/lang/StringLatin1" = true := by first | (simp [plainName, overriddenIn]; done) | decide +kernel
theorem d37_0 : Dc cN24 0 (.iload_n 1) 1 := by decide +kernel
theorem d37_1 : Dc cN24 1 (.i2b) 1 := by decide +kernel
theorem d37_2 : Dc cN24 2 (.istore 4) 2 := by decide +kernel
theorem d37_4 : Dc cN24 4 (.iload_n 2) 1 := by decide +kernel
theorem d37_5 : Dc cN24 5 (.istore 5) 2 := by decide +kernel
theorem d37_7 : Dc cN24 7 (.iload 5) 2 := by decide +kernel
theorem d37_9 : Dc cN24 9 (.iload_n 3) 1 := by decide +kernel
theorem d37_10 : Dc cN24 10 (.if_icmp .ge 21) 3 := by decide +kernel
theorem d37_13 : Dc cN24 13 (.aload_n 0) 1 := by decide +kernel
theorem d37_14 : Dc cN24 14 (.iload 5) 2 := by decide +kernel
theorem d37_16 : Dc cN24 16 (.baload) 1 := by decide +kernel
theorem d37_17 : Dc cN24 17 (.iload 4) 2 := by decide +kernel
theorem d37_19 : Dc cN24 19 (.if_icmp .ne 6) 3 := by decide +kernel
theorem d37_22 : Dc cN24 22 (.iload 5) 2 := by decide +kernel
theorem d37_24 : Dc cN24 24 (.ireturn) 1 := by decide +kernel
theorem d37_25 : Dc cN24 25 (.iinc 5 1) 3 := by decide +kernel
theorem d37_28 : Dc cN24 28 (.goto (-21)) 3 := by decide +kernel
theorem oef19 (m_ : MethodId) (y0_ : Addr) (y1_ : Int32) (y2_ : Int32) (y3_ : Int32) : (entryFrame m_ #[.ref y0_, .int y1_, .int y2_, .int y3_] 6).locals = #[aR y0_, aI y1_, aI y2_, aI y3_, aU, aU] := by first | (simp [entryFrame, argsToLocals, Value.category]; done) | rfl
theorem ob_ic (hw : TH a0 Z) (hE : EW Z a0 consts_1) (u : Addr) (ku : ClassId) (q : Nat) (h : Heap) (hO : Ol Z h) (qu : Arv Z h u ku .byte 64 alph (.int 0)) (hq : (q < 64)) :
 Ct l Z consts_1 mN26 cN24 6 (some .int) ⟨0, 0, 0, 0⟩ #[.ref u, .int (Int32.ofNat (symN q)), .int 0, .int 64] h [] (fun rv' hp' so' => rv' = some (.int (Int32.ofNat q)) ∧ so' = []) := by
  refine Ct.mk "java/lang/StringLatin1" "indexOfChar" rfl rfl (a0 := a0) (plainFor_of_name opn5) hO hE (fun x q => nomatch q) ?_
  intro K T W
  rw [oef19]
  refine gIloadN W d37_0 rfl rfl ?_
  refine gI2B (z := (Int32.ofNat (symN q))) W d37_1 (byte_id (symN_le _)) rfl ?_
  refine gIstore (ls' := #[aR u, aI (Int32.ofNat (symN q)), aI 0, aI 64, aI (Int32.ofNat (symN q)), aU]) W d37_2 rfl rfl ?_
  refine gIloadN W d37_4 rfl rfl ?_
  refine gIstore (ls' := #[aR u, aI (Int32.ofNat (symN q)), aI 0, aI 64, aI (Int32.ofNat (symN q)), aI 0]) W d37_5 rfl rfl ?_
  have loop : ∀ k j : Nat, j + k = q → ∀ (B : State) (C : Heap), Wk l Z consts_1 "java/lang/StringLatin1" "indexOfChar" cN24 6 (some .int) ⟨0, 0, 0, 0⟩ [] h K [] B C 0 0 → Arv Z C u ku .byte 64 alph (.int 0) → Go K (Pst Z consts_1 [] K.2.2.1 (⟨0, 0, 0, 0⟩ : Room).cells (⟨0, 0, 0, 0⟩ : Room).slots (fun rv' hp' so' => rv' = some (.int (Int32.ofNat q)) ∧ so' = [])) B 7 #[aR u, aI (Int32.ofNat (symN q)), aI 0, aI 64, aI (Int32.ofNat (symN q)), aI (Int32.ofNat j)] [] := by
    intro k
    induction k with
    | zero =>
      intro j hjk B C A qu1
      refine gIload A d37_7 rfl rfl ?_
      refine gIloadN A d37_9 rfl rfl ?_
      refine gIcmpNo A d37_10 (tlt ((ofNat_ltc (P := 64) (by decide) (by omega)).mpr (by omega))).2.1 rfl ?_
      refine gAloadN A d37_13 rfl rfl rfl ?_
      refine gIload A d37_14 rfl rfl ?_
      refine wLdB (v := (.int (Int32.ofNat (symN j)))) A d37_16 qu1 (ofNat_inb (n := 64) (by omega) (by decide)) (by rw [ofNat_clamp (by omega)]; exact alph_at (by omega)) rfl ?_
      refine gIload A d37_17 rfl rfl ?_
      refine gIcmpNo A d37_19 (teq (by rw [show j = q from by omega])).2 rfl ?_
      refine gIload A d37_22 rfl rfl ?_
      refine Go.top (show Value.int (Int32.ofNat j) = Value.int (Int32.ofNat q) from by rw [show j = q from by omega]) ?_
      exact wRetI (so := []) (t := .int) A d37_24 (by simp) rfl (by decide) (by decide) (fun _ q => nomatch q) ⟨rfl, rfl⟩
    | succ k ih =>
      intro j hjk B C A qu1
      refine gIload A d37_7 rfl rfl ?_
      refine gIloadN A d37_9 rfl rfl ?_
      refine gIcmpNo A d37_10 (tlt ((ofNat_ltc (P := 64) (by decide) (by omega)).mpr (by omega))).2.1 rfl ?_
      refine gAloadN A d37_13 rfl rfl rfl ?_
      refine gIload A d37_14 rfl rfl ?_
      refine wLdB (v := (.int (Int32.ofNat (symN j)))) A d37_16 qu1 (ofNat_inb (n := 64) (by omega) (by decide)) (by rw [ofNat_clamp (by omega)]; exact alph_at (by omega)) rfl ?_
      refine gIload A d37_17 rfl rfl ?_
      refine gIcmpYes (pc' := 25) A d37_19 (feq (fun e => absurd (symN_inj j (by omega) q hq (ofNat_inj (Nat.lt_of_le_of_lt (symN_le _) (by decide)) (Nat.lt_of_le_of_lt (symN_le _) (by decide)) e)) (by omega))).2 (by decide) rfl ?_
      refine gIinc (z := (Int32.ofNat (j + 1))) (ls' := #[aR u, aI (Int32.ofNat (symN q)), aI 0, aI 64, aI (Int32.ofNat (symN q)), aI (Int32.ofNat (j + 1))]) A d37_25 rfl (ofNat_succ (by omega)) rfl rfl ?_
      refine gGoto (pc' := 7) A d37_28 (by decide) rfl ?_
      exact ih (j + 1) (by omega) _ _ A qu1
  exact loop q 0 (by omega) _ _ W qu
abbrev mN27 : MethodName := (⟨"java/lang/StringLatin1", "canEncode", "(I)Z"⟩ : MethodName)
abbrev cN25 := jdk_43_method_4_code
theorem d34_0 : Dc cN25 0 (.iload_n 0) 1 := by decide +kernel
theorem d34_1 : Dc cN25 1 (.ifCond .lt 14) 3 := by decide +kernel
theorem d34_4 : Dc cN25 4 (.iload_n 0) 1 := by decide +kernel
theorem d34_5 : Dc cN25 5 (.sipush 255) 3 := by decide +kernel
theorem d34_8 : Dc cN25 8 (.if_icmp .gt 7) 3 := by decide +kernel
theorem d34_11 : Dc cN25 11 (.iconst 1) 1 := by decide +kernel
theorem d34_12 : Dc cN25 12 (.goto 4) 3 := by decide +kernel
theorem d34_16 : Dc cN25 16 (.ireturn) 1 := by decide +kernel
theorem ob_ce (hw : TH a0 Z) (hE : EW Z a0 consts_1) (q : Nat) (h : Heap) (hO : Ol Z h) :
 Ct l Z consts_1 mN27 cN25 1 (some .boolean) ⟨0, 0, 0, 0⟩ #[.int (Int32.ofNat (symN q))] h [] (fun rv' hp' so' => rv' = some (.int 1) ∧ so' = []) := by
  refine Ct.mk "java/lang/StringLatin1" "canEncode" rfl rfl (a0 := a0) (plainFor_of_name opn5) hO hE (fun x q => nomatch q) ?_
  intro K T W
  rw [oef0]
  refine gIloadN W d34_0 rfl rfl ?_
  refine gIfNo W d34_1 ((if0 _ _).trans (flt (ofNat_nn (Nat.lt_of_le_of_lt (symN_le _) (by decide)))).1) rfl ?_
  refine gIloadN W d34_4 rfl rfl ?_
  refine gSipush (z := 255) W d34_5 rfl rfl ?_
  refine gIcmpNo W d34_8 (flt (fun e => absurd ((ltc_ofNat (P := 255) (by decide) (Nat.lt_of_le_of_lt (symN_le _) (by decide))).mp e) (by have := symN_le q; omega))).2.2.1 rfl ?_
  refine gIconst (z := 1) W d34_11 rfl rfl ?_
  refine gGoto (pc' := 16) W d34_12 (by decide) rfl ?_
  exact wRetI (so := []) (t := .boolean) W d34_16 (by simp) rfl (by decide) (by decide) (fun _ q => nomatch q) ⟨rfl, rfl⟩
abbrev mN28 : MethodName := (⟨"java/lang/Math", "max", "(II)I"⟩ : MethodName)
abbrev cN26 := jdk_29_method_65_code
theorem d35_0 : Dc cN26 0 (.iload_n 0) 1 := by decide +kernel
theorem d35_1 : Dc cN26 1 (.iload_n 1) 1 := by decide +kernel
theorem d35_2 : Dc cN26 2 (.if_icmp .lt 7) 3 := by decide +kernel
theorem d35_5 : Dc cN26 5 (.iload_n 0) 1 := by decide +kernel
theorem d35_6 : Dc cN26 6 (.goto 4) 3 := by decide +kernel
theorem d35_10 : Dc cN26 10 (.ireturn) 1 := by decide +kernel
theorem ob_mx (hw : TH a0 Z) (hE : EW Z a0 consts_1) (h : Heap) (hO : Ol Z h) :
 Ct l Z consts_1 mN28 cN26 2 (some .int) ⟨0, 0, 0, 0⟩ #[.int 0, .int 0] h [] (fun rv' hp' so' => rv' = some (.int 0) ∧ so' = []) := by
  refine Ct.mk "java/lang/Math" "max" rfl rfl (a0 := a0) (by decide +kernel) hO hE (fun x q => nomatch q) ?_
  intro K T W
  rw [oef18]
  refine gIloadN W d35_0 rfl rfl ?_
  refine gIloadN W d35_1 rfl rfl ?_
  refine gIcmpNo W d35_2 (flt (by decide)).1 rfl ?_
  refine gIloadN W d35_5 rfl rfl ?_
  refine gGoto (pc' := 10) W d35_6 (by decide) rfl ?_
  exact wRetI (so := []) (t := .int) W d35_10 (by simp) rfl (by decide) (by decide) (fun _ q => nomatch q) ⟨rfl, rfl⟩
abbrev mN29 : MethodName := (⟨"java/lang/Math", "min", "(II)I"⟩ : MethodName)
abbrev cN27 := jdk_29_method_69_code
theorem d36_0 : Dc cN27 0 (.iload_n 0) 1 := by decide +kernel
theorem d36_1 : Dc cN27 1 (.iload_n 1) 1 := by decide +kernel
theorem d36_2 : Dc cN27 2 (.if_icmp .gt 7) 3 := by decide +kernel
theorem d36_5 : Dc cN27 5 (.iload_n 0) 1 := by decide +kernel
theorem d36_6 : Dc cN27 6 (.goto 4) 3 := by decide +kernel
theorem d36_10 : Dc cN27 10 (.ireturn) 1 := by decide +kernel
theorem ob_mn (hw : TH a0 Z) (hE : EW Z a0 consts_1) (h : Heap) (hO : Ol Z h) :
 Ct l Z consts_1 mN29 cN27 2 (some .int) ⟨0, 0, 0, 0⟩ #[.int 64, .int 64] h [] (fun rv' hp' so' => rv' = some (.int 64) ∧ so' = []) := by
  refine Ct.mk "java/lang/Math" "min" rfl rfl (a0 := a0) (by decide +kernel) hO hE (fun x q => nomatch q) ?_
  intro K T W
  rw [oef18]
  refine gIloadN W d36_0 rfl rfl ?_
  refine gIloadN W d36_1 rfl rfl ?_
  refine gIcmpNo W d36_2 (flt (by decide)).2.2.1 rfl ?_
  refine gIloadN W d36_5 rfl rfl ?_
  refine gGoto (pc' := 10) W d36_6 (by decide) rfl ?_
  exact wRetI (so := []) (t := .int) W d36_10 (by simp) rfl (by decide) (by decide) (fun _ q => nomatch q) ⟨rfl, rfl⟩
abbrev mN30 : MethodName := (⟨"java/lang/StringLatin1", "indexOf", "([BIII)I"⟩ : MethodName)
abbrev cN28 := jdk_43_method_22_code
theorem d33_0 : Dc cN28 0 (.iload_n 1) 1 := by decide +kernel
theorem d33_1 : Dc cN28 1 (.invokestatic 88) 3 := by decide +kernel
theorem ow180 (hw : TH a0 Z) : Bf a0 Z (.methodLink "java/lang/StringLatin1" 88 mN27) := mo 180 rfl hw
theorem ow157 (hw : TH a0 Z) : Bf a0 Z (.initialized "java/lang/StringLatin1") := mo 157 rfl hw
theorem ow182 (hw : TH a0 Z) : Bf a0 Z (.code mN27 cN25 1 (some .boolean)) := mo 182 rfl hw
theorem opd15 : parseMethodDescriptor "(I)Z" = some ⟨[.int], some (.boolean)⟩ := by decide +kernel
theorem ow181 (hw : TH a0 Z) : Bf a0 Z (.static mN27) := mo 181 rfl hw
theorem d33_4 : Dc cN28 4 (.ifCond .ne 5) 3 := by decide +kernel
theorem d33_9 : Dc cN28 9 (.iload_n 2) 1 := by decide +kernel
theorem d33_10 : Dc cN28 10 (.iconst 0) 1 := by decide +kernel
theorem d33_11 : Dc cN28 11 (.invokestatic 92) 3 := by decide +kernel
theorem ow183 (hw : TH a0 Z) : Bf a0 Z (.methodLink "java/lang/StringLatin1" 92 mN28) := mo 183 rfl hw
theorem ow185 (hw : TH a0 Z) : Bf a0 Z (.initialized "java/lang/Math") := mo 185 rfl hw
theorem ow186 (hw : TH a0 Z) : Bf a0 Z (.code mN28 cN26 2 (some .int)) := mo 186 rfl hw
theorem opd16 : parseMethodDescriptor "(II)I" = some ⟨[.int, .int], some (.int)⟩ := by decide +kernel
theorem ow184 (hw : TH a0 Z) : Bf a0 Z (.static mN28) := mo 184 rfl hw
theorem d33_14 : Dc cN28 14 (.istore_n 2) 1 := by decide +kernel
theorem d33_15 : Dc cN28 15 (.iload_n 3) 1 := by decide +kernel
theorem d33_16 : Dc cN28 16 (.aload_n 0) 1 := by decide +kernel
theorem d33_17 : Dc cN28 17 (.arraylength) 1 := by decide +kernel
theorem d33_18 : Dc cN28 18 (.invokestatic 38) 3 := by decide +kernel
theorem ow187 (hw : TH a0 Z) : Bf a0 Z (.methodLink "java/lang/StringLatin1" 38 mN29) := mo 187 rfl hw
theorem ow189 (hw : TH a0 Z) : Bf a0 Z (.code mN29 cN27 2 (some .int)) := mo 189 rfl hw
theorem ow188 (hw : TH a0 Z) : Bf a0 Z (.static mN29) := mo 188 rfl hw
theorem d33_21 : Dc cN28 21 (.istore_n 3) 1 := by decide +kernel
theorem d33_22 : Dc cN28 22 (.iload_n 2) 1 := by decide +kernel
theorem d33_23 : Dc cN28 23 (.iload_n 3) 1 := by decide +kernel
theorem d33_24 : Dc cN28 24 (.if_icmp .lt 5) 3 := by decide +kernel
theorem d33_29 : Dc cN28 29 (.aload_n 0) 1 := by decide +kernel
theorem d33_30 : Dc cN28 30 (.iload_n 1) 1 := by decide +kernel
theorem d33_31 : Dc cN28 31 (.iload_n 2) 1 := by decide +kernel
theorem d33_32 : Dc cN28 32 (.iload_n 3) 1 := by decide +kernel
theorem d33_33 : Dc cN28 33 (.invokestatic 95) 3 := by decide +kernel
theorem ow190 (hw : TH a0 Z) : Bf a0 Z (.methodLink "java/lang/StringLatin1" 95 mN26) := mo 190 rfl hw
theorem ow192 (hw : TH a0 Z) : Bf a0 Z (.code mN26 cN24 6 (some .int)) := mo 192 rfl hw
theorem opd17 : parseMethodDescriptor "([BIII)I" = some ⟨[.array .byte, .int, .int, .int], some (.int)⟩ := by decide +kernel
theorem ow191 (hw : TH a0 Z) : Bf a0 Z (.static mN26) := mo 191 rfl hw
theorem d33_36 : Dc cN28 36 (.ireturn) 1 := by decide +kernel
theorem oef20 (m_ : MethodId) (y0_ : Addr) (y1_ : Int32) (y2_ : Int32) (y3_ : Int32) : (entryFrame m_ #[.ref y0_, .int y1_, .int y2_, .int y3_] 4).locals = #[aR y0_, aI y1_, aI y2_, aI y3_] := by first | (simp [entryFrame, argsToLocals, Value.category]; done) | rfl
theorem ob_li (hw : TH a0 Z) (hE : EW Z a0 consts_1) (u : Addr) (ku : ClassId) (q : Nat) (h : Heap) (hO : Ol Z h) (q0 : Arv Z h u ku .byte 64 alph (.int 0)) (hq : (q < 64)) :
 Ct l Z consts_1 mN30 cN28 4 (some .int) ⟨1, 0, 0, 24⟩ #[.ref u, .int (Int32.ofNat (symN q)), .int 0, .int 64] h [] (fun rv' hp' so' => rv' = some (.int (Int32.ofNat q)) ∧ so' = []) := by
  refine Ct.mk "java/lang/StringLatin1" "indexOf" rfl rfl (a0 := a0) (plainFor_of_name opn5) hO hE (fun x q => nomatch q) ?_
  intro K T W
  rw [oef20]
  refine gIloadN W d33_0 rfl rfl ?_
  refine wStatic (y := mN27) (Wd := 0) (argsL := [.int (Int32.ofNat (symN q))]) (rest := []) W d33_1 (ow180 hw) (ow181 hw) (ow157 hw) (ow182 hw) (by decide) (Cb.ct (ob_ce hw hE q h W.old) (ow182 hw) (ow157 hw) hE (by decide) (by decide)) (by simp) rfl (lenOf opd15 rfl) rfl (Nat.le_of_eq rfl) (by decide) (by decide) rfl fun _ _ _ E C F _ G => ?_
  obtain ⟨rfl, rfl⟩ := G
  show Go K _ _ _ _ [.int 1]
  refine gIfYes (pc' := 9) C d33_4 ((if0 _ _).trans (feq (by decide)).2) (by decide) rfl ?_
  refine gIloadN C d33_9 rfl rfl ?_
  refine gIconst (z := 0) C d33_10 rfl rfl ?_
  refine wStatic (y := mN28) (Wd := 0) (argsL := [.int 0, .int 0]) (rest := []) C d33_11 (ow183 hw) (ow184 hw) (ow185 hw) (ow186 hw) (by decide) (Cb.ct (ob_mx hw hE E C.old) (ow186 hw) (ow185 hw) hE (by decide) (by decide)) (by simp) rfl (lenOf opd16 rfl) rfl (Nat.le_of_eq rfl) (by decide) (by decide) rfl fun _ _ _ H B I _ J => ?_
  obtain ⟨rfl, rfl⟩ := J
  show Go K _ _ _ _ [.int 0]
  refine gIstoreN (ls' := #[aR u, aI (Int32.ofNat (symN q)), aI 0, aI 64]) B d33_14 rfl rfl ?_
  refine gIloadN B d33_15 rfl rfl ?_
  refine gAloadN B d33_16 rfl rfl rfl ?_
  have L := q0.keep F nin0
  have D := L.keep I nin0
  refine wLen B d33_17 D rfl ?_
  refine wStatic (y := mN29) (Wd := 0) (argsL := [.int 64, .int 64]) (rest := []) B d33_18 (ow187 hw) (ow188 hw) (ow185 hw) (ow189 hw) (by decide) (Cb.ct (ob_mn hw hE H B.old) (ow189 hw) (ow185 hw) hE (by decide) (by decide)) (by simp) rfl (lenOf opd16 rfl) rfl (Nat.le_of_eq rfl) (by decide) (by decide) rfl fun _ _ _ M A N _ O => ?_
  obtain ⟨rfl, rfl⟩ := O
  show Go K _ _ _ _ [.int 64]
  refine gIstoreN (ls' := #[aR u, aI (Int32.ofNat (symN q)), aI 0, aI 64]) A d33_21 rfl rfl ?_
  refine gIloadN A d33_22 rfl rfl ?_
  refine gIloadN A d33_23 rfl rfl ?_
  refine gIcmpYes (pc' := 29) A d33_24 (tlt (by decide)).1 (by decide) rfl ?_
  refine gAloadN A d33_29 rfl rfl rfl ?_
  refine gIloadN A d33_30 rfl rfl ?_
  refine gIloadN A d33_31 rfl rfl ?_
  refine gIloadN A d33_32 rfl rfl ?_
  have P := D.keep N nin0
  refine wStatic (y := mN26) (Wd := 0) (argsL := [.ref u, .int (Int32.ofNat (symN q)), .int 0, .int 64]) (rest := []) A d33_33 (ow190 hw) (ow191 hw) (ow157 hw) (ow192 hw) (by decide) (Cb.ct (ob_ic hw hE u ku q M A.old P hq) (ow192 hw) (ow157 hw) hE (by decide) (by decide)) (by simp) rfl (lenOf opd17 rfl) rfl (Nat.le_of_eq rfl) (by decide) (by decide) rfl fun _ _ _ _ Q _ _ R => ?_
  obtain ⟨rfl, rfl⟩ := R
  show Go K _ _ _ _ [.int (Int32.ofNat q)]
  exact wRetI (so := []) (t := .int) Q d33_36 (by simp) rfl (by decide) (by decide) (fun _ q => nomatch q) ⟨rfl, rfl⟩
abbrev mN31 : MethodName := (⟨"java/lang/String", "indexOf", "(II)I"⟩ : MethodName)
abbrev cN29 := jdk_42_method_80_code
theorem d32_0 : Dc cN29 0 (.aload_n 0) 1 := by decide +kernel
theorem d32_1 : Dc cN29 1 (.invokevirtual 492) 3 := by decide +kernel
theorem ow154 (hw : TH a0 Z) : Bf a0 Z (.code mN25 cN23 1 (some .boolean)) := mo 154 rfl hw
theorem opd18 : parseMethodDescriptor "()Z" = some ⟨[], some (.boolean)⟩ := by decide +kernel
theorem ow150 (hw : TH a0 Z) : Bf a0 Z (.methodLink "java/lang/String" 492 mN25) := mo 150 rfl hw
theorem ow151 (hw : TH a0 Z) : Bf a0 Z (.declares mN25) := mo 151 rfl hw
theorem ow153 (hw : TH a0 Z) : Bf a0 Z (.selects "java/lang/String" mN25 mN25) := mo 153 rfl hw
theorem ow152 (hw : TH a0 Z) : Bf a0 Z (.instanceMethod mN25) := mo 152 rfl hw
theorem d32_4 : Dc cN29 4 (.ifCond .eq 19) 3 := by decide +kernel
theorem d32_7 : Dc cN29 7 (.aload_n 0) 1 := by decide +kernel
theorem d32_8 : Dc cN29 8 (.getfield 9) 3 := by decide +kernel
theorem d32_11 : Dc cN29 11 (.iload_n 1) 1 := by decide +kernel
theorem d32_12 : Dc cN29 12 (.iload_n 2) 1 := by decide +kernel
theorem d32_13 : Dc cN29 13 (.aload_n 0) 1 := by decide +kernel
theorem d32_14 : Dc cN29 14 (.invokevirtual 505) 3 := by decide +kernel
theorem ow126 (hw : TH a0 Z) : Bf a0 Z (.code mN11 cN11 1 (some .int)) := mo 126 rfl hw
theorem opd19 : parseMethodDescriptor "()I" = some ⟨[], some (.int)⟩ := by decide +kernel
theorem ow133 (hw : TH a0 Z) : Bf a0 Z (.methodLink "java/lang/String" 505 mN11) := mo 133 rfl hw
theorem ow123 (hw : TH a0 Z) : Bf a0 Z (.declares mN11) := mo 123 rfl hw
theorem ow125 (hw : TH a0 Z) : Bf a0 Z (.selects "java/lang/String" mN11 mN11) := mo 125 rfl hw
theorem ow124 (hw : TH a0 Z) : Bf a0 Z (.instanceMethod mN11) := mo 124 rfl hw
theorem d32_17 : Dc cN29 17 (.invokestatic 637) 3 := by decide +kernel
theorem ow177 (hw : TH a0 Z) : Bf a0 Z (.methodLink "java/lang/String" 637 mN30) := mo 177 rfl hw
theorem ow179 (hw : TH a0 Z) : Bf a0 Z (.code mN30 cN28 4 (some .int)) := mo 179 rfl hw
theorem ow178 (hw : TH a0 Z) : Bf a0 Z (.static mN30) := mo 178 rfl hw
theorem d32_20 : Dc cN29 20 (.goto 16) 3 := by decide +kernel
theorem d32_36 : Dc cN29 36 (.ireturn) 1 := by decide +kernel
theorem ob_i2 (hw : TH a0 Z) (hE : EW Z a0 consts_1) (s u : Addr) (ku : ClassId) (z : Int32) (q : Nat) (h : Heap) (hO : Ol Z h) (SC : (PSC Z z)) (hz : (¬ z = 0)) (q2 : Exa Z h s "java/lang/String") (q3 : Fld Z h s "java/lang/String" "value" "[B" (.ref u)) (q4 : Fld Z h s "java/lang/String" "coder" "B" (.int 0)) (q5 : Arv Z h u ku .byte 64 alph (.int 0)) (hq : (q < 64)) :
 Ct l Z consts_1 mN31 cN29 3 (some .int) ⟨2, 0, 0, 44⟩ #[.ref s, .int (Int32.ofNat (symN q)), .int 0] h [] (fun rv' hp' so' => rv' = some (.int (Int32.ofNat q)) ∧ so' = []) := by
  refine Ct.mk "java/lang/String" "indexOf" rfl rfl (a0 := a0) (plainFor_of_name opn2) hO hE (fun x q => nomatch q) ?_
  intro K T W
  rw [oef1]
  refine gAloadN W d32_0 rfl rfl rfl ?_
  refine wVirtual (y := mN25) (z := mN25) (Wd := 0) (a := s) (argsL := []) (rest := []) W d32_1 (ow150 hw) (ow151 hw) (ow153 hw) (ow152 hw) (nfS (ow153 hw)) (by decide) (Cb.ct (ob_il hw hE s z h W.old SC hz q4) (ow154 hw) (ow15 hw) hE (by decide) (by decide)) q2 (by simp) rfl (lenOf opd18 rfl) rfl (Nat.le_of_eq rfl) (by decide) (by decide) rfl fun _ _ _ I C B _ J => ?_
  obtain ⟨rfl, rfl⟩ := J
  show Go K _ _ _ _ [.int 1]
  refine gIfNo C d32_4 ((if0 _ _).trans (feq (by decide)).1) rfl ?_
  refine gAloadN C d32_7 rfl rfl rfl ?_
  have D := q3.keep B nin0
  refine wGetF C d32_8 (ow39 hw) Via.refl D rfl fun _ A => ?_
  refine gIloadN A d32_11 rfl rfl ?_
  refine gIloadN A d32_12 rfl rfl ?_
  refine gAloadN A d32_13 rfl rfl rfl ?_
  have E := q2.keep B
  have L := q4.keep B nin0
  have F := q5.keep B nin0
  refine wVirtual (y := mN11) (z := mN11) (Wd := 3) (a := s) (argsL := []) (rest := [.int 0, .int (Int32.ofNat (symN q)), .ref u]) A d32_14 (ow133 hw) (ow123 hw) (ow125 hw) (ow124 hw) (nfS (ow125 hw)) (by decide) (Cb.ct (ob_ln64 hw hE s u ku alph z I A.old SC hz E D L F) (ow126 hw) (ow15 hw) hE (by decide) (by decide)) E (by simp) rfl (lenOf opd19 rfl) rfl (Nat.le_of_eq rfl) (by decide) (by decide) rfl fun _ _ _ M G N _ O => ?_
  obtain ⟨rfl, rfl⟩ := O
  show Go K _ _ _ _ [.int 64, .int 0, .int (Int32.ofNat (symN q)), .ref u]
  have P := F.keep N nin0
  refine wStatic (y := mN30) (Wd := 0) (argsL := [.ref u, .int (Int32.ofNat (symN q)), .int 0, .int 64]) (rest := []) G d32_17 (ow177 hw) (ow178 hw) (ow157 hw) (ow179 hw) (by decide) (Cb.ct (ob_li hw hE u ku q M G.old P hq) (ow179 hw) (ow157 hw) hE (by decide) (by decide)) (by simp) rfl (lenOf opd17 rfl) rfl (Nat.le_of_eq rfl) (by decide) (by decide) rfl fun _ _ _ _ H _ _ Q => ?_
  obtain ⟨rfl, rfl⟩ := Q
  show Go K _ _ _ _ [.int (Int32.ofNat q)]
  refine gGoto (pc' := 36) H d32_20 (by decide) rfl ?_
  exact wRetI (so := []) (t := .int) H d32_36 (by simp) rfl (by decide) (by decide) (fun _ q => nomatch q) ⟨rfl, rfl⟩
abbrev mN32 : MethodName := (⟨"java/lang/String", "indexOf", "(I)I"⟩ : MethodName)
abbrev cN30 := jdk_42_method_79_code
theorem d31_0 : Dc cN30 0 (.aload_n 0) 1 := by decide +kernel
theorem d31_1 : Dc cN30 1 (.iload_n 1) 1 := by decide +kernel
theorem d31_2 : Dc cN30 2 (.iconst 0) 1 := by decide +kernel
theorem d31_3 : Dc cN30 3 (.invokevirtual 633) 3 := by decide +kernel
theorem ow176 (hw : TH a0 Z) : Bf a0 Z (.code mN31 cN29 3 (some .int)) := mo 176 rfl hw
theorem ow172 (hw : TH a0 Z) : Bf a0 Z (.methodLink "java/lang/String" 633 mN31) := mo 172 rfl hw
theorem ow173 (hw : TH a0 Z) : Bf a0 Z (.declares mN31) := mo 173 rfl hw
theorem ow175 (hw : TH a0 Z) : Bf a0 Z (.selects "java/lang/String" mN31 mN31) := mo 175 rfl hw
theorem ow174 (hw : TH a0 Z) : Bf a0 Z (.instanceMethod mN31) := mo 174 rfl hw
theorem d31_6 : Dc cN30 6 (.ireturn) 1 := by decide +kernel
theorem ob_ix (hw : TH a0 Z) (hE : EW Z a0 consts_1) (s u : Addr) (ku : ClassId) (z : Int32) (q : Nat) (h : Heap) (hO : Ol Z h) (SC : (PSC Z z)) (hz : (¬ z = 0)) (q2 : Exa Z h s "java/lang/String") (q3 : Fld Z h s "java/lang/String" "value" "[B" (.ref u)) (q4 : Fld Z h s "java/lang/String" "coder" "B" (.int 0)) (q5 : Arv Z h u ku .byte 64 alph (.int 0)) (hq : (q < 64)) :
 Ct l Z consts_1 mN32 cN30 2 (some .int) ⟨3, 0, 0, 60⟩ #[.ref s, .int (Int32.ofNat (symN q))] h [] (fun rv' hp' so' => rv' = some (.int (Int32.ofNat q)) ∧ so' = []) := by
  refine Ct.mk "java/lang/String" "indexOf" rfl rfl (a0 := a0) (plainFor_of_name opn2) hO hE (fun x q => nomatch q) ?_
  intro K T W
  rw [oef6]
  refine gAloadN W d31_0 rfl rfl rfl ?_
  refine gIloadN W d31_1 rfl rfl ?_
  refine gIconst (z := 0) W d31_2 rfl rfl ?_
  refine wVirtual (y := mN31) (z := mN31) (Wd := 0) (a := s) (argsL := [.int (Int32.ofNat (symN q)), .int 0]) (rest := []) W d31_3 (ow172 hw) (ow173 hw) (ow175 hw) (ow174 hw) (nfS (ow175 hw)) (by decide) (Cb.ct (ob_i2 hw hE s u ku z q h W.old SC hz q2 q3 q4 q5 hq) (ow176 hw) (ow15 hw) hE (by decide) (by decide)) q2 (by simp) rfl (lenOf opd16 rfl) rfl (Nat.le_of_eq rfl) (by decide) (by decide) rfl fun _ _ _ _ A _ _ B => ?_
  obtain ⟨rfl, rfl⟩ := B
  show Go K _ _ _ _ [.int (Int32.ofNat q)]
  exact wRetI (so := []) (t := .int) A d31_6 (by simp) rfl (by decide) (by decide) (fun _ q => nomatch q) ⟨rfl, rfl⟩
abbrev mN33 : MethodName := (⟨"java/lang/String", "startsWith", "(Ljava/lang/String;I)Z"⟩ : MethodName)
abbrev cN31 := jdk_42_method_75_code
theorem d24_0 : Dc cN31 0 (.iload_n 2) 1 := by decide +kernel
theorem d24_1 : Dc cN31 1 (.ifCond .lt 16) 3 := by decide +kernel
theorem d24_17 : Dc cN31 17 (.iconst 0) 1 := by decide +kernel
theorem d24_18 : Dc cN31 18 (.ireturn) 1 := by decide +kernel
theorem oef21 (m_ : MethodId) (y0_ : Addr) (y1_ : Addr) (y2_ : Int32) : (entryFrame m_ #[.ref y0_, .ref y1_, .int y2_] 8).locals = #[aR y0_, aR y1_, aI y2_, aU, aU, aU, aU, aU] := by first | (simp [entryFrame, argsToLocals, Value.category]; done) | rfl
theorem ob_sw02 (hw : TH a0 Z) (hE : EW Z a0 consts_1) (s u : Addr) (ku : ClassId) (p up : Addr) (kp : ClassId) (z : Int32) (h : Heap) (hO : Ol Z h) (SC : (PSC Z z)) (hz : (¬ z = 0)) (q2 : Exa Z h s "java/lang/String") (q3 : Fld Z h s "java/lang/String" "value" "[B" (.ref u)) (q4 : Fld Z h s "java/lang/String" "coder" "B" (.int 0)) (q5 : Arv Z h u ku .byte 0 [] (.int 0)) (q6 : Exa Z h p "java/lang/String") (q7 : Fld Z h p "java/lang/String" "value" "[B" (.ref up)) (q8 : Fld Z h p "java/lang/String" "coder" "B" (.int 0)) (q9 : Arv Z h up kp .byte 2 [.int 61, .int 61] (.int 0)) :
 Ct l Z consts_1 mN33 cN31 8 (some .boolean) ⟨2, 0, 0, 40⟩ #[.ref s, .ref p, .int (-2)] h [] (fun rv' hp' so' => rv' = some (.int 0) ∧ so' = []) := by
  refine Ct.mk "java/lang/String" "startsWith" rfl rfl (a0 := a0) (plainFor_of_name opn2) hO hE (fun x q => nomatch q) ?_
  intro K T W
  rw [oef21]
  refine gIloadN W d24_0 rfl rfl ?_
  refine gIfYes (pc' := 17) W d24_1 ((if0 _ _).trans (tlt (by decide)).1) (by decide) rfl ?_
  refine gIconst (z := 0) W d24_17 rfl rfl ?_
  exact wRetI (so := []) (t := .boolean) W d24_18 (by simp) rfl (by decide) (by decide) (fun _ q => nomatch q) ⟨rfl, rfl⟩
abbrev mN34 : MethodName := (⟨"java/lang/String", "endsWith", "(Ljava/lang/String;)Z"⟩ : MethodName)
abbrev cN32 := jdk_42_method_77_code
theorem d23_0 : Dc cN32 0 (.aload_n 0) 1 := by decide +kernel
theorem d23_1 : Dc cN32 1 (.aload_n 1) 1 := by decide +kernel
theorem d23_2 : Dc cN32 2 (.aload_n 0) 1 := by decide +kernel
theorem d23_3 : Dc cN32 3 (.invokevirtual 505) 3 := by decide +kernel
theorem d23_6 : Dc cN32 6 (.aload_n 1) 1 := by decide +kernel
theorem d23_7 : Dc cN32 7 (.invokevirtual 505) 3 := by decide +kernel
theorem d23_10 : Dc cN32 10 (.isub) 1 := by decide +kernel
theorem d23_11 : Dc cN32 11 (.invokevirtual 624) 3 := by decide +kernel
theorem ow138 (hw : TH a0 Z) : Bf a0 Z (.code mN33 cN31 8 (some .boolean)) := mo 138 rfl hw
theorem opd20 : parseMethodDescriptor "(Ljava/lang/String;I)Z" = some ⟨[.object "java/lang/String", .int], some (.boolean)⟩ := by decide +kernel
theorem ow134 (hw : TH a0 Z) : Bf a0 Z (.methodLink "java/lang/String" 624 mN33) := mo 134 rfl hw
theorem ow135 (hw : TH a0 Z) : Bf a0 Z (.declares mN33) := mo 135 rfl hw
theorem ow137 (hw : TH a0 Z) : Bf a0 Z (.selects "java/lang/String" mN33 mN33) := mo 137 rfl hw
theorem ow136 (hw : TH a0 Z) : Bf a0 Z (.instanceMethod mN33) := mo 136 rfl hw
theorem d23_14 : Dc cN32 14 (.ireturn) 1 := by decide +kernel
theorem ob_ew02 (hw : TH a0 Z) (hE : EW Z a0 consts_1) (s u : Addr) (ku : ClassId) (p up : Addr) (kp : ClassId) (z : Int32) (h : Heap) (hO : Ol Z h) (SC : (PSC Z z)) (hz : (¬ z = 0)) (q2 : Exa Z h s "java/lang/String") (q3 : Fld Z h s "java/lang/String" "value" "[B" (.ref u)) (q4 : Fld Z h s "java/lang/String" "coder" "B" (.int 0)) (q5 : Arv Z h u ku .byte 0 [] (.int 0)) (q6 : Exa Z h p "java/lang/String") (q7 : Fld Z h p "java/lang/String" "value" "[B" (.ref up)) (q8 : Fld Z h p "java/lang/String" "coder" "B" (.int 0)) (q9 : Arv Z h up kp .byte 2 [.int 61, .int 61] (.int 0)) :
 Ct l Z consts_1 mN34 cN32 2 (some .boolean) ⟨3, 0, 0, 70⟩ #[.ref s, .ref p] h [] (fun rv' hp' so' => rv' = some (.int 0) ∧ so' = []) := by
  refine Ct.mk "java/lang/String" "endsWith" rfl rfl (a0 := a0) (plainFor_of_name opn2) hO hE (fun x q => nomatch q) ?_
  intro K T W
  rw [oef8]
  refine gAloadN W d23_0 rfl rfl rfl ?_
  refine gAloadN W d23_1 rfl rfl rfl ?_
  refine gAloadN W d23_2 rfl rfl rfl ?_
  refine wVirtual (y := mN11) (z := mN11) (Wd := 2) (a := s) (argsL := []) (rest := [.ref p, .ref s]) W d23_3 (ow133 hw) (ow123 hw) (ow125 hw) (ow124 hw) (nfS (ow125 hw)) (by decide) (Cb.ct (ob_ln0 hw hE s u ku [] z h W.old SC hz q2 q3 q4 q5) (ow126 hw) (ow15 hw) hE (by decide) (by decide)) q2 (by simp) rfl (lenOf opd19 rfl) rfl (Nat.le_of_eq rfl) (by decide) (by decide) rfl fun _ _ _ J C A _ L => ?_
  obtain ⟨rfl, rfl⟩ := L
  show Go K _ _ _ _ [.int 0, .ref p, .ref s]
  refine gAloadN C d23_6 rfl rfl rfl ?_
  have D := q6.keep A
  have F := q7.keep A nin0
  have G := q8.keep A nin0
  have H := q9.keep A nin0
  refine wVirtual (y := mN11) (z := mN11) (Wd := 3) (a := p) (argsL := []) (rest := [.int 0, .ref p, .ref s]) C d23_7 (ow133 hw) (ow123 hw) (ow125 hw) (ow124 hw) (nfS (ow125 hw)) (by decide) (Cb.ct (ob_ln2 hw hE p up kp [.int 61, .int 61] z J C.old SC hz D F G H) (ow126 hw) (ow15 hw) hE (by decide) (by decide)) D (by simp) rfl (lenOf opd19 rfl) rfl (Nat.le_of_eq rfl) (by decide) (by decide) rfl fun _ _ _ M E B _ N => ?_
  obtain ⟨rfl, rfl⟩ := N
  show Go K _ _ _ _ [.int 2, .int 0, .ref p, .ref s]
  refine gIsub (z := (-2)) E d23_10 (by decide) rfl ?_
  have O := q2.keep A
  have I := O.keep B
  have P := q3.keep A nin0
  have Q := P.keep B nin0
  have R := q4.keep A nin0
  have S := R.keep B nin0
  have U := q5.keep A nin0
  have V := U.keep B nin0
  have X := D.keep B
  have Y := F.keep B nin0
  have Aa := G.keep B nin0
  have Ab := H.keep B nin0
  refine wVirtual (y := mN33) (z := mN33) (Wd := 0) (a := s) (argsL := [.ref p, .int (-2)]) (rest := []) E d23_11 (ow134 hw) (ow135 hw) (ow137 hw) (ow136 hw) (nfS (ow137 hw)) (by decide) (Cb.ct (ob_sw02 hw hE s u ku p up kp z M E.old SC hz I Q S V X Y Aa Ab) (ow138 hw) (ow15 hw) hE (by decide) (by decide)) I (by simp) rfl (lenOf opd20 rfl) rfl (Nat.le_of_eq rfl) (by decide) (by decide) rfl fun _ _ _ _ Ac _ _ Ad => ?_
  obtain ⟨rfl, rfl⟩ := Ad
  show Go K _ _ _ _ [.int 0]
  exact wRetI (so := []) (t := .boolean) Ac d23_14 (by simp) rfl (by decide) (by decide) (fun _ q => nomatch q) ⟨rfl, rfl⟩
theorem ob_sw01 (hw : TH a0 Z) (hE : EW Z a0 consts_1) (s u : Addr) (ku : ClassId) (p up : Addr) (kp : ClassId) (z : Int32) (h : Heap) (hO : Ol Z h) (SC : (PSC Z z)) (hz : (¬ z = 0)) (q2 : Exa Z h s "java/lang/String") (q3 : Fld Z h s "java/lang/String" "value" "[B" (.ref u)) (q4 : Fld Z h s "java/lang/String" "coder" "B" (.int 0)) (q5 : Arv Z h u ku .byte 0 [] (.int 0)) (q6 : Exa Z h p "java/lang/String") (q7 : Fld Z h p "java/lang/String" "value" "[B" (.ref up)) (q8 : Fld Z h p "java/lang/String" "coder" "B" (.int 0)) (q9 : Arv Z h up kp .byte 1 [.int 61] (.int 0)) :
 Ct l Z consts_1 mN33 cN31 8 (some .boolean) ⟨2, 0, 0, 40⟩ #[.ref s, .ref p, .int (-1)] h [] (fun rv' hp' so' => rv' = some (.int 0) ∧ so' = []) := by
  refine Ct.mk "java/lang/String" "startsWith" rfl rfl (a0 := a0) (plainFor_of_name opn2) hO hE (fun x q => nomatch q) ?_
  intro K T W
  rw [oef21]
  refine gIloadN W d24_0 rfl rfl ?_
  refine gIfYes (pc' := 17) W d24_1 ((if0 _ _).trans (tlt (by decide)).1) (by decide) rfl ?_
  refine gIconst (z := 0) W d24_17 rfl rfl ?_
  exact wRetI (so := []) (t := .boolean) W d24_18 (by simp) rfl (by decide) (by decide) (fun _ q => nomatch q) ⟨rfl, rfl⟩
theorem ob_ew01 (hw : TH a0 Z) (hE : EW Z a0 consts_1) (s u : Addr) (ku : ClassId) (p up : Addr) (kp : ClassId) (z : Int32) (h : Heap) (hO : Ol Z h) (SC : (PSC Z z)) (hz : (¬ z = 0)) (q2 : Exa Z h s "java/lang/String") (q3 : Fld Z h s "java/lang/String" "value" "[B" (.ref u)) (q4 : Fld Z h s "java/lang/String" "coder" "B" (.int 0)) (q5 : Arv Z h u ku .byte 0 [] (.int 0)) (q6 : Exa Z h p "java/lang/String") (q7 : Fld Z h p "java/lang/String" "value" "[B" (.ref up)) (q8 : Fld Z h p "java/lang/String" "coder" "B" (.int 0)) (q9 : Arv Z h up kp .byte 1 [.int 61] (.int 0)) :
 Ct l Z consts_1 mN34 cN32 2 (some .boolean) ⟨3, 0, 0, 70⟩ #[.ref s, .ref p] h [] (fun rv' hp' so' => rv' = some (.int 0) ∧ so' = []) := by
  refine Ct.mk "java/lang/String" "endsWith" rfl rfl (a0 := a0) (plainFor_of_name opn2) hO hE (fun x q => nomatch q) ?_
  intro K T W
  rw [oef8]
  refine gAloadN W d23_0 rfl rfl rfl ?_
  refine gAloadN W d23_1 rfl rfl rfl ?_
  refine gAloadN W d23_2 rfl rfl rfl ?_
  refine wVirtual (y := mN11) (z := mN11) (Wd := 2) (a := s) (argsL := []) (rest := [.ref p, .ref s]) W d23_3 (ow133 hw) (ow123 hw) (ow125 hw) (ow124 hw) (nfS (ow125 hw)) (by decide) (Cb.ct (ob_ln0 hw hE s u ku [] z h W.old SC hz q2 q3 q4 q5) (ow126 hw) (ow15 hw) hE (by decide) (by decide)) q2 (by simp) rfl (lenOf opd19 rfl) rfl (Nat.le_of_eq rfl) (by decide) (by decide) rfl fun _ _ _ J C A _ L => ?_
  obtain ⟨rfl, rfl⟩ := L
  show Go K _ _ _ _ [.int 0, .ref p, .ref s]
  refine gAloadN C d23_6 rfl rfl rfl ?_
  have D := q6.keep A
  have F := q7.keep A nin0
  have G := q8.keep A nin0
  have H := q9.keep A nin0
  refine wVirtual (y := mN11) (z := mN11) (Wd := 3) (a := p) (argsL := []) (rest := [.int 0, .ref p, .ref s]) C d23_7 (ow133 hw) (ow123 hw) (ow125 hw) (ow124 hw) (nfS (ow125 hw)) (by decide) (Cb.ct (ob_ln1 hw hE p up kp [.int 61] z J C.old SC hz D F G H) (ow126 hw) (ow15 hw) hE (by decide) (by decide)) D (by simp) rfl (lenOf opd19 rfl) rfl (Nat.le_of_eq rfl) (by decide) (by decide) rfl fun _ _ _ M E B _ N => ?_
  obtain ⟨rfl, rfl⟩ := N
  show Go K _ _ _ _ [.int 1, .int 0, .ref p, .ref s]
  refine gIsub (z := (-1)) E d23_10 (by decide) rfl ?_
  have O := q2.keep A
  have I := O.keep B
  have P := q3.keep A nin0
  have Q := P.keep B nin0
  have R := q4.keep A nin0
  have S := R.keep B nin0
  have U := q5.keep A nin0
  have V := U.keep B nin0
  have X := D.keep B
  have Y := F.keep B nin0
  have Aa := G.keep B nin0
  have Ab := H.keep B nin0
  refine wVirtual (y := mN33) (z := mN33) (Wd := 0) (a := s) (argsL := [.ref p, .int (-1)]) (rest := []) E d23_11 (ow134 hw) (ow135 hw) (ow137 hw) (ow136 hw) (nfS (ow137 hw)) (by decide) (Cb.ct (ob_sw01 hw hE s u ku p up kp z M E.old SC hz I Q S V X Y Aa Ab) (ow138 hw) (ow15 hw) hE (by decide) (by decide)) I (by simp) rfl (lenOf opd20 rfl) rfl (Nat.le_of_eq rfl) (by decide) (by decide) rfl fun _ _ _ _ Ac _ _ Ad => ?_
  obtain ⟨rfl, rfl⟩ := Ad
  show Go K _ _ _ _ [.int 0]
  exact wRetI (so := []) (t := .boolean) Ac d23_14 (by simp) rfl (by decide) (by decide) (fun _ q => nomatch q) ⟨rfl, rfl⟩
abbrev mN35 : MethodName := (⟨"com/example/drafts_under_key/draftsunderkey/crypto/StrictBase64", "isCanonical", "(Ljava/lang/String;)Z"⟩ : MethodName)
abbrev cN33 := prog_19_method_3_code
theorem opn6 : plainName "com/example/drafts_under_key/draftsunderkey/crypto/StrictBase64" = true := by first | (simp [plainName, overriddenIn]; done) | decide +kernel
theorem d21_0 : Dc cN33 0 (.aload_n 0) 1 := by decide +kernel
theorem d21_1 : Dc cN33 1 (.invokevirtual 44) 3 := by decide +kernel
theorem ow122 (hw : TH a0 Z) : Bf a0 Z (.methodLink "com/example/drafts_under_key/draftsunderkey/crypto/StrictBase64" 44 mN11) := mo 122 rfl hw
theorem d21_4 : Dc cN33 4 (.iconst 4) 1 := by decide +kernel
theorem d21_5 : Dc cN33 5 (.irem) 1 := by decide +kernel
theorem d21_6 : Dc cN33 6 (.ifCond .eq 5) 3 := by decide +kernel
theorem d21_11 : Dc cN33 11 (.aload_n 0) 1 := by decide +kernel
theorem d21_12 : Dc cN33 12 (.ldc 50) 2 := by decide +kernel
theorem ow127 (hw : TH a0 Z) : Bf a0 Z (.stringLink "com/example/drafts_under_key/draftsunderkey/crypto/StrictBase64" 50 "==") := mo 127 rfl hw
theorem d21_14 : Dc cN33 14 (.invokevirtual 52) 3 := by decide +kernel
theorem ow132 (hw : TH a0 Z) : Bf a0 Z (.code mN34 cN32 2 (some .boolean)) := mo 132 rfl hw
theorem opd21 : parseMethodDescriptor "(Ljava/lang/String;)Z" = some ⟨[.object "java/lang/String"], some (.boolean)⟩ := by decide +kernel
theorem ow128 (hw : TH a0 Z) : Bf a0 Z (.methodLink "com/example/drafts_under_key/draftsunderkey/crypto/StrictBase64" 52 mN34) := mo 128 rfl hw
theorem ow129 (hw : TH a0 Z) : Bf a0 Z (.declares mN34) := mo 129 rfl hw
theorem ow131 (hw : TH a0 Z) : Bf a0 Z (.selects "java/lang/String" mN34 mN34) := mo 131 rfl hw
theorem ow130 (hw : TH a0 Z) : Bf a0 Z (.instanceMethod mN34) := mo 130 rfl hw
theorem d21_17 : Dc cN33 17 (.ifCond .eq 7) 3 := by decide +kernel
theorem d21_24 : Dc cN33 24 (.aload_n 0) 1 := by decide +kernel
theorem d21_25 : Dc cN33 25 (.ldc 55) 2 := by decide +kernel
theorem ow143 (hw : TH a0 Z) : Bf a0 Z (.stringLink "com/example/drafts_under_key/draftsunderkey/crypto/StrictBase64" 55 "=") := mo 143 rfl hw
theorem d21_27 : Dc cN33 27 (.invokevirtual 52) 3 := by decide +kernel
theorem d21_30 : Dc cN33 30 (.ifCond .eq 7) 3 := by decide +kernel
theorem d21_37 : Dc cN33 37 (.iconst 0) 1 := by decide +kernel
theorem d21_38 : Dc cN33 38 (.istore_n 1) 1 := by decide +kernel
theorem d21_39 : Dc cN33 39 (.iload_n 1) 1 := by decide +kernel
theorem d21_40 : Dc cN33 40 (.ifCond .ne 5) 3 := by decide +kernel
theorem d21_43 : Dc cN33 43 (.iconst 1) 1 := by decide +kernel
theorem d21_44 : Dc cN33 44 (.ireturn) 1 := by decide +kernel
theorem oef22 (m_ : MethodId) (y0_ : Addr) : (entryFrame m_ #[.ref y0_] 4).locals = #[aR y0_, aU, aU, aU] := by first | (simp [entryFrame, argsToLocals, Value.category]; done) | rfl
theorem ob_is0 (hw : TH a0 Z) (hE : EW Z a0 consts_1) (s u : Addr) (ku : ClassId) (z : Int32) (fm : Value) (h : Heap) (hO : Ol Z h) (SC : (PSC Z z)) (hz : (¬ z = 0)) (SF : (PSF Z fm)) (rf : (fm.isRef = true)) (q4 : Exa Z h s "java/lang/String") (q5 : Fld Z h s "java/lang/String" "value" "[B" (.ref u)) (q6 : Fld Z h s "java/lang/String" "coder" "B" (.int 0)) (q7 : Arv Z h u ku .byte 0 [] (.int 0)) :
 Ct l Z consts_1 mN35 cN33 4 (some .boolean) ⟨4, 6, 300, 95⟩ #[.ref s] h [] (fun rv' hp' so' => rv' = some (.int 1) ∧ so' = []) := by
  refine Ct.mk "com/example/drafts_under_key/draftsunderkey/crypto/StrictBase64" "isCanonical" rfl rfl (a0 := a0) (plainFor_of_name opn6) hO hE (fun x q => nomatch q) ?_
  intro K T W
  rw [oef22]
  refine gAloadN W d21_0 rfl rfl rfl ?_
  refine wVirtual (y := mN11) (z := mN11) (Wd := 0) (a := s) (argsL := []) (rest := []) W d21_1 (ow122 hw) (ow123 hw) (ow125 hw) (ow124 hw) (nfS (ow125 hw)) (by decide) (Cb.ct (ob_ln0 hw hE s u ku [] z h W.old SC hz q4 q5 q6 q7) (ow126 hw) (ow15 hw) hE (by decide) (by decide)) q4 (by simp) rfl (lenOf opd19 rfl) rfl (Nat.le_of_eq rfl) (by decide) (by decide) rfl fun _ _ _ _ B C _ Aa => ?_
  obtain ⟨rfl, rfl⟩ := Aa
  show Go K _ _ _ _ [.int 0]
  refine gIconst (z := 4) B d21_4 rfl rfl ?_
  refine gIrem (z := 0) B d21_5 (by decide) (by decide) rfl ?_
  refine gIfYes (pc' := 11) B d21_6 ((if0 _ _).trans (teq (by decide)).1) (by decide) rfl ?_
  refine gAloadN B d21_11 rfl rfl rfl ?_
  refine wLdcS (vs := [.int 61, .int 61]) (z := 2) (n := 8) B d21_12 (ow127 hw) (owS hw) hE (by decide) (by decide) (by decide) (by decide) (by decide) (by decide) (by decide) (by decide) rfl fun _ I J L M N D Ab Ac Ad Ae _ => ?_
  have Af : Arv Z I L M .byte 2 [.int 61, .int 61] (.int 0) := Ae
  have Ag := q4.keep C
  have G := Ag.ext D
  have Ah := q5.keep C nin0
  have O := Ah.ext D
  have Ai := q6.keep C nin0
  have P := Ai.ext D
  have Aj := q7.keep C nin0
  have Q := Aj.ext D
  refine wVirtual (y := mN34) (z := mN34) (Wd := 0) (a := s) (argsL := [.ref J]) (rest := []) N d21_14 (ow128 hw) (ow129 hw) (ow131 hw) (ow130 hw) (nfS (ow131 hw)) (by decide) (Cb.ct (ob_ew02 hw hE s u ku J L M z I N.old SC hz G O P Q Ab Ad Ac Af) (ow132 hw) (ow15 hw) hE (by decide) (by decide)) G (by simp) rfl (lenOf opd21 rfl) rfl (Nat.le_of_eq rfl) (by decide) (by decide) rfl fun _ _ _ _ H E _ Ak => ?_
  obtain ⟨rfl, rfl⟩ := Ak
  show Go K _ _ _ _ [.int 0]
  refine gIfYes (pc' := 24) H d21_17 ((if0 _ _).trans (teq (by decide)).1) (by decide) rfl ?_
  refine gAloadN H d21_24 rfl rfl rfl ?_
  refine wLdcS (vs := [.int 61]) (z := 1) (n := 4) H d21_25 (ow143 hw) (owS hw) hE (by decide) (by decide) (by decide) (by decide) (by decide) (by decide) (by decide) (by decide) rfl fun _ R S U V X F Al Am An Ao _ => ?_
  have Ap : Arv Z R U V .byte 1 [.int 61] (.int 0) := Ao
  have Aq := G.keep E
  have Y := Aq.ext F
  have Ar := O.keep E nin0
  have As := Ar.ext F
  have At := P.keep E nin0
  have Au := At.ext F
  have Av := Q.keep E nin0
  have Aw := Av.ext F
  refine wVirtual (y := mN34) (z := mN34) (Wd := 0) (a := s) (argsL := [.ref S]) (rest := []) X d21_27 (ow128 hw) (ow129 hw) (ow131 hw) (ow130 hw) (nfS (ow131 hw)) (by decide) (Cb.ct (ob_ew01 hw hE s u ku S U V z R X.old SC hz Y As Au Aw Al An Am Ap) (ow132 hw) (ow15 hw) hE (by decide) (by decide)) Y (by simp) rfl (lenOf opd21 rfl) rfl (Nat.le_of_eq rfl) (by decide) (by decide) rfl fun _ _ _ _ A _ _ Ax => ?_
  obtain ⟨rfl, rfl⟩ := Ax
  show Go K _ _ _ _ [.int 0]
  refine gIfYes (pc' := 37) A d21_30 ((if0 _ _).trans (teq (by decide)).1) (by decide) rfl ?_
  refine gIconst (z := 0) A d21_37 rfl rfl ?_
  refine gIstoreN (ls' := #[aR s, aI 0, aU, aU]) A d21_38 rfl rfl ?_
  refine gIloadN A d21_39 rfl rfl ?_
  refine gIfNo A d21_40 ((if0 _ _).trans (teq (by decide)).2) rfl ?_
  refine gIconst (z := 1) A d21_43 rfl rfl ?_
  exact wRetI (so := []) (t := .boolean) A d21_44 (by simp) rfl (by decide) (by decide) (fun _ q => nomatch q) ⟨rfl, rfl⟩
abbrev mN36 : MethodName := (⟨"jdk/internal/util/ArraysSupport", "mismatch", "([BI[BII)I"⟩ : MethodName)
abbrev cN34 := jdk_48_method_14_code
theorem opn7 : plainName "jdk/internal/util/ArraysSupport" = true := by first | (simp [plainName, overriddenIn]; done) | decide +kernel
theorem d25_0 : Dc cN34 0 (.iconst 0) 1 := by decide +kernel
theorem d25_1 : Dc cN34 1 (.istore 5) 2 := by decide +kernel
theorem d25_3 : Dc cN34 3 (.iload 4) 2 := by decide +kernel
theorem d25_5 : Dc cN34 5 (.bipush 7) 2 := by decide +kernel
theorem d25_7 : Dc cN34 7 (.if_icmp .le 63) 3 := by decide +kernel
theorem d25_70 : Dc cN34 70 (.iload 5) 2 := by decide +kernel
theorem d25_72 : Dc cN34 72 (.iload 4) 2 := by decide +kernel
theorem d25_74 : Dc cN34 74 (.if_icmp .ge 27) 3 := by decide +kernel
theorem d25_77 : Dc cN34 77 (.aload_n 0) 1 := by decide +kernel
theorem d25_78 : Dc cN34 78 (.iload_n 1) 1 := by decide +kernel
theorem d25_79 : Dc cN34 79 (.iload 5) 2 := by decide +kernel
theorem d25_81 : Dc cN34 81 (.iadd) 1 := by decide +kernel
theorem d25_82 : Dc cN34 82 (.baload) 1 := by decide +kernel
theorem d25_83 : Dc cN34 83 (.aload_n 2) 1 := by decide +kernel
theorem d25_84 : Dc cN34 84 (.iload_n 3) 1 := by decide +kernel
theorem d25_85 : Dc cN34 85 (.iload 5) 2 := by decide +kernel
theorem d25_87 : Dc cN34 87 (.iadd) 1 := by decide +kernel
theorem d25_88 : Dc cN34 88 (.baload) 1 := by decide +kernel
theorem d25_89 : Dc cN34 89 (.if_icmp .eq 6) 3 := by decide +kernel
theorem d25_95 : Dc cN34 95 (.iinc 5 1) 3 := by decide +kernel
theorem d25_98 : Dc cN34 98 (.goto (-28)) 3 := by decide +kernel
theorem d25_101 : Dc cN34 101 (.iconst (-1)) 1 := by decide +kernel
theorem d25_102 : Dc cN34 102 (.ireturn) 1 := by decide +kernel
theorem oef23 (m_ : MethodId) (y0_ : Addr) (y1_ : Int32) (y2_ : Addr) (y3_ : Int32) (y4_ : Int32) : (entryFrame m_ #[.ref y0_, .int y1_, .ref y2_, .int y3_, .int y4_] 8).locals = #[aR y0_, aI y1_, aR y2_, aI y3_, aI y4_, aU, aU, aU] := by first | (simp [entryFrame, argsToLocals, Value.category]; done) | rfl
theorem ob_mm12 (hw : TH a0 Z) (hE : EW Z a0 consts_1) (u : Addr) (ku : ClassId) (up : Addr) (kp : ClassId) (v : Nat) (h : Heap) (hO : Ol Z h) (q0 : Arv Z h u ku .byte 4 (tx1 v) (.int 0)) (q1 : Arv Z h up kp .byte 2 [.int 61, .int 61] (.int 0)) :
 Ct l Z consts_1 mN36 cN34 8 (some .int) ⟨0, 0, 0, 0⟩ #[.ref u, .int 2, .ref up, .int 0, .int 2] h [] (fun rv' hp' so' => rv' = some (.int (-1)) ∧ so' = []) := by
  refine Ct.mk "jdk/internal/util/ArraysSupport" "mismatch" rfl rfl (a0 := a0) (plainFor_of_name opn7) hO hE (fun x q => nomatch q) ?_
  intro K T W
  rw [oef23]
  refine gIconst (z := 0) W d25_0 rfl rfl ?_
  refine gIstore (ls' := #[aR u, aI 2, aR up, aI 0, aI 2, aI 0, aU, aU]) W d25_1 rfl rfl ?_
  refine gIload W d25_3 rfl rfl ?_
  refine gBipush (z := 7) W d25_5 rfl rfl ?_
  refine gIcmpYes (pc' := 70) W d25_7 (flt (by decide)).2.2.2 (by decide) rfl ?_
  refine gIload W d25_70 rfl rfl ?_
  refine gIload W d25_72 rfl rfl ?_
  refine gIcmpNo W d25_74 (tlt (by decide)).2.1 rfl ?_
  refine gAloadN W d25_77 rfl rfl rfl ?_
  refine gIloadN W d25_78 rfl rfl ?_
  refine gIload W d25_79 rfl rfl ?_
  refine gIadd (z := 2) W d25_81 (by decide) rfl ?_
  refine wLdB (v := (.int 61)) W d25_82 q0 (by decide) rfl rfl ?_
  refine gAloadN W d25_83 rfl rfl rfl ?_
  refine gIloadN W d25_84 rfl rfl ?_
  refine gIload W d25_85 rfl rfl ?_
  refine gIadd (z := 0) W d25_87 (by decide) rfl ?_
  refine wLdB (v := (.int 61)) W d25_88 q1 (by decide) rfl rfl ?_
  refine gIcmpYes (pc' := 95) W d25_89 (teq (by decide)).1 (by decide) rfl ?_
  refine gIinc (z := 1) (ls' := #[aR u, aI 2, aR up, aI 0, aI 2, aI 1, aU, aU]) W d25_95 rfl (by decide) rfl rfl ?_
  refine gGoto (pc' := 70) W d25_98 (by decide) rfl ?_
  refine gIload W d25_70 rfl rfl ?_
  refine gIload W d25_72 rfl rfl ?_
  refine gIcmpNo W d25_74 (tlt (by decide)).2.1 rfl ?_
  refine gAloadN W d25_77 rfl rfl rfl ?_
  refine gIloadN W d25_78 rfl rfl ?_
  refine gIload W d25_79 rfl rfl ?_
  refine gIadd (z := 3) W d25_81 (by decide) rfl ?_
  refine wLdB (v := (.int 61)) W d25_82 q0 (by decide) rfl rfl ?_
  refine gAloadN W d25_83 rfl rfl rfl ?_
  refine gIloadN W d25_84 rfl rfl ?_
  refine gIload W d25_85 rfl rfl ?_
  refine gIadd (z := 1) W d25_87 (by decide) rfl ?_
  refine wLdB (v := (.int 61)) W d25_88 q1 (by decide) rfl rfl ?_
  refine gIcmpYes (pc' := 95) W d25_89 (teq (by decide)).1 (by decide) rfl ?_
  refine gIinc (z := 2) (ls' := #[aR u, aI 2, aR up, aI 0, aI 2, aI 2, aU, aU]) W d25_95 rfl (by decide) rfl rfl ?_
  refine gGoto (pc' := 70) W d25_98 (by decide) rfl ?_
  refine gIload W d25_70 rfl rfl ?_
  refine gIload W d25_72 rfl rfl ?_
  refine gIcmpYes (pc' := 101) W d25_74 (flt (by decide)).2.1 (by decide) rfl ?_
  refine gIconst (z := (-1)) W d25_101 rfl rfl ?_
  exact wRetI (so := []) (t := .int) W d25_102 (by simp) rfl (by decide) (by decide) (fun _ q => nomatch q) ⟨rfl, rfl⟩
theorem d24_4 : Dc cN31 4 (.iload_n 2) 1 := by decide +kernel
theorem d24_5 : Dc cN31 5 (.aload_n 0) 1 := by decide +kernel
theorem d24_6 : Dc cN31 6 (.invokevirtual 505) 3 := by decide +kernel
theorem d24_9 : Dc cN31 9 (.aload_n 1) 1 := by decide +kernel
theorem d24_10 : Dc cN31 10 (.invokevirtual 505) 3 := by decide +kernel
theorem d24_13 : Dc cN31 13 (.isub) 1 := by decide +kernel
theorem d24_14 : Dc cN31 14 (.if_icmp .le 5) 3 := by decide +kernel
theorem d24_19 : Dc cN31 19 (.aload_n 0) 1 := by decide +kernel
theorem d24_20 : Dc cN31 20 (.getfield 9) 3 := by decide +kernel
theorem d24_23 : Dc cN31 23 (.astore_n 3) 1 := by decide +kernel
theorem d24_24 : Dc cN31 24 (.aload_n 1) 1 := by decide +kernel
theorem d24_25 : Dc cN31 25 (.getfield 9) 3 := by decide +kernel
theorem d24_28 : Dc cN31 28 (.astore 4) 2 := by decide +kernel
theorem d24_30 : Dc cN31 30 (.iconst 0) 1 := by decide +kernel
theorem d24_31 : Dc cN31 31 (.istore 5) 2 := by decide +kernel
theorem d24_33 : Dc cN31 33 (.aload 4) 2 := by decide +kernel
theorem d24_35 : Dc cN31 35 (.arraylength) 1 := by decide +kernel
theorem d24_36 : Dc cN31 36 (.istore 6) 2 := by decide +kernel
theorem d24_38 : Dc cN31 38 (.aload_n 0) 1 := by decide +kernel
theorem d24_39 : Dc cN31 39 (.invokevirtual 335) 3 := by decide +kernel
theorem d24_42 : Dc cN31 42 (.istore 7) 2 := by decide +kernel
theorem d24_44 : Dc cN31 44 (.iload 7) 2 := by decide +kernel
theorem d24_46 : Dc cN31 46 (.aload_n 1) 1 := by decide +kernel
theorem d24_47 : Dc cN31 47 (.invokevirtual 335) 3 := by decide +kernel
theorem d24_50 : Dc cN31 50 (.if_icmp .ne 32) 3 := by decide +kernel
theorem d24_53 : Dc cN31 53 (.iload 7) 2 := by decide +kernel
theorem d24_55 : Dc cN31 55 (.iconst 1) 1 := by decide +kernel
theorem d24_56 : Dc cN31 56 (.if_icmp .ne 7) 3 := by decide +kernel
theorem d24_63 : Dc cN31 63 (.aload_n 3) 1 := by decide +kernel
theorem d24_64 : Dc cN31 64 (.iload_n 2) 1 := by decide +kernel
theorem d24_65 : Dc cN31 65 (.aload 4) 2 := by decide +kernel
theorem d24_67 : Dc cN31 67 (.iconst 0) 1 := by decide +kernel
theorem d24_68 : Dc cN31 68 (.iload 6) 2 := by decide +kernel
theorem d24_70 : Dc cN31 70 (.invokestatic 607) 3 := by decide +kernel
theorem ow139 (hw : TH a0 Z) : Bf a0 Z (.methodLink "java/lang/String" 607 mN36) := mo 139 rfl hw
theorem ow141 (hw : TH a0 Z) : Bf a0 Z (.initialized "jdk/internal/util/ArraysSupport") := mo 141 rfl hw
theorem ow142 (hw : TH a0 Z) : Bf a0 Z (.code mN36 cN34 8 (some .int)) := mo 142 rfl hw
theorem opd22 : parseMethodDescriptor "([BI[BII)I" = some ⟨[.array .byte, .int, .array .byte, .int, .int], some (.int)⟩ := by decide +kernel
theorem ow140 (hw : TH a0 Z) : Bf a0 Z (.static mN36) := mo 140 rfl hw
theorem d24_73 : Dc cN31 73 (.ifCond .ge 7) 3 := by decide +kernel
theorem d24_76 : Dc cN31 76 (.iconst 1) 1 := by decide +kernel
theorem d24_77 : Dc cN31 77 (.goto 4) 3 := by decide +kernel
theorem d24_81 : Dc cN31 81 (.ireturn) 1 := by decide +kernel
theorem ob_sw12 (hw : TH a0 Z) (hE : EW Z a0 consts_1) (s u : Addr) (ku : ClassId) (p up : Addr) (kp : ClassId) (z : Int32) (v : Nat) (h : Heap) (hO : Ol Z h) (SC : (PSC Z z)) (hz : (¬ z = 0)) (q2 : Exa Z h s "java/lang/String") (q3 : Fld Z h s "java/lang/String" "value" "[B" (.ref u)) (q4 : Fld Z h s "java/lang/String" "coder" "B" (.int 0)) (q5 : Arv Z h u ku .byte 4 (tx1 v) (.int 0)) (q6 : Exa Z h p "java/lang/String") (q7 : Fld Z h p "java/lang/String" "value" "[B" (.ref up)) (q8 : Fld Z h p "java/lang/String" "coder" "B" (.int 0)) (q9 : Arv Z h up kp .byte 2 [.int 61, .int 61] (.int 0)) :
 Ct l Z consts_1 mN33 cN31 8 (some .boolean) ⟨2, 0, 0, 40⟩ #[.ref s, .ref p, .int 2] h [] (fun rv' hp' so' => rv' = some (.int 1) ∧ so' = []) := by
  refine Ct.mk "java/lang/String" "startsWith" rfl rfl (a0 := a0) (plainFor_of_name opn2) hO hE (fun x q => nomatch q) ?_
  intro K T W
  rw [oef21]
  refine gIloadN W d24_0 rfl rfl ?_
  refine gIfNo W d24_1 ((if0 _ _).trans (flt (by decide)).1) rfl ?_
  refine gIloadN W d24_4 rfl rfl ?_
  refine gAloadN W d24_5 rfl rfl rfl ?_
  refine wVirtual (y := mN11) (z := mN11) (Wd := 1) (a := s) (argsL := []) (rest := [.int 2]) W d24_6 (ow133 hw) (ow123 hw) (ow125 hw) (ow124 hw) (nfS (ow125 hw)) (by decide) (Cb.ct (ob_ln4 hw hE s u ku (tx1 v) z h W.old SC hz q2 q3 q4 q5) (ow126 hw) (ow15 hw) hE (by decide) (by decide)) q2 (by simp) rfl (lenOf opd19 rfl) rfl (Nat.le_of_eq rfl) (by decide) (by decide) rfl fun _ _ _ R I C _ S => ?_
  obtain ⟨rfl, rfl⟩ := S
  show Go K _ _ _ _ [.int 4, .int 2]
  refine gAloadN I d24_9 rfl rfl rfl ?_
  have J := q6.keep C
  have M := q7.keep C nin0
  have N := q8.keep C nin0
  have O := q9.keep C nin0
  refine wVirtual (y := mN11) (z := mN11) (Wd := 2) (a := p) (argsL := []) (rest := [.int 4, .int 2]) I d24_10 (ow133 hw) (ow123 hw) (ow125 hw) (ow124 hw) (nfS (ow125 hw)) (by decide) (Cb.ct (ob_ln2 hw hE p up kp [.int 61, .int 61] z R I.old SC hz J M N O) (ow126 hw) (ow15 hw) hE (by decide) (by decide)) J (by simp) rfl (lenOf opd19 rfl) rfl (Nat.le_of_eq rfl) (by decide) (by decide) rfl fun _ _ _ U F D _ V => ?_
  obtain ⟨rfl, rfl⟩ := V
  show Go K _ _ _ _ [.int 2, .int 4, .int 2]
  refine gIsub (z := 2) F d24_13 (by decide) rfl ?_
  refine gIcmpYes (pc' := 19) F d24_14 (flt (by decide)).2.2.2 (by decide) rfl ?_
  refine gAloadN F d24_19 rfl rfl rfl ?_
  have X := q3.keep C nin0
  have Y := X.keep D nin0
  refine wGetF F d24_20 (ow39 hw) Via.refl Y rfl fun _ L => ?_
  refine gAstoreN (ls' := #[aR s, aR p, aI 2, aR u, aU, aU, aU, aU]) L d24_23 rfl rfl rfl ?_
  refine gAloadN L d24_24 rfl rfl rfl ?_
  have Aa := M.keep D nin0
  refine wGetF L d24_25 (ow39 hw) Via.refl Aa rfl fun _ B => ?_
  refine gAstore (ls' := #[aR s, aR p, aI 2, aR u, aR up, aU, aU, aU]) B d24_28 rfl rfl rfl ?_
  refine gIconst (z := 0) B d24_30 rfl rfl ?_
  refine gIstore (ls' := #[aR s, aR p, aI 2, aR u, aR up, aI 0, aU, aU]) B d24_31 rfl rfl ?_
  refine gAload B d24_33 rfl rfl rfl ?_
  have P := O.keep D nin0
  refine wLen B d24_35 P rfl ?_
  refine gIstore (ls' := #[aR s, aR p, aI 2, aR u, aR up, aI 0, aI 2, aU]) B d24_36 rfl rfl ?_
  refine gAloadN B d24_38 rfl rfl rfl ?_
  have Ab := q4.keep C nin0
  have Ac := Ab.keep D nin0
  have Ad := q2.keep C
  have Ae := Ad.keep D
  refine wVirtual (y := mN10) (z := mN10) (Wd := 0) (a := s) (argsL := []) (rest := []) B d24_39 (ow71 hw) (ow72 hw) (ow74 hw) (ow73 hw) (nfS (ow74 hw)) (by decide) (Cb.ct (ob_co hw hE s z U B.old SC hz Ac) (ow75 hw) (ow15 hw) hE (by decide) (by decide)) Ae (by simp) rfl (lenOf opd5 rfl) rfl (Nat.le_of_eq rfl) (by decide) (by decide) rfl fun _ _ _ Af E G _ Ag => ?_
  obtain ⟨rfl, rfl⟩ := Ag
  show Go K _ _ _ _ [.int 0]
  refine gIstore (ls' := #[aR s, aR p, aI 2, aR u, aR up, aI 0, aI 2, aI 0]) E d24_42 rfl rfl ?_
  refine gIload E d24_44 rfl rfl ?_
  refine gAloadN E d24_46 rfl rfl rfl ?_
  have Ah := N.keep D nin0
  have Ai := Ah.keep G nin0
  have Aj := J.keep D
  have Ak := Aj.keep G
  refine wVirtual (y := mN10) (z := mN10) (Wd := 1) (a := p) (argsL := []) (rest := [.int 0]) E d24_47 (ow71 hw) (ow72 hw) (ow74 hw) (ow73 hw) (nfS (ow74 hw)) (by decide) (Cb.ct (ob_co hw hE p z Af E.old SC hz Ai) (ow75 hw) (ow15 hw) hE (by decide) (by decide)) Ak (by simp) rfl (lenOf opd5 rfl) rfl (Nat.le_of_eq rfl) (by decide) (by decide) rfl fun _ _ _ Al A Q _ Am => ?_
  obtain ⟨rfl, rfl⟩ := Am
  show Go K _ _ _ _ [.int 0, .int 0]
  refine gIcmpNo A d24_50 (teq (by decide)).2 rfl ?_
  refine gIload A d24_53 rfl rfl ?_
  refine gIconst (z := 1) A d24_55 rfl rfl ?_
  refine gIcmpYes (pc' := 63) A d24_56 (feq (by decide)).2 (by decide) rfl ?_
  refine gAloadN A d24_63 rfl rfl rfl ?_
  refine gIloadN A d24_64 rfl rfl ?_
  refine gAload A d24_65 rfl rfl rfl ?_
  refine gIconst (z := 0) A d24_67 rfl rfl ?_
  refine gIload A d24_68 rfl rfl ?_
  have An := q5.keep C nin0
  have Ao := An.keep D nin0
  have Ap := Ao.keep G nin0
  have Aq := Ap.keep Q nin0
  have Ar := P.keep G nin0
  have As := Ar.keep Q nin0
  refine wStatic (y := mN36) (Wd := 0) (argsL := [.ref u, .int 2, .ref up, .int 0, .int 2]) (rest := []) A d24_70 (ow139 hw) (ow140 hw) (ow141 hw) (ow142 hw) (by decide) (Cb.ct (ob_mm12 hw hE u ku up kp v Al A.old Aq As) (ow142 hw) (ow141 hw) hE (by decide) (by decide)) (by simp) rfl (lenOf opd22 rfl) rfl (Nat.le_of_eq rfl) (by decide) (by decide) rfl fun _ _ _ _ H _ _ At => ?_
  obtain ⟨rfl, rfl⟩ := At
  show Go K _ _ _ _ [.int (-1)]
  refine gIfNo H d24_73 ((if0 _ _).trans (tlt (by decide)).2.1) rfl ?_
  refine gIconst (z := 1) H d24_76 rfl rfl ?_
  refine gGoto (pc' := 81) H d24_77 (by decide) rfl ?_
  exact wRetI (so := []) (t := .boolean) H d24_81 (by simp) rfl (by decide) (by decide) (fun _ q => nomatch q) ⟨rfl, rfl⟩
theorem ob_ew12 (hw : TH a0 Z) (hE : EW Z a0 consts_1) (s u : Addr) (ku : ClassId) (p up : Addr) (kp : ClassId) (z : Int32) (v : Nat) (h : Heap) (hO : Ol Z h) (SC : (PSC Z z)) (hz : (¬ z = 0)) (q2 : Exa Z h s "java/lang/String") (q3 : Fld Z h s "java/lang/String" "value" "[B" (.ref u)) (q4 : Fld Z h s "java/lang/String" "coder" "B" (.int 0)) (q5 : Arv Z h u ku .byte 4 (tx1 v) (.int 0)) (q6 : Exa Z h p "java/lang/String") (q7 : Fld Z h p "java/lang/String" "value" "[B" (.ref up)) (q8 : Fld Z h p "java/lang/String" "coder" "B" (.int 0)) (q9 : Arv Z h up kp .byte 2 [.int 61, .int 61] (.int 0)) :
 Ct l Z consts_1 mN34 cN32 2 (some .boolean) ⟨3, 0, 0, 70⟩ #[.ref s, .ref p] h [] (fun rv' hp' so' => rv' = some (.int 1) ∧ so' = []) := by
  refine Ct.mk "java/lang/String" "endsWith" rfl rfl (a0 := a0) (plainFor_of_name opn2) hO hE (fun x q => nomatch q) ?_
  intro K T W
  rw [oef8]
  refine gAloadN W d23_0 rfl rfl rfl ?_
  refine gAloadN W d23_1 rfl rfl rfl ?_
  refine gAloadN W d23_2 rfl rfl rfl ?_
  refine wVirtual (y := mN11) (z := mN11) (Wd := 2) (a := s) (argsL := []) (rest := [.ref p, .ref s]) W d23_3 (ow133 hw) (ow123 hw) (ow125 hw) (ow124 hw) (nfS (ow125 hw)) (by decide) (Cb.ct (ob_ln4 hw hE s u ku (tx1 v) z h W.old SC hz q2 q3 q4 q5) (ow126 hw) (ow15 hw) hE (by decide) (by decide)) q2 (by simp) rfl (lenOf opd19 rfl) rfl (Nat.le_of_eq rfl) (by decide) (by decide) rfl fun _ _ _ J C A _ L => ?_
  obtain ⟨rfl, rfl⟩ := L
  show Go K _ _ _ _ [.int 4, .ref p, .ref s]
  refine gAloadN C d23_6 rfl rfl rfl ?_
  have D := q6.keep A
  have F := q7.keep A nin0
  have G := q8.keep A nin0
  have H := q9.keep A nin0
  refine wVirtual (y := mN11) (z := mN11) (Wd := 3) (a := p) (argsL := []) (rest := [.int 4, .ref p, .ref s]) C d23_7 (ow133 hw) (ow123 hw) (ow125 hw) (ow124 hw) (nfS (ow125 hw)) (by decide) (Cb.ct (ob_ln2 hw hE p up kp [.int 61, .int 61] z J C.old SC hz D F G H) (ow126 hw) (ow15 hw) hE (by decide) (by decide)) D (by simp) rfl (lenOf opd19 rfl) rfl (Nat.le_of_eq rfl) (by decide) (by decide) rfl fun _ _ _ M E B _ N => ?_
  obtain ⟨rfl, rfl⟩ := N
  show Go K _ _ _ _ [.int 2, .int 4, .ref p, .ref s]
  refine gIsub (z := 2) E d23_10 (by decide) rfl ?_
  have O := q2.keep A
  have I := O.keep B
  have P := q3.keep A nin0
  have Q := P.keep B nin0
  have R := q4.keep A nin0
  have S := R.keep B nin0
  have U := q5.keep A nin0
  have V := U.keep B nin0
  have X := D.keep B
  have Y := F.keep B nin0
  have Aa := G.keep B nin0
  have Ab := H.keep B nin0
  refine wVirtual (y := mN33) (z := mN33) (Wd := 0) (a := s) (argsL := [.ref p, .int 2]) (rest := []) E d23_11 (ow134 hw) (ow135 hw) (ow137 hw) (ow136 hw) (nfS (ow137 hw)) (by decide) (Cb.ct (ob_sw12 hw hE s u ku p up kp z v M E.old SC hz I Q S V X Y Aa Ab) (ow138 hw) (ow15 hw) hE (by decide) (by decide)) I (by simp) rfl (lenOf opd20 rfl) rfl (Nat.le_of_eq rfl) (by decide) (by decide) rfl fun _ _ _ _ Ac _ _ Ad => ?_
  obtain ⟨rfl, rfl⟩ := Ad
  show Go K _ _ _ _ [.int 1]
  exact wRetI (so := []) (t := .boolean) Ac d23_14 (by simp) rfl (by decide) (by decide) (fun _ q => nomatch q) ⟨rfl, rfl⟩
abbrev mN37 : MethodName := (⟨"java/lang/StringLatin1", "charAt", "([BI)C"⟩ : MethodName)
abbrev cN35 := jdk_43_method_2_code
theorem d28_0 : Dc cN35 0 (.iload_n 1) 1 := by decide +kernel
theorem d28_1 : Dc cN35 1 (.aload_n 0) 1 := by decide +kernel
theorem d28_2 : Dc cN35 2 (.arraylength) 1 := by decide +kernel
theorem d28_3 : Dc cN35 3 (.invokestatic 9) 3 := by decide +kernel
theorem ow159 (hw : TH a0 Z) : Bf a0 Z (.methodLink "java/lang/StringLatin1" 9 mN24) := mo 159 rfl hw
theorem ow161 (hw : TH a0 Z) : Bf a0 Z (.code mN24 cN22 2 none) := mo 161 rfl hw
theorem opd23 : parseMethodDescriptor "(II)V" = some ⟨[.int, .int], none⟩ := by decide +kernel
theorem ow160 (hw : TH a0 Z) : Bf a0 Z (.static mN24) := mo 160 rfl hw
theorem d28_6 : Dc cN35 6 (.aload_n 0) 1 := by decide +kernel
theorem d28_7 : Dc cN35 7 (.iload_n 1) 1 := by decide +kernel
theorem d28_8 : Dc cN35 8 (.baload) 1 := by decide +kernel
theorem d28_9 : Dc cN35 9 (.sipush 255) 3 := by decide +kernel
theorem d28_12 : Dc cN35 12 (.iand) 1 := by decide +kernel
theorem d28_13 : Dc cN35 13 (.i2c) 1 := by decide +kernel
theorem d28_14 : Dc cN35 14 (.ireturn) 1 := by decide +kernel
theorem ob_lc1 (hw : TH a0 Z) (hE : EW Z a0 consts_1) (u : Addr) (ku : ClassId) (fm : Value) (v : Nat) (h : Heap) (hO : Ol Z h) (SF : (PSF Z fm)) (rf : (fm.isRef = true)) (q2 : Arv Z h u ku .byte 4 (tx1 v) (.int 0)) :
 Ct l Z consts_1 mN37 cN35 2 (some .char) ⟨2, 0, 0, 34⟩ #[.ref u, .int 1] h [] (fun rv' hp' so' => rv' = some (.int (Int32.ofNat (symN (sx1 v)))) ∧ so' = []) := by
  refine Ct.mk "java/lang/StringLatin1" "charAt" rfl rfl (a0 := a0) (plainFor_of_name opn5) hO hE (fun x q => nomatch q) ?_
  intro K T W
  rw [oef6]
  refine gIloadN W d28_0 rfl rfl ?_
  refine gAloadN W d28_1 rfl rfl rfl ?_
  refine wLen W d28_2 q2 rfl ?_
  refine wStatic (y := mN24) (Wd := 0) (argsL := [.int 1, .int 4]) (rest := []) W d28_3 (ow159 hw) (ow160 hw) (ow15 hw) (ow161 hw) (by decide) (Cb.ct (ob_ck hw hE 1 4 fm h W.old (by decide) (by decide) SF rf) (ow161 hw) (ow15 hw) hE (by decide) (by decide)) (by simp) rfl (lenOf opd23 rfl) rfl (Nat.le_of_eq rfl) (by decide) (by decide) rfl fun _ _ _ _ A B _ C => ?_
  obtain ⟨rfl, rfl⟩ := C
  show Go K _ _ _ _ []
  refine gAloadN A d28_6 rfl rfl rfl ?_
  refine gIloadN A d28_7 rfl rfl ?_
  have D := q2.keep B nin0
  refine wLdB (v := (.int (Int32.ofNat (symN (sx1 v))))) A d28_8 D (by decide) rfl rfl ?_
  refine gSipush (z := 255) A d28_9 rfl rfl ?_
  refine gIand (z := (Int32.ofNat (symN (sx1 v)))) A d28_12 (b8_of (symN_le _)).mask rfl ?_
  refine gI2C (z := (Int32.ofNat (symN (sx1 v)))) A d28_13 (b8_of (symN_le _)).i2c' rfl ?_
  exact wRetI (so := []) (t := .char) A d28_14 (by simp) (by show Value.int (nar .char (Int32.ofNat (symN (sx1 v)))) = _; rw [(b8_of (symN_le _)).nar]) (by decide) (by decide) (fun _ q => nomatch q) ⟨rfl, rfl⟩
abbrev mN38 : MethodName := (⟨"java/lang/String", "charAt", "(I)C"⟩ : MethodName)
abbrev cN36 := jdk_42_method_56_code
theorem d26_0 : Dc cN36 0 (.aload_n 0) 1 := by decide +kernel
theorem d26_1 : Dc cN36 1 (.invokevirtual 492) 3 := by decide +kernel
theorem d26_4 : Dc cN36 4 (.ifCond .eq 12) 3 := by decide +kernel
theorem d26_7 : Dc cN36 7 (.aload_n 0) 1 := by decide +kernel
theorem d26_8 : Dc cN36 8 (.getfield 9) 3 := by decide +kernel
theorem d26_11 : Dc cN36 11 (.iload_n 1) 1 := by decide +kernel
theorem d26_12 : Dc cN36 12 (.invokestatic 495) 3 := by decide +kernel
theorem ow155 (hw : TH a0 Z) : Bf a0 Z (.methodLink "java/lang/String" 495 mN37) := mo 155 rfl hw
theorem ow158 (hw : TH a0 Z) : Bf a0 Z (.code mN37 cN35 2 (some .char)) := mo 158 rfl hw
theorem opd24 : parseMethodDescriptor "([BI)C" = some ⟨[.array .byte, .int], some (.char)⟩ := by decide +kernel
theorem ow156 (hw : TH a0 Z) : Bf a0 Z (.static mN37) := mo 156 rfl hw
theorem d26_15 : Dc cN36 15 (.ireturn) 1 := by decide +kernel
theorem ob_ch1 (hw : TH a0 Z) (hE : EW Z a0 consts_1) (s u : Addr) (ku : ClassId) (z : Int32) (fm : Value) (v : Nat) (h : Heap) (hO : Ol Z h) (SC : (PSC Z z)) (hz : (¬ z = 0)) (SF : (PSF Z fm)) (rf : (fm.isRef = true)) (q4 : Exa Z h s "java/lang/String") (q5 : Fld Z h s "java/lang/String" "value" "[B" (.ref u)) (q6 : Fld Z h s "java/lang/String" "coder" "B" (.int 0)) (q7 : Arv Z h u ku .byte 4 (tx1 v) (.int 0)) :
 Ct l Z consts_1 mN38 cN36 2 (some .char) ⟨3, 0, 0, 52⟩ #[.ref s, .int 1] h [] (fun rv' hp' so' => rv' = some (.int (Int32.ofNat (symN (sx1 v)))) ∧ so' = []) := by
  refine Ct.mk "java/lang/String" "charAt" rfl rfl (a0 := a0) (plainFor_of_name opn2) hO hE (fun x q => nomatch q) ?_
  intro K T W
  rw [oef6]
  refine gAloadN W d26_0 rfl rfl rfl ?_
  refine wVirtual (y := mN25) (z := mN25) (Wd := 0) (a := s) (argsL := []) (rest := []) W d26_1 (ow150 hw) (ow151 hw) (ow153 hw) (ow152 hw) (nfS (ow153 hw)) (by decide) (Cb.ct (ob_il hw hE s z h W.old SC hz q6) (ow154 hw) (ow15 hw) hE (by decide) (by decide)) q4 (by simp) rfl (lenOf opd18 rfl) rfl (Nat.le_of_eq rfl) (by decide) (by decide) rfl fun _ _ _ D A C _ E => ?_
  obtain ⟨rfl, rfl⟩ := E
  show Go K _ _ _ _ [.int 1]
  refine gIfNo A d26_4 ((if0 _ _).trans (feq (by decide)).1) rfl ?_
  refine gAloadN A d26_7 rfl rfl rfl ?_
  have F := q5.keep C nin0
  refine wGetF A d26_8 (ow39 hw) Via.refl F rfl fun _ B => ?_
  refine gIloadN B d26_11 rfl rfl ?_
  have G := q7.keep C nin0
  refine wStatic (y := mN37) (Wd := 0) (argsL := [.ref u, .int 1]) (rest := []) B d26_12 (ow155 hw) (ow156 hw) (ow157 hw) (ow158 hw) (by decide) (Cb.ct (ob_lc1 hw hE u ku fm v D B.old SF rf G) (ow158 hw) (ow157 hw) hE (by decide) (by decide)) (by simp) rfl (lenOf opd24 rfl) rfl (Nat.le_of_eq rfl) (by decide) (by decide) rfl fun _ _ _ _ H _ _ I => ?_
  obtain ⟨rfl, rfl⟩ := I
  show Go K _ _ _ _ [.int (Int32.ofNat (symN (sx1 v)))]
  exact wRetI (so := []) (t := .char) H d26_15 (by simp) (by show Value.int (nar .char (Int32.ofNat (symN (sx1 v)))) = _; rw [(b8_of (symN_le _)).nar]) (by decide) (by decide) (fun _ q => nomatch q) ⟨rfl, rfl⟩
theorem d21_20 : Dc cN33 20 (.iconst 2) 1 := by decide +kernel
theorem d21_21 : Dc cN33 21 (.goto 17) 3 := by decide +kernel
theorem d21_45 : Dc cN33 45 (.ldc 57) 2 := by decide +kernel
theorem ow144 (hw : TH a0 Z) : Bf a0 Z (.stringLink "com/example/drafts_under_key/draftsunderkey/crypto/StrictBase64" 57 "ABCDEFGHIJKLMNOPQRSTUVWXYZabcdefghijklmnopqrstuvwxyz0123456789+/") := mo 144 rfl hw
theorem d21_47 : Dc cN33 47 (.aload_n 0) 1 := by decide +kernel
theorem d21_48 : Dc cN33 48 (.aload_n 0) 1 := by decide +kernel
theorem d21_49 : Dc cN33 49 (.invokevirtual 44) 3 := by decide +kernel
theorem d21_52 : Dc cN33 52 (.iconst 1) 1 := by decide +kernel
theorem d21_53 : Dc cN33 53 (.isub) 1 := by decide +kernel
theorem d21_54 : Dc cN33 54 (.iload_n 1) 1 := by decide +kernel
theorem d21_55 : Dc cN33 55 (.isub) 1 := by decide +kernel
theorem d21_56 : Dc cN33 56 (.invokevirtual 59) 3 := by decide +kernel
theorem ow149 (hw : TH a0 Z) : Bf a0 Z (.code mN38 cN36 2 (some .char)) := mo 149 rfl hw
theorem ow145 (hw : TH a0 Z) : Bf a0 Z (.methodLink "com/example/drafts_under_key/draftsunderkey/crypto/StrictBase64" 59 mN38) := mo 145 rfl hw
theorem ow146 (hw : TH a0 Z) : Bf a0 Z (.declares mN38) := mo 146 rfl hw
theorem ow148 (hw : TH a0 Z) : Bf a0 Z (.selects "java/lang/String" mN38 mN38) := mo 148 rfl hw
theorem ow147 (hw : TH a0 Z) : Bf a0 Z (.instanceMethod mN38) := mo 147 rfl hw
theorem d21_59 : Dc cN33 59 (.invokevirtual 63) 3 := by decide +kernel
theorem ow171 (hw : TH a0 Z) : Bf a0 Z (.code mN32 cN30 2 (some .int)) := mo 171 rfl hw
theorem opd25 : parseMethodDescriptor "(I)I" = some ⟨[.int], some (.int)⟩ := by decide +kernel
theorem ow167 (hw : TH a0 Z) : Bf a0 Z (.methodLink "com/example/drafts_under_key/draftsunderkey/crypto/StrictBase64" 63 mN32) := mo 167 rfl hw
theorem ow168 (hw : TH a0 Z) : Bf a0 Z (.declares mN32) := mo 168 rfl hw
theorem ow170 (hw : TH a0 Z) : Bf a0 Z (.selects "java/lang/String" mN32 mN32) := mo 170 rfl hw
theorem ow169 (hw : TH a0 Z) : Bf a0 Z (.instanceMethod mN32) := mo 169 rfl hw
theorem d21_62 : Dc cN33 62 (.istore_n 2) 1 := by decide +kernel
theorem d21_63 : Dc cN33 63 (.iload_n 1) 1 := by decide +kernel
theorem d21_64 : Dc cN33 64 (.iconst 2) 1 := by decide +kernel
theorem d21_65 : Dc cN33 65 (.if_icmp .ne 8) 3 := by decide +kernel
theorem d21_68 : Dc cN33 68 (.bipush 15) 2 := by decide +kernel
theorem d21_70 : Dc cN33 70 (.goto 4) 3 := by decide +kernel
theorem d21_74 : Dc cN33 74 (.istore_n 3) 1 := by decide +kernel
theorem d21_75 : Dc cN33 75 (.iload_n 2) 1 := by decide +kernel
theorem d21_76 : Dc cN33 76 (.iload_n 3) 1 := by decide +kernel
theorem d21_77 : Dc cN33 77 (.iand) 1 := by decide +kernel
theorem d21_78 : Dc cN33 78 (.ifCond .ne 7) 3 := by decide +kernel
theorem d21_81 : Dc cN33 81 (.iconst 1) 1 := by decide +kernel
theorem d21_82 : Dc cN33 82 (.goto 4) 3 := by decide +kernel
theorem d21_86 : Dc cN33 86 (.ireturn) 1 := by decide +kernel
theorem ob_is1 (hw : TH a0 Z) (hE : EW Z a0 consts_1) (s u : Addr) (ku : ClassId) (z : Int32) (fm : Value) (v : Nat) (h : Heap) (hO : Ol Z h) (SC : (PSC Z z)) (hz : (¬ z = 0)) (SF : (PSF Z fm)) (rf : (fm.isRef = true)) (q4 : Exa Z h s "java/lang/String") (q5 : Fld Z h s "java/lang/String" "value" "[B" (.ref u)) (q6 : Fld Z h s "java/lang/String" "coder" "B" (.int 0)) (q7 : Arv Z h u ku .byte 4 (tx1 v) (.int 0)) (hv : (v < 16777216)) (hzv : (v % 65536 = 0)) :
 Ct l Z consts_1 mN35 cN33 4 (some .boolean) ⟨4, 6, 300, 95⟩ #[.ref s] h [] (fun rv' hp' so' => rv' = some (.int 1) ∧ so' = []) := by
  refine Ct.mk "com/example/drafts_under_key/draftsunderkey/crypto/StrictBase64" "isCanonical" rfl rfl (a0 := a0) (plainFor_of_name opn6) hO hE (fun x q => nomatch q) ?_
  intro K T W
  rw [oef22]
  refine gAloadN W d21_0 rfl rfl rfl ?_
  refine wVirtual (y := mN11) (z := mN11) (Wd := 0) (a := s) (argsL := []) (rest := []) W d21_1 (ow122 hw) (ow123 hw) (ow125 hw) (ow124 hw) (nfS (ow125 hw)) (by decide) (Cb.ct (ob_ln4 hw hE s u ku (tx1 v) z h W.old SC hz q4 q5 q6 q7) (ow126 hw) (ow15 hw) hE (by decide) (by decide)) q4 (by simp) rfl (lenOf opd19 rfl) rfl (Nat.le_of_eq rfl) (by decide) (by decide) rfl fun _ _ _ _ F G _ Aj => ?_
  obtain ⟨rfl, rfl⟩ := Aj
  show Go K _ _ _ _ [.int 4]
  refine gIconst (z := 4) F d21_4 rfl rfl ?_
  refine gIrem (z := 0) F d21_5 (by decide) (by decide) rfl ?_
  refine gIfYes (pc' := 11) F d21_6 ((if0 _ _).trans (teq (by decide)).1) (by decide) rfl ?_
  refine gAloadN F d21_11 rfl rfl rfl ?_
  refine wLdcS (vs := [.int 61, .int 61]) (z := 2) (n := 8) F d21_12 (ow127 hw) (owS hw) hE (by decide) (by decide) (by decide) (by decide) (by decide) (by decide) (by decide) (by decide) rfl fun _ P Q R S U H Ak Al Am An _ => ?_
  have Ao : Arv Z P R S .byte 2 [.int 61, .int 61] (.int 0) := An
  have Ap := q4.keep G
  have N := Ap.ext H
  have Aq := q5.keep G nin0
  have V := Aq.ext H
  have Ar := q6.keep G nin0
  have X := Ar.ext H
  have As := q7.keep G nin0
  have Y := As.ext H
  refine wVirtual (y := mN34) (z := mN34) (Wd := 0) (a := s) (argsL := [.ref Q]) (rest := []) U d21_14 (ow128 hw) (ow129 hw) (ow131 hw) (ow130 hw) (nfS (ow131 hw)) (by decide) (Cb.ct (ob_ew12 hw hE s u ku Q R S z v P U.old SC hz N V X Y Ak Am Al Ao) (ow132 hw) (ow15 hw) hE (by decide) (by decide)) N (by simp) rfl (lenOf opd21 rfl) rfl (Nat.le_of_eq rfl) (by decide) (by decide) rfl fun _ _ _ _ C I _ At => ?_
  obtain ⟨rfl, rfl⟩ := At
  show Go K _ _ _ _ [.int 1]
  refine gIfNo C d21_17 ((if0 _ _).trans (feq (by decide)).1) rfl ?_
  refine gIconst (z := 2) C d21_20 rfl rfl ?_
  refine gGoto (pc' := 38) C d21_21 (by decide) rfl ?_
  refine gIstoreN (ls' := #[aR s, aI 2, aU, aU]) C d21_38 rfl rfl ?_
  refine gIloadN C d21_39 rfl rfl ?_
  refine gIfYes (pc' := 45) C d21_40 ((if0 _ _).trans (feq (by decide)).2) (by decide) rfl ?_
  refine wLdcS (vs := [.int 65, .int 66, .int 67, .int 68, .int 69, .int 70, .int 71, .int 72, .int 73, .int 74, .int 75, .int 76, .int 77, .int 78, .int 79, .int 80, .int 81, .int 82, .int 83, .int 84, .int 85, .int 86, .int 87, .int 88, .int 89, .int 90, .int 97, .int 98, .int 99, .int 100, .int 101, .int 102, .int 103, .int 104, .int 105, .int 106, .int 107, .int 108, .int 109, .int 110, .int 111, .int 112, .int 113, .int 114, .int 115, .int 116, .int 117, .int 118, .int 119, .int 120, .int 121, .int 122, .int 48, .int 49, .int 50, .int 51, .int 52, .int 53, .int 54, .int 55, .int 56, .int 57, .int 43, .int 47]) (z := 64) (n := 256) C d21_45 (ow144 hw) (owS hw) hE (by decide) (by decide) (by decide) (by decide) (by decide) (by decide) (by decide) (by decide) rfl fun _ Aa D Ab Ac J L Au Av Aw Ax _ => ?_
  have Ay : Arv Z Aa Ab Ac .byte 64 alph (.int 0) := Ax
  refine gAloadN J d21_47 rfl rfl rfl ?_
  refine gAloadN J d21_48 rfl rfl rfl ?_
  have Az := N.keep I
  have O := Az.ext L
  have A0 := V.keep I nin0
  have Ad := A0.ext L
  have A1 := X.keep I nin0
  have Ae := A1.ext L
  have A2 := Y.keep I nin0
  have Af := A2.ext L
  refine wVirtual (y := mN11) (z := mN11) (Wd := 2) (a := s) (argsL := []) (rest := [.ref s, .ref D]) J d21_49 (ow122 hw) (ow123 hw) (ow125 hw) (ow124 hw) (nfS (ow125 hw)) (by decide) (Cb.ct (ob_ln4 hw hE s u ku (tx1 v) z Aa J.old SC hz O Ad Ae Af) (ow126 hw) (ow15 hw) hE (by decide) (by decide)) O (by simp) rfl (lenOf opd19 rfl) rfl (Nat.le_of_eq rfl) (by decide) (by decide) rfl fun _ _ _ A3 E B _ A4 => ?_
  obtain ⟨rfl, rfl⟩ := A4
  show Go K _ _ _ _ [.int 4, .ref s, .ref D]
  refine gIconst (z := 1) E d21_52 rfl rfl ?_
  refine gIsub (z := 3) E d21_53 (by decide) rfl ?_
  refine gIloadN E d21_54 rfl rfl ?_
  refine gIsub (z := 1) E d21_55 (by decide) rfl ?_
  have Ag := O.keep B
  have A5 := Ad.keep B nin0
  have A6 := Ae.keep B nin0
  have A7 := Af.keep B nin0
  refine wVirtual (y := mN38) (z := mN38) (Wd := 1) (a := s) (argsL := [.int 1]) (rest := [.ref D]) E d21_56 (ow145 hw) (ow146 hw) (ow148 hw) (ow147 hw) (nfS (ow148 hw)) (by decide) (Cb.ct (ob_ch1 hw hE s u ku z fm v A3 E.old SC hz SF rf Ag A5 A6 A7) (ow149 hw) (ow15 hw) hE (by decide) (by decide)) Ag (by simp) rfl (lenOf opd0 rfl) rfl (Nat.le_of_eq rfl) (by decide) (by decide) rfl fun _ _ _ A8 Ah M _ A9 => ?_
  obtain ⟨rfl, rfl⟩ := A9
  show Go K _ _ _ _ [.int (Int32.ofNat (symN (sx1 v))), .ref D]
  have Ba := Au.keep B
  have Ai := Ba.keep M
  have Bb := Aw.keep B nin0
  have Bc := Bb.keep M nin0
  have Bd := Av.keep B nin0
  have Be := Bd.keep M nin0
  have Bf := Ay.keep B nin0
  have Bg := Bf.keep M nin0
  refine wVirtual (y := mN32) (z := mN32) (Wd := 0) (a := D) (argsL := [.int (Int32.ofNat (symN (sx1 v)))]) (rest := []) Ah d21_59 (ow167 hw) (ow168 hw) (ow170 hw) (ow169 hw) (nfS (ow170 hw)) (by decide) (Cb.ct (ob_ix hw hE D Ab Ac z (sx1 v) A8 Ah.old SC hz Ai Bc Be Bg (sx1_lt _)) (ow171 hw) (ow15 hw) hE (by decide) (by decide)) Ai (by simp) rfl (lenOf opd25 rfl) rfl (Nat.le_of_eq rfl) (by decide) (by decide) rfl fun _ _ _ _ A _ _ Bh => ?_
  obtain ⟨rfl, rfl⟩ := Bh
  show Go K _ _ _ _ [.int (Int32.ofNat (sx1 v))]
  refine gIstoreN (ls' := #[aR s, aI 2, aI (Int32.ofNat (sx1 v)), aU]) A d21_62 rfl rfl ?_
  refine gIloadN A d21_63 rfl rfl ?_
  refine gIconst (z := 2) A d21_64 rfl rfl ?_
  refine gIcmpNo A d21_65 (teq (by decide)).2 rfl ?_
  refine gBipush (z := 15) A d21_68 rfl rfl ?_
  refine gGoto (pc' := 74) A d21_70 (by decide) rfl ?_
  refine gIstoreN (ls' := #[aR s, aI 2, aI (Int32.ofNat (sx1 v)), aI 15]) A d21_74 rfl rfl ?_
  refine gIloadN A d21_75 rfl rfl ?_
  refine gIloadN A d21_76 rfl rfl ?_
  refine gIand (z := 0) A d21_77 (canon2 hzv) rfl ?_
  refine gIfNo A d21_78 ((if0 _ _).trans (teq (by decide)).2) rfl ?_
  refine gIconst (z := 1) A d21_81 rfl rfl ?_
  refine gGoto (pc' := 86) A d21_82 (by decide) rfl ?_
  exact wRetI (so := []) (t := .boolean) A d21_86 (by simp) rfl (by decide) (by decide) (fun _ q => nomatch q) ⟨rfl, rfl⟩
theorem d25_92 : Dc cN34 92 (.iload 5) 2 := by decide +kernel
theorem d25_94 : Dc cN34 94 (.ireturn) 1 := by decide +kernel
theorem ob_mm22 (hw : TH a0 Z) (hE : EW Z a0 consts_1) (u : Addr) (ku : ClassId) (up : Addr) (kp : ClassId) (v : Nat) (h : Heap) (hO : Ol Z h) (q0 : Arv Z h u ku .byte 4 (tx2 v) (.int 0)) (q1 : Arv Z h up kp .byte 2 [.int 61, .int 61] (.int 0)) :
 Ct l Z consts_1 mN36 cN34 8 (some .int) ⟨0, 0, 0, 0⟩ #[.ref u, .int 2, .ref up, .int 0, .int 2] h [] (fun rv' hp' so' => rv' = some (.int 0) ∧ so' = []) := by
  refine Ct.mk "jdk/internal/util/ArraysSupport" "mismatch" rfl rfl (a0 := a0) (plainFor_of_name opn7) hO hE (fun x q => nomatch q) ?_
  intro K T W
  rw [oef23]
  refine gIconst (z := 0) W d25_0 rfl rfl ?_
  refine gIstore (ls' := #[aR u, aI 2, aR up, aI 0, aI 2, aI 0, aU, aU]) W d25_1 rfl rfl ?_
  refine gIload W d25_3 rfl rfl ?_
  refine gBipush (z := 7) W d25_5 rfl rfl ?_
  refine gIcmpYes (pc' := 70) W d25_7 (flt (by decide)).2.2.2 (by decide) rfl ?_
  refine gIload W d25_70 rfl rfl ?_
  refine gIload W d25_72 rfl rfl ?_
  refine gIcmpNo W d25_74 (tlt (by decide)).2.1 rfl ?_
  refine gAloadN W d25_77 rfl rfl rfl ?_
  refine gIloadN W d25_78 rfl rfl ?_
  refine gIload W d25_79 rfl rfl ?_
  refine gIadd (z := 2) W d25_81 (by decide) rfl ?_
  refine wLdB (v := (.int (Int32.ofNat (symN (sx2 v))))) W d25_82 q0 (by decide) rfl rfl ?_
  refine gAloadN W d25_83 rfl rfl rfl ?_
  refine gIloadN W d25_84 rfl rfl ?_
  refine gIload W d25_85 rfl rfl ?_
  refine gIadd (z := 0) W d25_87 (by decide) rfl ?_
  refine wLdB (v := (.int 61)) W d25_88 q1 (by decide) rfl rfl ?_
  refine gIcmpNo W d25_89 (feq (fun q => symN_61 (ofNat_inj (b := 61) (Nat.lt_of_le_of_lt (symN_le _) (by decide)) (by decide) q))).1 rfl ?_
  refine gIload W d25_92 rfl rfl ?_
  exact wRetI (so := []) (t := .int) W d25_94 (by simp) rfl (by decide) (by decide) (fun _ q => nomatch q) ⟨rfl, rfl⟩
theorem d24_80 : Dc cN31 80 (.iconst 0) 1 := by decide +kernel
theorem ob_sw22 (hw : TH a0 Z) (hE : EW Z a0 consts_1) (s u : Addr) (ku : ClassId) (p up : Addr) (kp : ClassId) (z : Int32) (v : Nat) (h : Heap) (hO : Ol Z h) (SC : (PSC Z z)) (hz : (¬ z = 0)) (q2 : Exa Z h s "java/lang/String") (q3 : Fld Z h s "java/lang/String" "value" "[B" (.ref u)) (q4 : Fld Z h s "java/lang/String" "coder" "B" (.int 0)) (q5 : Arv Z h u ku .byte 4 (tx2 v) (.int 0)) (q6 : Exa Z h p "java/lang/String") (q7 : Fld Z h p "java/lang/String" "value" "[B" (.ref up)) (q8 : Fld Z h p "java/lang/String" "coder" "B" (.int 0)) (q9 : Arv Z h up kp .byte 2 [.int 61, .int 61] (.int 0)) :
 Ct l Z consts_1 mN33 cN31 8 (some .boolean) ⟨2, 0, 0, 40⟩ #[.ref s, .ref p, .int 2] h [] (fun rv' hp' so' => rv' = some (.int 0) ∧ so' = []) := by
  refine Ct.mk "java/lang/String" "startsWith" rfl rfl (a0 := a0) (plainFor_of_name opn2) hO hE (fun x q => nomatch q) ?_
  intro K T W
  rw [oef21]
  refine gIloadN W d24_0 rfl rfl ?_
  refine gIfNo W d24_1 ((if0 _ _).trans (flt (by decide)).1) rfl ?_
  refine gIloadN W d24_4 rfl rfl ?_
  refine gAloadN W d24_5 rfl rfl rfl ?_
  refine wVirtual (y := mN11) (z := mN11) (Wd := 1) (a := s) (argsL := []) (rest := [.int 2]) W d24_6 (ow133 hw) (ow123 hw) (ow125 hw) (ow124 hw) (nfS (ow125 hw)) (by decide) (Cb.ct (ob_ln4 hw hE s u ku (tx2 v) z h W.old SC hz q2 q3 q4 q5) (ow126 hw) (ow15 hw) hE (by decide) (by decide)) q2 (by simp) rfl (lenOf opd19 rfl) rfl (Nat.le_of_eq rfl) (by decide) (by decide) rfl fun _ _ _ R H C _ S => ?_
  obtain ⟨rfl, rfl⟩ := S
  show Go K _ _ _ _ [.int 4, .int 2]
  refine gAloadN H d24_9 rfl rfl rfl ?_
  have I := q6.keep C
  have M := q7.keep C nin0
  have N := q8.keep C nin0
  have O := q9.keep C nin0
  refine wVirtual (y := mN11) (z := mN11) (Wd := 2) (a := p) (argsL := []) (rest := [.int 4, .int 2]) H d24_10 (ow133 hw) (ow123 hw) (ow125 hw) (ow124 hw) (nfS (ow125 hw)) (by decide) (Cb.ct (ob_ln2 hw hE p up kp [.int 61, .int 61] z R H.old SC hz I M N O) (ow126 hw) (ow15 hw) hE (by decide) (by decide)) I (by simp) rfl (lenOf opd19 rfl) rfl (Nat.le_of_eq rfl) (by decide) (by decide) rfl fun _ _ _ U F D _ V => ?_
  obtain ⟨rfl, rfl⟩ := V
  show Go K _ _ _ _ [.int 2, .int 4, .int 2]
  refine gIsub (z := 2) F d24_13 (by decide) rfl ?_
  refine gIcmpYes (pc' := 19) F d24_14 (flt (by decide)).2.2.2 (by decide) rfl ?_
  refine gAloadN F d24_19 rfl rfl rfl ?_
  have X := q3.keep C nin0
  have Y := X.keep D nin0
  refine wGetF F d24_20 (ow39 hw) Via.refl Y rfl fun _ J => ?_
  refine gAstoreN (ls' := #[aR s, aR p, aI 2, aR u, aU, aU, aU, aU]) J d24_23 rfl rfl rfl ?_
  refine gAloadN J d24_24 rfl rfl rfl ?_
  have Aa := M.keep D nin0
  refine wGetF J d24_25 (ow39 hw) Via.refl Aa rfl fun _ B => ?_
  refine gAstore (ls' := #[aR s, aR p, aI 2, aR u, aR up, aU, aU, aU]) B d24_28 rfl rfl rfl ?_
  refine gIconst (z := 0) B d24_30 rfl rfl ?_
  refine gIstore (ls' := #[aR s, aR p, aI 2, aR u, aR up, aI 0, aU, aU]) B d24_31 rfl rfl ?_
  refine gAload B d24_33 rfl rfl rfl ?_
  have P := O.keep D nin0
  refine wLen B d24_35 P rfl ?_
  refine gIstore (ls' := #[aR s, aR p, aI 2, aR u, aR up, aI 0, aI 2, aU]) B d24_36 rfl rfl ?_
  refine gAloadN B d24_38 rfl rfl rfl ?_
  have Ab := q4.keep C nin0
  have Ac := Ab.keep D nin0
  have Ad := q2.keep C
  have Ae := Ad.keep D
  refine wVirtual (y := mN10) (z := mN10) (Wd := 0) (a := s) (argsL := []) (rest := []) B d24_39 (ow71 hw) (ow72 hw) (ow74 hw) (ow73 hw) (nfS (ow74 hw)) (by decide) (Cb.ct (ob_co hw hE s z U B.old SC hz Ac) (ow75 hw) (ow15 hw) hE (by decide) (by decide)) Ae (by simp) rfl (lenOf opd5 rfl) rfl (Nat.le_of_eq rfl) (by decide) (by decide) rfl fun _ _ _ Af E G _ Ag => ?_
  obtain ⟨rfl, rfl⟩ := Ag
  show Go K _ _ _ _ [.int 0]
  refine gIstore (ls' := #[aR s, aR p, aI 2, aR u, aR up, aI 0, aI 2, aI 0]) E d24_42 rfl rfl ?_
  refine gIload E d24_44 rfl rfl ?_
  refine gAloadN E d24_46 rfl rfl rfl ?_
  have Ah := N.keep D nin0
  have Ai := Ah.keep G nin0
  have Aj := I.keep D
  have Ak := Aj.keep G
  refine wVirtual (y := mN10) (z := mN10) (Wd := 1) (a := p) (argsL := []) (rest := [.int 0]) E d24_47 (ow71 hw) (ow72 hw) (ow74 hw) (ow73 hw) (nfS (ow74 hw)) (by decide) (Cb.ct (ob_co hw hE p z Af E.old SC hz Ai) (ow75 hw) (ow15 hw) hE (by decide) (by decide)) Ak (by simp) rfl (lenOf opd5 rfl) rfl (Nat.le_of_eq rfl) (by decide) (by decide) rfl fun _ _ _ Al A Q _ Am => ?_
  obtain ⟨rfl, rfl⟩ := Am
  show Go K _ _ _ _ [.int 0, .int 0]
  refine gIcmpNo A d24_50 (teq (by decide)).2 rfl ?_
  refine gIload A d24_53 rfl rfl ?_
  refine gIconst (z := 1) A d24_55 rfl rfl ?_
  refine gIcmpYes (pc' := 63) A d24_56 (feq (by decide)).2 (by decide) rfl ?_
  refine gAloadN A d24_63 rfl rfl rfl ?_
  refine gIloadN A d24_64 rfl rfl ?_
  refine gAload A d24_65 rfl rfl rfl ?_
  refine gIconst (z := 0) A d24_67 rfl rfl ?_
  refine gIload A d24_68 rfl rfl ?_
  have An := q5.keep C nin0
  have Ao := An.keep D nin0
  have Ap := Ao.keep G nin0
  have Aq := Ap.keep Q nin0
  have Ar := P.keep G nin0
  have As := Ar.keep Q nin0
  refine wStatic (y := mN36) (Wd := 0) (argsL := [.ref u, .int 2, .ref up, .int 0, .int 2]) (rest := []) A d24_70 (ow139 hw) (ow140 hw) (ow141 hw) (ow142 hw) (by decide) (Cb.ct (ob_mm22 hw hE u ku up kp v Al A.old Aq As) (ow142 hw) (ow141 hw) hE (by decide) (by decide)) (by simp) rfl (lenOf opd22 rfl) rfl (Nat.le_of_eq rfl) (by decide) (by decide) rfl fun _ _ _ _ L _ _ At => ?_
  obtain ⟨rfl, rfl⟩ := At
  show Go K _ _ _ _ [.int 0]
  refine gIfYes (pc' := 80) L d24_73 ((if0 _ _).trans (flt (by decide)).2.1) (by decide) rfl ?_
  refine gIconst (z := 0) L d24_80 rfl rfl ?_
  exact wRetI (so := []) (t := .boolean) L d24_81 (by simp) rfl (by decide) (by decide) (fun _ q => nomatch q) ⟨rfl, rfl⟩
theorem ob_ew22 (hw : TH a0 Z) (hE : EW Z a0 consts_1) (s u : Addr) (ku : ClassId) (p up : Addr) (kp : ClassId) (z : Int32) (v : Nat) (h : Heap) (hO : Ol Z h) (SC : (PSC Z z)) (hz : (¬ z = 0)) (q2 : Exa Z h s "java/lang/String") (q3 : Fld Z h s "java/lang/String" "value" "[B" (.ref u)) (q4 : Fld Z h s "java/lang/String" "coder" "B" (.int 0)) (q5 : Arv Z h u ku .byte 4 (tx2 v) (.int 0)) (q6 : Exa Z h p "java/lang/String") (q7 : Fld Z h p "java/lang/String" "value" "[B" (.ref up)) (q8 : Fld Z h p "java/lang/String" "coder" "B" (.int 0)) (q9 : Arv Z h up kp .byte 2 [.int 61, .int 61] (.int 0)) :
 Ct l Z consts_1 mN34 cN32 2 (some .boolean) ⟨3, 0, 0, 70⟩ #[.ref s, .ref p] h [] (fun rv' hp' so' => rv' = some (.int 0) ∧ so' = []) := by
  refine Ct.mk "java/lang/String" "endsWith" rfl rfl (a0 := a0) (plainFor_of_name opn2) hO hE (fun x q => nomatch q) ?_
  intro K T W
  rw [oef8]
  refine gAloadN W d23_0 rfl rfl rfl ?_
  refine gAloadN W d23_1 rfl rfl rfl ?_
  refine gAloadN W d23_2 rfl rfl rfl ?_
  refine wVirtual (y := mN11) (z := mN11) (Wd := 2) (a := s) (argsL := []) (rest := [.ref p, .ref s]) W d23_3 (ow133 hw) (ow123 hw) (ow125 hw) (ow124 hw) (nfS (ow125 hw)) (by decide) (Cb.ct (ob_ln4 hw hE s u ku (tx2 v) z h W.old SC hz q2 q3 q4 q5) (ow126 hw) (ow15 hw) hE (by decide) (by decide)) q2 (by simp) rfl (lenOf opd19 rfl) rfl (Nat.le_of_eq rfl) (by decide) (by decide) rfl fun _ _ _ J C A _ L => ?_
  obtain ⟨rfl, rfl⟩ := L
  show Go K _ _ _ _ [.int 4, .ref p, .ref s]
  refine gAloadN C d23_6 rfl rfl rfl ?_
  have D := q6.keep A
  have F := q7.keep A nin0
  have G := q8.keep A nin0
  have H := q9.keep A nin0
  refine wVirtual (y := mN11) (z := mN11) (Wd := 3) (a := p) (argsL := []) (rest := [.int 4, .ref p, .ref s]) C d23_7 (ow133 hw) (ow123 hw) (ow125 hw) (ow124 hw) (nfS (ow125 hw)) (by decide) (Cb.ct (ob_ln2 hw hE p up kp [.int 61, .int 61] z J C.old SC hz D F G H) (ow126 hw) (ow15 hw) hE (by decide) (by decide)) D (by simp) rfl (lenOf opd19 rfl) rfl (Nat.le_of_eq rfl) (by decide) (by decide) rfl fun _ _ _ M E B _ N => ?_
  obtain ⟨rfl, rfl⟩ := N
  show Go K _ _ _ _ [.int 2, .int 4, .ref p, .ref s]
  refine gIsub (z := 2) E d23_10 (by decide) rfl ?_
  have O := q2.keep A
  have I := O.keep B
  have P := q3.keep A nin0
  have Q := P.keep B nin0
  have R := q4.keep A nin0
  have S := R.keep B nin0
  have U := q5.keep A nin0
  have V := U.keep B nin0
  have X := D.keep B
  have Y := F.keep B nin0
  have Aa := G.keep B nin0
  have Ab := H.keep B nin0
  refine wVirtual (y := mN33) (z := mN33) (Wd := 0) (a := s) (argsL := [.ref p, .int 2]) (rest := []) E d23_11 (ow134 hw) (ow135 hw) (ow137 hw) (ow136 hw) (nfS (ow137 hw)) (by decide) (Cb.ct (ob_sw22 hw hE s u ku p up kp z v M E.old SC hz I Q S V X Y Aa Ab) (ow138 hw) (ow15 hw) hE (by decide) (by decide)) I (by simp) rfl (lenOf opd20 rfl) rfl (Nat.le_of_eq rfl) (by decide) (by decide) rfl fun _ _ _ _ Ac _ _ Ad => ?_
  obtain ⟨rfl, rfl⟩ := Ad
  show Go K _ _ _ _ [.int 0]
  exact wRetI (so := []) (t := .boolean) Ac d23_14 (by simp) rfl (by decide) (by decide) (fun _ q => nomatch q) ⟨rfl, rfl⟩
theorem ob_mm21 (hw : TH a0 Z) (hE : EW Z a0 consts_1) (u : Addr) (ku : ClassId) (up : Addr) (kp : ClassId) (v : Nat) (h : Heap) (hO : Ol Z h) (q0 : Arv Z h u ku .byte 4 (tx2 v) (.int 0)) (q1 : Arv Z h up kp .byte 1 [.int 61] (.int 0)) :
 Ct l Z consts_1 mN36 cN34 8 (some .int) ⟨0, 0, 0, 0⟩ #[.ref u, .int 3, .ref up, .int 0, .int 1] h [] (fun rv' hp' so' => rv' = some (.int (-1)) ∧ so' = []) := by
  refine Ct.mk "jdk/internal/util/ArraysSupport" "mismatch" rfl rfl (a0 := a0) (plainFor_of_name opn7) hO hE (fun x q => nomatch q) ?_
  intro K T W
  rw [oef23]
  refine gIconst (z := 0) W d25_0 rfl rfl ?_
  refine gIstore (ls' := #[aR u, aI 3, aR up, aI 0, aI 1, aI 0, aU, aU]) W d25_1 rfl rfl ?_
  refine gIload W d25_3 rfl rfl ?_
  refine gBipush (z := 7) W d25_5 rfl rfl ?_
  refine gIcmpYes (pc' := 70) W d25_7 (flt (by decide)).2.2.2 (by decide) rfl ?_
  refine gIload W d25_70 rfl rfl ?_
  refine gIload W d25_72 rfl rfl ?_
  refine gIcmpNo W d25_74 (tlt (by decide)).2.1 rfl ?_
  refine gAloadN W d25_77 rfl rfl rfl ?_
  refine gIloadN W d25_78 rfl rfl ?_
  refine gIload W d25_79 rfl rfl ?_
  refine gIadd (z := 3) W d25_81 (by decide) rfl ?_
  refine wLdB (v := (.int 61)) W d25_82 q0 (by decide) rfl rfl ?_
  refine gAloadN W d25_83 rfl rfl rfl ?_
  refine gIloadN W d25_84 rfl rfl ?_
  refine gIload W d25_85 rfl rfl ?_
  refine gIadd (z := 0) W d25_87 (by decide) rfl ?_
  refine wLdB (v := (.int 61)) W d25_88 q1 (by decide) rfl rfl ?_
  refine gIcmpYes (pc' := 95) W d25_89 (teq (by decide)).1 (by decide) rfl ?_
  refine gIinc (z := 1) (ls' := #[aR u, aI 3, aR up, aI 0, aI 1, aI 1, aU, aU]) W d25_95 rfl (by decide) rfl rfl ?_
  refine gGoto (pc' := 70) W d25_98 (by decide) rfl ?_
  refine gIload W d25_70 rfl rfl ?_
  refine gIload W d25_72 rfl rfl ?_
  refine gIcmpYes (pc' := 101) W d25_74 (flt (by decide)).2.1 (by decide) rfl ?_
  refine gIconst (z := (-1)) W d25_101 rfl rfl ?_
  exact wRetI (so := []) (t := .int) W d25_102 (by simp) rfl (by decide) (by decide) (fun _ q => nomatch q) ⟨rfl, rfl⟩
theorem ob_sw21 (hw : TH a0 Z) (hE : EW Z a0 consts_1) (s u : Addr) (ku : ClassId) (p up : Addr) (kp : ClassId) (z : Int32) (v : Nat) (h : Heap) (hO : Ol Z h) (SC : (PSC Z z)) (hz : (¬ z = 0)) (q2 : Exa Z h s "java/lang/String") (q3 : Fld Z h s "java/lang/String" "value" "[B" (.ref u)) (q4 : Fld Z h s "java/lang/String" "coder" "B" (.int 0)) (q5 : Arv Z h u ku .byte 4 (tx2 v) (.int 0)) (q6 : Exa Z h p "java/lang/String") (q7 : Fld Z h p "java/lang/String" "value" "[B" (.ref up)) (q8 : Fld Z h p "java/lang/String" "coder" "B" (.int 0)) (q9 : Arv Z h up kp .byte 1 [.int 61] (.int 0)) :
 Ct l Z consts_1 mN33 cN31 8 (some .boolean) ⟨2, 0, 0, 40⟩ #[.ref s, .ref p, .int 3] h [] (fun rv' hp' so' => rv' = some (.int 1) ∧ so' = []) := by
  refine Ct.mk "java/lang/String" "startsWith" rfl rfl (a0 := a0) (plainFor_of_name opn2) hO hE (fun x q => nomatch q) ?_
  intro K T W
  rw [oef21]
  refine gIloadN W d24_0 rfl rfl ?_
  refine gIfNo W d24_1 ((if0 _ _).trans (flt (by decide)).1) rfl ?_
  refine gIloadN W d24_4 rfl rfl ?_
  refine gAloadN W d24_5 rfl rfl rfl ?_
  refine wVirtual (y := mN11) (z := mN11) (Wd := 1) (a := s) (argsL := []) (rest := [.int 3]) W d24_6 (ow133 hw) (ow123 hw) (ow125 hw) (ow124 hw) (nfS (ow125 hw)) (by decide) (Cb.ct (ob_ln4 hw hE s u ku (tx2 v) z h W.old SC hz q2 q3 q4 q5) (ow126 hw) (ow15 hw) hE (by decide) (by decide)) q2 (by simp) rfl (lenOf opd19 rfl) rfl (Nat.le_of_eq rfl) (by decide) (by decide) rfl fun _ _ _ R I C _ S => ?_
  obtain ⟨rfl, rfl⟩ := S
  show Go K _ _ _ _ [.int 4, .int 3]
  refine gAloadN I d24_9 rfl rfl rfl ?_
  have J := q6.keep C
  have M := q7.keep C nin0
  have N := q8.keep C nin0
  have O := q9.keep C nin0
  refine wVirtual (y := mN11) (z := mN11) (Wd := 2) (a := p) (argsL := []) (rest := [.int 4, .int 3]) I d24_10 (ow133 hw) (ow123 hw) (ow125 hw) (ow124 hw) (nfS (ow125 hw)) (by decide) (Cb.ct (ob_ln1 hw hE p up kp [.int 61] z R I.old SC hz J M N O) (ow126 hw) (ow15 hw) hE (by decide) (by decide)) J (by simp) rfl (lenOf opd19 rfl) rfl (Nat.le_of_eq rfl) (by decide) (by decide) rfl fun _ _ _ U F D _ V => ?_
  obtain ⟨rfl, rfl⟩ := V
  show Go K _ _ _ _ [.int 1, .int 4, .int 3]
  refine gIsub (z := 3) F d24_13 (by decide) rfl ?_
  refine gIcmpYes (pc' := 19) F d24_14 (flt (by decide)).2.2.2 (by decide) rfl ?_
  refine gAloadN F d24_19 rfl rfl rfl ?_
  have X := q3.keep C nin0
  have Y := X.keep D nin0
  refine wGetF F d24_20 (ow39 hw) Via.refl Y rfl fun _ L => ?_
  refine gAstoreN (ls' := #[aR s, aR p, aI 3, aR u, aU, aU, aU, aU]) L d24_23 rfl rfl rfl ?_
  refine gAloadN L d24_24 rfl rfl rfl ?_
  have Aa := M.keep D nin0
  refine wGetF L d24_25 (ow39 hw) Via.refl Aa rfl fun _ B => ?_
  refine gAstore (ls' := #[aR s, aR p, aI 3, aR u, aR up, aU, aU, aU]) B d24_28 rfl rfl rfl ?_
  refine gIconst (z := 0) B d24_30 rfl rfl ?_
  refine gIstore (ls' := #[aR s, aR p, aI 3, aR u, aR up, aI 0, aU, aU]) B d24_31 rfl rfl ?_
  refine gAload B d24_33 rfl rfl rfl ?_
  have P := O.keep D nin0
  refine wLen B d24_35 P rfl ?_
  refine gIstore (ls' := #[aR s, aR p, aI 3, aR u, aR up, aI 0, aI 1, aU]) B d24_36 rfl rfl ?_
  refine gAloadN B d24_38 rfl rfl rfl ?_
  have Ab := q4.keep C nin0
  have Ac := Ab.keep D nin0
  have Ad := q2.keep C
  have Ae := Ad.keep D
  refine wVirtual (y := mN10) (z := mN10) (Wd := 0) (a := s) (argsL := []) (rest := []) B d24_39 (ow71 hw) (ow72 hw) (ow74 hw) (ow73 hw) (nfS (ow74 hw)) (by decide) (Cb.ct (ob_co hw hE s z U B.old SC hz Ac) (ow75 hw) (ow15 hw) hE (by decide) (by decide)) Ae (by simp) rfl (lenOf opd5 rfl) rfl (Nat.le_of_eq rfl) (by decide) (by decide) rfl fun _ _ _ Af E G _ Ag => ?_
  obtain ⟨rfl, rfl⟩ := Ag
  show Go K _ _ _ _ [.int 0]
  refine gIstore (ls' := #[aR s, aR p, aI 3, aR u, aR up, aI 0, aI 1, aI 0]) E d24_42 rfl rfl ?_
  refine gIload E d24_44 rfl rfl ?_
  refine gAloadN E d24_46 rfl rfl rfl ?_
  have Ah := N.keep D nin0
  have Ai := Ah.keep G nin0
  have Aj := J.keep D
  have Ak := Aj.keep G
  refine wVirtual (y := mN10) (z := mN10) (Wd := 1) (a := p) (argsL := []) (rest := [.int 0]) E d24_47 (ow71 hw) (ow72 hw) (ow74 hw) (ow73 hw) (nfS (ow74 hw)) (by decide) (Cb.ct (ob_co hw hE p z Af E.old SC hz Ai) (ow75 hw) (ow15 hw) hE (by decide) (by decide)) Ak (by simp) rfl (lenOf opd5 rfl) rfl (Nat.le_of_eq rfl) (by decide) (by decide) rfl fun _ _ _ Al A Q _ Am => ?_
  obtain ⟨rfl, rfl⟩ := Am
  show Go K _ _ _ _ [.int 0, .int 0]
  refine gIcmpNo A d24_50 (teq (by decide)).2 rfl ?_
  refine gIload A d24_53 rfl rfl ?_
  refine gIconst (z := 1) A d24_55 rfl rfl ?_
  refine gIcmpYes (pc' := 63) A d24_56 (feq (by decide)).2 (by decide) rfl ?_
  refine gAloadN A d24_63 rfl rfl rfl ?_
  refine gIloadN A d24_64 rfl rfl ?_
  refine gAload A d24_65 rfl rfl rfl ?_
  refine gIconst (z := 0) A d24_67 rfl rfl ?_
  refine gIload A d24_68 rfl rfl ?_
  have An := q5.keep C nin0
  have Ao := An.keep D nin0
  have Ap := Ao.keep G nin0
  have Aq := Ap.keep Q nin0
  have Ar := P.keep G nin0
  have As := Ar.keep Q nin0
  refine wStatic (y := mN36) (Wd := 0) (argsL := [.ref u, .int 3, .ref up, .int 0, .int 1]) (rest := []) A d24_70 (ow139 hw) (ow140 hw) (ow141 hw) (ow142 hw) (by decide) (Cb.ct (ob_mm21 hw hE u ku up kp v Al A.old Aq As) (ow142 hw) (ow141 hw) hE (by decide) (by decide)) (by simp) rfl (lenOf opd22 rfl) rfl (Nat.le_of_eq rfl) (by decide) (by decide) rfl fun _ _ _ _ H _ _ At => ?_
  obtain ⟨rfl, rfl⟩ := At
  show Go K _ _ _ _ [.int (-1)]
  refine gIfNo H d24_73 ((if0 _ _).trans (tlt (by decide)).2.1) rfl ?_
  refine gIconst (z := 1) H d24_76 rfl rfl ?_
  refine gGoto (pc' := 81) H d24_77 (by decide) rfl ?_
  exact wRetI (so := []) (t := .boolean) H d24_81 (by simp) rfl (by decide) (by decide) (fun _ q => nomatch q) ⟨rfl, rfl⟩
theorem ob_ew21 (hw : TH a0 Z) (hE : EW Z a0 consts_1) (s u : Addr) (ku : ClassId) (p up : Addr) (kp : ClassId) (z : Int32) (v : Nat) (h : Heap) (hO : Ol Z h) (SC : (PSC Z z)) (hz : (¬ z = 0)) (q2 : Exa Z h s "java/lang/String") (q3 : Fld Z h s "java/lang/String" "value" "[B" (.ref u)) (q4 : Fld Z h s "java/lang/String" "coder" "B" (.int 0)) (q5 : Arv Z h u ku .byte 4 (tx2 v) (.int 0)) (q6 : Exa Z h p "java/lang/String") (q7 : Fld Z h p "java/lang/String" "value" "[B" (.ref up)) (q8 : Fld Z h p "java/lang/String" "coder" "B" (.int 0)) (q9 : Arv Z h up kp .byte 1 [.int 61] (.int 0)) :
 Ct l Z consts_1 mN34 cN32 2 (some .boolean) ⟨3, 0, 0, 70⟩ #[.ref s, .ref p] h [] (fun rv' hp' so' => rv' = some (.int 1) ∧ so' = []) := by
  refine Ct.mk "java/lang/String" "endsWith" rfl rfl (a0 := a0) (plainFor_of_name opn2) hO hE (fun x q => nomatch q) ?_
  intro K T W
  rw [oef8]
  refine gAloadN W d23_0 rfl rfl rfl ?_
  refine gAloadN W d23_1 rfl rfl rfl ?_
  refine gAloadN W d23_2 rfl rfl rfl ?_
  refine wVirtual (y := mN11) (z := mN11) (Wd := 2) (a := s) (argsL := []) (rest := [.ref p, .ref s]) W d23_3 (ow133 hw) (ow123 hw) (ow125 hw) (ow124 hw) (nfS (ow125 hw)) (by decide) (Cb.ct (ob_ln4 hw hE s u ku (tx2 v) z h W.old SC hz q2 q3 q4 q5) (ow126 hw) (ow15 hw) hE (by decide) (by decide)) q2 (by simp) rfl (lenOf opd19 rfl) rfl (Nat.le_of_eq rfl) (by decide) (by decide) rfl fun _ _ _ J C A _ L => ?_
  obtain ⟨rfl, rfl⟩ := L
  show Go K _ _ _ _ [.int 4, .ref p, .ref s]
  refine gAloadN C d23_6 rfl rfl rfl ?_
  have D := q6.keep A
  have F := q7.keep A nin0
  have G := q8.keep A nin0
  have H := q9.keep A nin0
  refine wVirtual (y := mN11) (z := mN11) (Wd := 3) (a := p) (argsL := []) (rest := [.int 4, .ref p, .ref s]) C d23_7 (ow133 hw) (ow123 hw) (ow125 hw) (ow124 hw) (nfS (ow125 hw)) (by decide) (Cb.ct (ob_ln1 hw hE p up kp [.int 61] z J C.old SC hz D F G H) (ow126 hw) (ow15 hw) hE (by decide) (by decide)) D (by simp) rfl (lenOf opd19 rfl) rfl (Nat.le_of_eq rfl) (by decide) (by decide) rfl fun _ _ _ M E B _ N => ?_
  obtain ⟨rfl, rfl⟩ := N
  show Go K _ _ _ _ [.int 1, .int 4, .ref p, .ref s]
  refine gIsub (z := 3) E d23_10 (by decide) rfl ?_
  have O := q2.keep A
  have I := O.keep B
  have P := q3.keep A nin0
  have Q := P.keep B nin0
  have R := q4.keep A nin0
  have S := R.keep B nin0
  have U := q5.keep A nin0
  have V := U.keep B nin0
  have X := D.keep B
  have Y := F.keep B nin0
  have Aa := G.keep B nin0
  have Ab := H.keep B nin0
  refine wVirtual (y := mN33) (z := mN33) (Wd := 0) (a := s) (argsL := [.ref p, .int 3]) (rest := []) E d23_11 (ow134 hw) (ow135 hw) (ow137 hw) (ow136 hw) (nfS (ow137 hw)) (by decide) (Cb.ct (ob_sw21 hw hE s u ku p up kp z v M E.old SC hz I Q S V X Y Aa Ab) (ow138 hw) (ow15 hw) hE (by decide) (by decide)) I (by simp) rfl (lenOf opd20 rfl) rfl (Nat.le_of_eq rfl) (by decide) (by decide) rfl fun _ _ _ _ Ac _ _ Ad => ?_
  obtain ⟨rfl, rfl⟩ := Ad
  show Go K _ _ _ _ [.int 1]
  exact wRetI (so := []) (t := .boolean) Ac d23_14 (by simp) rfl (by decide) (by decide) (fun _ q => nomatch q) ⟨rfl, rfl⟩
theorem ob_lc2 (hw : TH a0 Z) (hE : EW Z a0 consts_1) (u : Addr) (ku : ClassId) (fm : Value) (v : Nat) (h : Heap) (hO : Ol Z h) (SF : (PSF Z fm)) (rf : (fm.isRef = true)) (q2 : Arv Z h u ku .byte 4 (tx2 v) (.int 0)) :
 Ct l Z consts_1 mN37 cN35 2 (some .char) ⟨2, 0, 0, 34⟩ #[.ref u, .int 2] h [] (fun rv' hp' so' => rv' = some (.int (Int32.ofNat (symN (sx2 v)))) ∧ so' = []) := by
  refine Ct.mk "java/lang/StringLatin1" "charAt" rfl rfl (a0 := a0) (plainFor_of_name opn5) hO hE (fun x q => nomatch q) ?_
  intro K T W
  rw [oef6]
  refine gIloadN W d28_0 rfl rfl ?_
  refine gAloadN W d28_1 rfl rfl rfl ?_
  refine wLen W d28_2 q2 rfl ?_
  refine wStatic (y := mN24) (Wd := 0) (argsL := [.int 2, .int 4]) (rest := []) W d28_3 (ow159 hw) (ow160 hw) (ow15 hw) (ow161 hw) (by decide) (Cb.ct (ob_ck hw hE 2 4 fm h W.old (by decide) (by decide) SF rf) (ow161 hw) (ow15 hw) hE (by decide) (by decide)) (by simp) rfl (lenOf opd23 rfl) rfl (Nat.le_of_eq rfl) (by decide) (by decide) rfl fun _ _ _ _ A B _ C => ?_
  obtain ⟨rfl, rfl⟩ := C
  show Go K _ _ _ _ []
  refine gAloadN A d28_6 rfl rfl rfl ?_
  refine gIloadN A d28_7 rfl rfl ?_
  have D := q2.keep B nin0
  refine wLdB (v := (.int (Int32.ofNat (symN (sx2 v))))) A d28_8 D (by decide) rfl rfl ?_
  refine gSipush (z := 255) A d28_9 rfl rfl ?_
  refine gIand (z := (Int32.ofNat (symN (sx2 v)))) A d28_12 (b8_of (symN_le _)).mask rfl ?_
  refine gI2C (z := (Int32.ofNat (symN (sx2 v)))) A d28_13 (b8_of (symN_le _)).i2c' rfl ?_
  exact wRetI (so := []) (t := .char) A d28_14 (by simp) (by show Value.int (nar .char (Int32.ofNat (symN (sx2 v)))) = _; rw [(b8_of (symN_le _)).nar]) (by decide) (by decide) (fun _ q => nomatch q) ⟨rfl, rfl⟩
theorem ob_ch2 (hw : TH a0 Z) (hE : EW Z a0 consts_1) (s u : Addr) (ku : ClassId) (z : Int32) (fm : Value) (v : Nat) (h : Heap) (hO : Ol Z h) (SC : (PSC Z z)) (hz : (¬ z = 0)) (SF : (PSF Z fm)) (rf : (fm.isRef = true)) (q4 : Exa Z h s "java/lang/String") (q5 : Fld Z h s "java/lang/String" "value" "[B" (.ref u)) (q6 : Fld Z h s "java/lang/String" "coder" "B" (.int 0)) (q7 : Arv Z h u ku .byte 4 (tx2 v) (.int 0)) :
 Ct l Z consts_1 mN38 cN36 2 (some .char) ⟨3, 0, 0, 52⟩ #[.ref s, .int 2] h [] (fun rv' hp' so' => rv' = some (.int (Int32.ofNat (symN (sx2 v)))) ∧ so' = []) := by
  refine Ct.mk "java/lang/String" "charAt" rfl rfl (a0 := a0) (plainFor_of_name opn2) hO hE (fun x q => nomatch q) ?_
  intro K T W
  rw [oef6]
  refine gAloadN W d26_0 rfl rfl rfl ?_
  refine wVirtual (y := mN25) (z := mN25) (Wd := 0) (a := s) (argsL := []) (rest := []) W d26_1 (ow150 hw) (ow151 hw) (ow153 hw) (ow152 hw) (nfS (ow153 hw)) (by decide) (Cb.ct (ob_il hw hE s z h W.old SC hz q6) (ow154 hw) (ow15 hw) hE (by decide) (by decide)) q4 (by simp) rfl (lenOf opd18 rfl) rfl (Nat.le_of_eq rfl) (by decide) (by decide) rfl fun _ _ _ D A C _ E => ?_
  obtain ⟨rfl, rfl⟩ := E
  show Go K _ _ _ _ [.int 1]
  refine gIfNo A d26_4 ((if0 _ _).trans (feq (by decide)).1) rfl ?_
  refine gAloadN A d26_7 rfl rfl rfl ?_
  have F := q5.keep C nin0
  refine wGetF A d26_8 (ow39 hw) Via.refl F rfl fun _ B => ?_
  refine gIloadN B d26_11 rfl rfl ?_
  have G := q7.keep C nin0
  refine wStatic (y := mN37) (Wd := 0) (argsL := [.ref u, .int 2]) (rest := []) B d26_12 (ow155 hw) (ow156 hw) (ow157 hw) (ow158 hw) (by decide) (Cb.ct (ob_lc2 hw hE u ku fm v D B.old SF rf G) (ow158 hw) (ow157 hw) hE (by decide) (by decide)) (by simp) rfl (lenOf opd24 rfl) rfl (Nat.le_of_eq rfl) (by decide) (by decide) rfl fun _ _ _ _ H _ _ I => ?_
  obtain ⟨rfl, rfl⟩ := I
  show Go K _ _ _ _ [.int (Int32.ofNat (symN (sx2 v)))]
  exact wRetI (so := []) (t := .char) H d26_15 (by simp) (by show Value.int (nar .char (Int32.ofNat (symN (sx2 v)))) = _; rw [(b8_of (symN_le _)).nar]) (by decide) (by decide) (fun _ q => nomatch q) ⟨rfl, rfl⟩
theorem d21_33 : Dc cN33 33 (.iconst 1) 1 := by decide +kernel
theorem d21_34 : Dc cN33 34 (.goto 4) 3 := by decide +kernel
theorem d21_73 : Dc cN33 73 (.iconst 3) 1 := by decide +kernel
theorem ob_is2 (hw : TH a0 Z) (hE : EW Z a0 consts_1) (s u : Addr) (ku : ClassId) (z : Int32) (fm : Value) (v : Nat) (h : Heap) (hO : Ol Z h) (SC : (PSC Z z)) (hz : (¬ z = 0)) (SF : (PSF Z fm)) (rf : (fm.isRef = true)) (q4 : Exa Z h s "java/lang/String") (q5 : Fld Z h s "java/lang/String" "value" "[B" (.ref u)) (q6 : Fld Z h s "java/lang/String" "coder" "B" (.int 0)) (q7 : Arv Z h u ku .byte 4 (tx2 v) (.int 0)) (hv : (v < 16777216)) (hzv : (v % 256 = 0)) :
 Ct l Z consts_1 mN35 cN33 4 (some .boolean) ⟨4, 6, 300, 95⟩ #[.ref s] h [] (fun rv' hp' so' => rv' = some (.int 1) ∧ so' = []) := by
  refine Ct.mk "com/example/drafts_under_key/draftsunderkey/crypto/StrictBase64" "isCanonical" rfl rfl (a0 := a0) (plainFor_of_name opn6) hO hE (fun x q => nomatch q) ?_
  intro K T W
  rw [oef22]
  refine gAloadN W d21_0 rfl rfl rfl ?_
  refine wVirtual (y := mN11) (z := mN11) (Wd := 0) (a := s) (argsL := []) (rest := []) W d21_1 (ow122 hw) (ow123 hw) (ow125 hw) (ow124 hw) (nfS (ow125 hw)) (by decide) (Cb.ct (ob_ln4 hw hE s u ku (tx2 v) z h W.old SC hz q4 q5 q6 q7) (ow126 hw) (ow15 hw) hE (by decide) (by decide)) q4 (by simp) rfl (lenOf opd19 rfl) rfl (Nat.le_of_eq rfl) (by decide) (by decide) rfl fun _ _ _ _ F G _ Av => ?_
  obtain ⟨rfl, rfl⟩ := Av
  show Go K _ _ _ _ [.int 4]
  refine gIconst (z := 4) F d21_4 rfl rfl ?_
  refine gIrem (z := 0) F d21_5 (by decide) (by decide) rfl ?_
  refine gIfYes (pc' := 11) F d21_6 ((if0 _ _).trans (teq (by decide)).1) (by decide) rfl ?_
  refine gAloadN F d21_11 rfl rfl rfl ?_
  refine wLdcS (vs := [.int 61, .int 61]) (z := 2) (n := 8) F d21_12 (ow127 hw) (owS hw) hE (by decide) (by decide) (by decide) (by decide) (by decide) (by decide) (by decide) (by decide) rfl fun _ U V X Y Aa H Aw Ax Ay Az _ => ?_
  have A0 : Arv Z U X Y .byte 2 [.int 61, .int 61] (.int 0) := Az
  have A1 := q4.keep G
  have P := A1.ext H
  have A2 := q5.keep G nin0
  have Ab := A2.ext H
  have A3 := q6.keep G nin0
  have Ac := A3.ext H
  have A4 := q7.keep G nin0
  have Ad := A4.ext H
  refine wVirtual (y := mN34) (z := mN34) (Wd := 0) (a := s) (argsL := [.ref V]) (rest := []) Aa d21_14 (ow128 hw) (ow129 hw) (ow131 hw) (ow130 hw) (nfS (ow131 hw)) (by decide) (Cb.ct (ob_ew22 hw hE s u ku V X Y z v U Aa.old SC hz P Ab Ac Ad Aw Ay Ax A0) (ow132 hw) (ow15 hw) hE (by decide) (by decide)) P (by simp) rfl (lenOf opd21 rfl) rfl (Nat.le_of_eq rfl) (by decide) (by decide) rfl fun _ _ _ _ Q I _ A5 => ?_
  obtain ⟨rfl, rfl⟩ := A5
  show Go K _ _ _ _ [.int 0]
  refine gIfYes (pc' := 24) Q d21_17 ((if0 _ _).trans (teq (by decide)).1) (by decide) rfl ?_
  refine gAloadN Q d21_24 rfl rfl rfl ?_
  refine wLdcS (vs := [.int 61]) (z := 1) (n := 4) Q d21_25 (ow143 hw) (owS hw) hE (by decide) (by decide) (by decide) (by decide) (by decide) (by decide) (by decide) (by decide) rfl fun _ Ae Af Ag Ah Ai J A6 A7 A8 A9 _ => ?_
  have Ba : Arv Z Ae Ag Ah .byte 1 [.int 61] (.int 0) := A9
  have Bb := P.keep I
  have R := Bb.ext J
  have Bc := Ab.keep I nin0
  have Aj := Bc.ext J
  have Bd := Ac.keep I nin0
  have Ak := Bd.ext J
  have Be := Ad.keep I nin0
  have Al := Be.ext J
  refine wVirtual (y := mN34) (z := mN34) (Wd := 0) (a := s) (argsL := [.ref Af]) (rest := []) Ai d21_27 (ow128 hw) (ow129 hw) (ow131 hw) (ow130 hw) (nfS (ow131 hw)) (by decide) (Cb.ct (ob_ew21 hw hE s u ku Af Ag Ah z v Ae Ai.old SC hz R Aj Ak Al A6 A8 A7 Ba) (ow132 hw) (ow15 hw) hE (by decide) (by decide)) R (by simp) rfl (lenOf opd21 rfl) rfl (Nat.le_of_eq rfl) (by decide) (by decide) rfl fun _ _ _ _ C L _ Bf => ?_
  obtain ⟨rfl, rfl⟩ := Bf
  show Go K _ _ _ _ [.int 1]
  refine gIfNo C d21_30 ((if0 _ _).trans (feq (by decide)).1) rfl ?_
  refine gIconst (z := 1) C d21_33 rfl rfl ?_
  refine gGoto (pc' := 38) C d21_34 (by decide) rfl ?_
  refine gIstoreN (ls' := #[aR s, aI 1, aU, aU]) C d21_38 rfl rfl ?_
  refine gIloadN C d21_39 rfl rfl ?_
  refine gIfYes (pc' := 45) C d21_40 ((if0 _ _).trans (feq (by decide)).2) (by decide) rfl ?_
  refine wLdcS (vs := [.int 65, .int 66, .int 67, .int 68, .int 69, .int 70, .int 71, .int 72, .int 73, .int 74, .int 75, .int 76, .int 77, .int 78, .int 79, .int 80, .int 81, .int 82, .int 83, .int 84, .int 85, .int 86, .int 87, .int 88, .int 89, .int 90, .int 97, .int 98, .int 99, .int 100, .int 101, .int 102, .int 103, .int 104, .int 105, .int 106, .int 107, .int 108, .int 109, .int 110, .int 111, .int 112, .int 113, .int 114, .int 115, .int 116, .int 117, .int 118, .int 119, .int 120, .int 121, .int 122, .int 48, .int 49, .int 50, .int 51, .int 52, .int 53, .int 54, .int 55, .int 56, .int 57, .int 43, .int 47]) (z := 64) (n := 256) C d21_45 (ow144 hw) (owS hw) hE (by decide) (by decide) (by decide) (by decide) (by decide) (by decide) (by decide) (by decide) rfl fun _ Am D An Ao M N Bg Bh Bi Bj _ => ?_
  have Bk : Arv Z Am An Ao .byte 64 alph (.int 0) := Bj
  refine gAloadN M d21_47 rfl rfl rfl ?_
  refine gAloadN M d21_48 rfl rfl rfl ?_
  have Bl := R.keep L
  have S := Bl.ext N
  have Bm := Aj.keep L nin0
  have Ap := Bm.ext N
  have Bn := Ak.keep L nin0
  have Aq := Bn.ext N
  have Bo := Al.keep L nin0
  have Ar := Bo.ext N
  refine wVirtual (y := mN11) (z := mN11) (Wd := 2) (a := s) (argsL := []) (rest := [.ref s, .ref D]) M d21_49 (ow122 hw) (ow123 hw) (ow125 hw) (ow124 hw) (nfS (ow125 hw)) (by decide) (Cb.ct (ob_ln4 hw hE s u ku (tx2 v) z Am M.old SC hz S Ap Aq Ar) (ow126 hw) (ow15 hw) hE (by decide) (by decide)) S (by simp) rfl (lenOf opd19 rfl) rfl (Nat.le_of_eq rfl) (by decide) (by decide) rfl fun _ _ _ Bp E B _ Bq => ?_
  obtain ⟨rfl, rfl⟩ := Bq
  show Go K _ _ _ _ [.int 4, .ref s, .ref D]
  refine gIconst (z := 1) E d21_52 rfl rfl ?_
  refine gIsub (z := 3) E d21_53 (by decide) rfl ?_
  refine gIloadN E d21_54 rfl rfl ?_
  refine gIsub (z := 2) E d21_55 (by decide) rfl ?_
  have As := S.keep B
  have Br := Ap.keep B nin0
  have Bs := Aq.keep B nin0
  have Bt := Ar.keep B nin0
  refine wVirtual (y := mN38) (z := mN38) (Wd := 1) (a := s) (argsL := [.int 2]) (rest := [.ref D]) E d21_56 (ow145 hw) (ow146 hw) (ow148 hw) (ow147 hw) (nfS (ow148 hw)) (by decide) (Cb.ct (ob_ch2 hw hE s u ku z fm v Bp E.old SC hz SF rf As Br Bs Bt) (ow149 hw) (ow15 hw) hE (by decide) (by decide)) As (by simp) rfl (lenOf opd0 rfl) rfl (Nat.le_of_eq rfl) (by decide) (by decide) rfl fun _ _ _ Bu At O _ Bv => ?_
  obtain ⟨rfl, rfl⟩ := Bv
  show Go K _ _ _ _ [.int (Int32.ofNat (symN (sx2 v))), .ref D]
  have Bw := Bg.keep B
  have Au := Bw.keep O
  have Bx := Bi.keep B nin0
  have By := Bx.keep O nin0
  have Bz := Bh.keep B nin0
  have B0 := Bz.keep O nin0
  have B1 := Bk.keep B nin0
  have B2 := B1.keep O nin0
  refine wVirtual (y := mN32) (z := mN32) (Wd := 0) (a := D) (argsL := [.int (Int32.ofNat (symN (sx2 v)))]) (rest := []) At d21_59 (ow167 hw) (ow168 hw) (ow170 hw) (ow169 hw) (nfS (ow170 hw)) (by decide) (Cb.ct (ob_ix hw hE D An Ao z (sx2 v) Bu At.old SC hz Au By B0 B2 (sx2_lt _)) (ow171 hw) (ow15 hw) hE (by decide) (by decide)) Au (by simp) rfl (lenOf opd25 rfl) rfl (Nat.le_of_eq rfl) (by decide) (by decide) rfl fun _ _ _ _ A _ _ B3 => ?_
  obtain ⟨rfl, rfl⟩ := B3
  show Go K _ _ _ _ [.int (Int32.ofNat (sx2 v))]
  refine gIstoreN (ls' := #[aR s, aI 1, aI (Int32.ofNat (sx2 v)), aU]) A d21_62 rfl rfl ?_
  refine gIloadN A d21_63 rfl rfl ?_
  refine gIconst (z := 2) A d21_64 rfl rfl ?_
  refine gIcmpYes (pc' := 73) A d21_65 (feq (by decide)).2 (by decide) rfl ?_
  refine gIconst (z := 3) A d21_73 rfl rfl ?_
  refine gIstoreN (ls' := #[aR s, aI 1, aI (Int32.ofNat (sx2 v)), aI 3]) A d21_74 rfl rfl ?_
  refine gIloadN A d21_75 rfl rfl ?_
  refine gIloadN A d21_76 rfl rfl ?_
  refine gIand (z := 0) A d21_77 (canon1 hzv) rfl ?_
  refine gIfNo A d21_78 ((if0 _ _).trans (teq (by decide)).2) rfl ?_
  refine gIconst (z := 1) A d21_81 rfl rfl ?_
  refine gGoto (pc' := 86) A d21_82 (by decide) rfl ?_
  exact wRetI (so := []) (t := .boolean) A d21_86 (by simp) rfl (by decide) (by decide) (fun _ q => nomatch q) ⟨rfl, rfl⟩
theorem ob_mm32 (hw : TH a0 Z) (hE : EW Z a0 consts_1) (u : Addr) (ku : ClassId) (up : Addr) (kp : ClassId) (v : Nat) (h : Heap) (hO : Ol Z h) (q0 : Arv Z h u ku .byte 4 (tx3 v) (.int 0)) (q1 : Arv Z h up kp .byte 2 [.int 61, .int 61] (.int 0)) :
 Ct l Z consts_1 mN36 cN34 8 (some .int) ⟨0, 0, 0, 0⟩ #[.ref u, .int 2, .ref up, .int 0, .int 2] h [] (fun rv' hp' so' => rv' = some (.int 0) ∧ so' = []) := by
  refine Ct.mk "jdk/internal/util/ArraysSupport" "mismatch" rfl rfl (a0 := a0) (plainFor_of_name opn7) hO hE (fun x q => nomatch q) ?_
  intro K T W
  rw [oef23]
  refine gIconst (z := 0) W d25_0 rfl rfl ?_
  refine gIstore (ls' := #[aR u, aI 2, aR up, aI 0, aI 2, aI 0, aU, aU]) W d25_1 rfl rfl ?_
  refine gIload W d25_3 rfl rfl ?_
  refine gBipush (z := 7) W d25_5 rfl rfl ?_
  refine gIcmpYes (pc' := 70) W d25_7 (flt (by decide)).2.2.2 (by decide) rfl ?_
  refine gIload W d25_70 rfl rfl ?_
  refine gIload W d25_72 rfl rfl ?_
  refine gIcmpNo W d25_74 (tlt (by decide)).2.1 rfl ?_
  refine gAloadN W d25_77 rfl rfl rfl ?_
  refine gIloadN W d25_78 rfl rfl ?_
  refine gIload W d25_79 rfl rfl ?_
  refine gIadd (z := 2) W d25_81 (by decide) rfl ?_
  refine wLdB (v := (.int (Int32.ofNat (symN (sx2 v))))) W d25_82 q0 (by decide) rfl rfl ?_
  refine gAloadN W d25_83 rfl rfl rfl ?_
  refine gIloadN W d25_84 rfl rfl ?_
  refine gIload W d25_85 rfl rfl ?_
  refine gIadd (z := 0) W d25_87 (by decide) rfl ?_
  refine wLdB (v := (.int 61)) W d25_88 q1 (by decide) rfl rfl ?_
  refine gIcmpNo W d25_89 (feq (fun q => symN_61 (ofNat_inj (b := 61) (Nat.lt_of_le_of_lt (symN_le _) (by decide)) (by decide) q))).1 rfl ?_
  refine gIload W d25_92 rfl rfl ?_
  exact wRetI (so := []) (t := .int) W d25_94 (by simp) rfl (by decide) (by decide) (fun _ q => nomatch q) ⟨rfl, rfl⟩
theorem ob_sw32 (hw : TH a0 Z) (hE : EW Z a0 consts_1) (s u : Addr) (ku : ClassId) (p up : Addr) (kp : ClassId) (z : Int32) (v : Nat) (h : Heap) (hO : Ol Z h) (SC : (PSC Z z)) (hz : (¬ z = 0)) (q2 : Exa Z h s "java/lang/String") (q3 : Fld Z h s "java/lang/String" "value" "[B" (.ref u)) (q4 : Fld Z h s "java/lang/String" "coder" "B" (.int 0)) (q5 : Arv Z h u ku .byte 4 (tx3 v) (.int 0)) (q6 : Exa Z h p "java/lang/String") (q7 : Fld Z h p "java/lang/String" "value" "[B" (.ref up)) (q8 : Fld Z h p "java/lang/String" "coder" "B" (.int 0)) (q9 : Arv Z h up kp .byte 2 [.int 61, .int 61] (.int 0)) :
 Ct l Z consts_1 mN33 cN31 8 (some .boolean) ⟨2, 0, 0, 40⟩ #[.ref s, .ref p, .int 2] h [] (fun rv' hp' so' => rv' = some (.int 0) ∧ so' = []) := by
  refine Ct.mk "java/lang/String" "startsWith" rfl rfl (a0 := a0) (plainFor_of_name opn2) hO hE (fun x q => nomatch q) ?_
  intro K T W
  rw [oef21]
  refine gIloadN W d24_0 rfl rfl ?_
  refine gIfNo W d24_1 ((if0 _ _).trans (flt (by decide)).1) rfl ?_
  refine gIloadN W d24_4 rfl rfl ?_
  refine gAloadN W d24_5 rfl rfl rfl ?_
  refine wVirtual (y := mN11) (z := mN11) (Wd := 1) (a := s) (argsL := []) (rest := [.int 2]) W d24_6 (ow133 hw) (ow123 hw) (ow125 hw) (ow124 hw) (nfS (ow125 hw)) (by decide) (Cb.ct (ob_ln4 hw hE s u ku (tx3 v) z h W.old SC hz q2 q3 q4 q5) (ow126 hw) (ow15 hw) hE (by decide) (by decide)) q2 (by simp) rfl (lenOf opd19 rfl) rfl (Nat.le_of_eq rfl) (by decide) (by decide) rfl fun _ _ _ R H C _ S => ?_
  obtain ⟨rfl, rfl⟩ := S
  show Go K _ _ _ _ [.int 4, .int 2]
  refine gAloadN H d24_9 rfl rfl rfl ?_
  have I := q6.keep C
  have M := q7.keep C nin0
  have N := q8.keep C nin0
  have O := q9.keep C nin0
  refine wVirtual (y := mN11) (z := mN11) (Wd := 2) (a := p) (argsL := []) (rest := [.int 4, .int 2]) H d24_10 (ow133 hw) (ow123 hw) (ow125 hw) (ow124 hw) (nfS (ow125 hw)) (by decide) (Cb.ct (ob_ln2 hw hE p up kp [.int 61, .int 61] z R H.old SC hz I M N O) (ow126 hw) (ow15 hw) hE (by decide) (by decide)) I (by simp) rfl (lenOf opd19 rfl) rfl (Nat.le_of_eq rfl) (by decide) (by decide) rfl fun _ _ _ U F D _ V => ?_
  obtain ⟨rfl, rfl⟩ := V
  show Go K _ _ _ _ [.int 2, .int 4, .int 2]
  refine gIsub (z := 2) F d24_13 (by decide) rfl ?_
  refine gIcmpYes (pc' := 19) F d24_14 (flt (by decide)).2.2.2 (by decide) rfl ?_
  refine gAloadN F d24_19 rfl rfl rfl ?_
  have X := q3.keep C nin0
  have Y := X.keep D nin0
  refine wGetF F d24_20 (ow39 hw) Via.refl Y rfl fun _ J => ?_
  refine gAstoreN (ls' := #[aR s, aR p, aI 2, aR u, aU, aU, aU, aU]) J d24_23 rfl rfl rfl ?_
  refine gAloadN J d24_24 rfl rfl rfl ?_
  have Aa := M.keep D nin0
  refine wGetF J d24_25 (ow39 hw) Via.refl Aa rfl fun _ B => ?_
  refine gAstore (ls' := #[aR s, aR p, aI 2, aR u, aR up, aU, aU, aU]) B d24_28 rfl rfl rfl ?_
  refine gIconst (z := 0) B d24_30 rfl rfl ?_
  refine gIstore (ls' := #[aR s, aR p, aI 2, aR u, aR up, aI 0, aU, aU]) B d24_31 rfl rfl ?_
  refine gAload B d24_33 rfl rfl rfl ?_
  have P := O.keep D nin0
  refine wLen B d24_35 P rfl ?_
  refine gIstore (ls' := #[aR s, aR p, aI 2, aR u, aR up, aI 0, aI 2, aU]) B d24_36 rfl rfl ?_
  refine gAloadN B d24_38 rfl rfl rfl ?_
  have Ab := q4.keep C nin0
  have Ac := Ab.keep D nin0
  have Ad := q2.keep C
  have Ae := Ad.keep D
  refine wVirtual (y := mN10) (z := mN10) (Wd := 0) (a := s) (argsL := []) (rest := []) B d24_39 (ow71 hw) (ow72 hw) (ow74 hw) (ow73 hw) (nfS (ow74 hw)) (by decide) (Cb.ct (ob_co hw hE s z U B.old SC hz Ac) (ow75 hw) (ow15 hw) hE (by decide) (by decide)) Ae (by simp) rfl (lenOf opd5 rfl) rfl (Nat.le_of_eq rfl) (by decide) (by decide) rfl fun _ _ _ Af E G _ Ag => ?_
  obtain ⟨rfl, rfl⟩ := Ag
  show Go K _ _ _ _ [.int 0]
  refine gIstore (ls' := #[aR s, aR p, aI 2, aR u, aR up, aI 0, aI 2, aI 0]) E d24_42 rfl rfl ?_
  refine gIload E d24_44 rfl rfl ?_
  refine gAloadN E d24_46 rfl rfl rfl ?_
  have Ah := N.keep D nin0
  have Ai := Ah.keep G nin0
  have Aj := I.keep D
  have Ak := Aj.keep G
  refine wVirtual (y := mN10) (z := mN10) (Wd := 1) (a := p) (argsL := []) (rest := [.int 0]) E d24_47 (ow71 hw) (ow72 hw) (ow74 hw) (ow73 hw) (nfS (ow74 hw)) (by decide) (Cb.ct (ob_co hw hE p z Af E.old SC hz Ai) (ow75 hw) (ow15 hw) hE (by decide) (by decide)) Ak (by simp) rfl (lenOf opd5 rfl) rfl (Nat.le_of_eq rfl) (by decide) (by decide) rfl fun _ _ _ Al A Q _ Am => ?_
  obtain ⟨rfl, rfl⟩ := Am
  show Go K _ _ _ _ [.int 0, .int 0]
  refine gIcmpNo A d24_50 (teq (by decide)).2 rfl ?_
  refine gIload A d24_53 rfl rfl ?_
  refine gIconst (z := 1) A d24_55 rfl rfl ?_
  refine gIcmpYes (pc' := 63) A d24_56 (feq (by decide)).2 (by decide) rfl ?_
  refine gAloadN A d24_63 rfl rfl rfl ?_
  refine gIloadN A d24_64 rfl rfl ?_
  refine gAload A d24_65 rfl rfl rfl ?_
  refine gIconst (z := 0) A d24_67 rfl rfl ?_
  refine gIload A d24_68 rfl rfl ?_
  have An := q5.keep C nin0
  have Ao := An.keep D nin0
  have Ap := Ao.keep G nin0
  have Aq := Ap.keep Q nin0
  have Ar := P.keep G nin0
  have As := Ar.keep Q nin0
  refine wStatic (y := mN36) (Wd := 0) (argsL := [.ref u, .int 2, .ref up, .int 0, .int 2]) (rest := []) A d24_70 (ow139 hw) (ow140 hw) (ow141 hw) (ow142 hw) (by decide) (Cb.ct (ob_mm32 hw hE u ku up kp v Al A.old Aq As) (ow142 hw) (ow141 hw) hE (by decide) (by decide)) (by simp) rfl (lenOf opd22 rfl) rfl (Nat.le_of_eq rfl) (by decide) (by decide) rfl fun _ _ _ _ L _ _ At => ?_
  obtain ⟨rfl, rfl⟩ := At
  show Go K _ _ _ _ [.int 0]
  refine gIfYes (pc' := 80) L d24_73 ((if0 _ _).trans (flt (by decide)).2.1) (by decide) rfl ?_
  refine gIconst (z := 0) L d24_80 rfl rfl ?_
  exact wRetI (so := []) (t := .boolean) L d24_81 (by simp) rfl (by decide) (by decide) (fun _ q => nomatch q) ⟨rfl, rfl⟩
theorem ob_ew32 (hw : TH a0 Z) (hE : EW Z a0 consts_1) (s u : Addr) (ku : ClassId) (p up : Addr) (kp : ClassId) (z : Int32) (v : Nat) (h : Heap) (hO : Ol Z h) (SC : (PSC Z z)) (hz : (¬ z = 0)) (q2 : Exa Z h s "java/lang/String") (q3 : Fld Z h s "java/lang/String" "value" "[B" (.ref u)) (q4 : Fld Z h s "java/lang/String" "coder" "B" (.int 0)) (q5 : Arv Z h u ku .byte 4 (tx3 v) (.int 0)) (q6 : Exa Z h p "java/lang/String") (q7 : Fld Z h p "java/lang/String" "value" "[B" (.ref up)) (q8 : Fld Z h p "java/lang/String" "coder" "B" (.int 0)) (q9 : Arv Z h up kp .byte 2 [.int 61, .int 61] (.int 0)) :
 Ct l Z consts_1 mN34 cN32 2 (some .boolean) ⟨3, 0, 0, 70⟩ #[.ref s, .ref p] h [] (fun rv' hp' so' => rv' = some (.int 0) ∧ so' = []) := by
  refine Ct.mk "java/lang/String" "endsWith" rfl rfl (a0 := a0) (plainFor_of_name opn2) hO hE (fun x q => nomatch q) ?_
  intro K T W
  rw [oef8]
  refine gAloadN W d23_0 rfl rfl rfl ?_
  refine gAloadN W d23_1 rfl rfl rfl ?_
  refine gAloadN W d23_2 rfl rfl rfl ?_
  refine wVirtual (y := mN11) (z := mN11) (Wd := 2) (a := s) (argsL := []) (rest := [.ref p, .ref s]) W d23_3 (ow133 hw) (ow123 hw) (ow125 hw) (ow124 hw) (nfS (ow125 hw)) (by decide) (Cb.ct (ob_ln4 hw hE s u ku (tx3 v) z h W.old SC hz q2 q3 q4 q5) (ow126 hw) (ow15 hw) hE (by decide) (by decide)) q2 (by simp) rfl (lenOf opd19 rfl) rfl (Nat.le_of_eq rfl) (by decide) (by decide) rfl fun _ _ _ J C A _ L => ?_
  obtain ⟨rfl, rfl⟩ := L
  show Go K _ _ _ _ [.int 4, .ref p, .ref s]
  refine gAloadN C d23_6 rfl rfl rfl ?_
  have D := q6.keep A
  have F := q7.keep A nin0
  have G := q8.keep A nin0
  have H := q9.keep A nin0
  refine wVirtual (y := mN11) (z := mN11) (Wd := 3) (a := p) (argsL := []) (rest := [.int 4, .ref p, .ref s]) C d23_7 (ow133 hw) (ow123 hw) (ow125 hw) (ow124 hw) (nfS (ow125 hw)) (by decide) (Cb.ct (ob_ln2 hw hE p up kp [.int 61, .int 61] z J C.old SC hz D F G H) (ow126 hw) (ow15 hw) hE (by decide) (by decide)) D (by simp) rfl (lenOf opd19 rfl) rfl (Nat.le_of_eq rfl) (by decide) (by decide) rfl fun _ _ _ M E B _ N => ?_
  obtain ⟨rfl, rfl⟩ := N
  show Go K _ _ _ _ [.int 2, .int 4, .ref p, .ref s]
  refine gIsub (z := 2) E d23_10 (by decide) rfl ?_
  have O := q2.keep A
  have I := O.keep B
  have P := q3.keep A nin0
  have Q := P.keep B nin0
  have R := q4.keep A nin0
  have S := R.keep B nin0
  have U := q5.keep A nin0
  have V := U.keep B nin0
  have X := D.keep B
  have Y := F.keep B nin0
  have Aa := G.keep B nin0
  have Ab := H.keep B nin0
  refine wVirtual (y := mN33) (z := mN33) (Wd := 0) (a := s) (argsL := [.ref p, .int 2]) (rest := []) E d23_11 (ow134 hw) (ow135 hw) (ow137 hw) (ow136 hw) (nfS (ow137 hw)) (by decide) (Cb.ct (ob_sw32 hw hE s u ku p up kp z v M E.old SC hz I Q S V X Y Aa Ab) (ow138 hw) (ow15 hw) hE (by decide) (by decide)) I (by simp) rfl (lenOf opd20 rfl) rfl (Nat.le_of_eq rfl) (by decide) (by decide) rfl fun _ _ _ _ Ac _ _ Ad => ?_
  obtain ⟨rfl, rfl⟩ := Ad
  show Go K _ _ _ _ [.int 0]
  exact wRetI (so := []) (t := .boolean) Ac d23_14 (by simp) rfl (by decide) (by decide) (fun _ q => nomatch q) ⟨rfl, rfl⟩
theorem ob_mm31 (hw : TH a0 Z) (hE : EW Z a0 consts_1) (u : Addr) (ku : ClassId) (up : Addr) (kp : ClassId) (v : Nat) (h : Heap) (hO : Ol Z h) (q0 : Arv Z h u ku .byte 4 (tx3 v) (.int 0)) (q1 : Arv Z h up kp .byte 1 [.int 61] (.int 0)) :
 Ct l Z consts_1 mN36 cN34 8 (some .int) ⟨0, 0, 0, 0⟩ #[.ref u, .int 3, .ref up, .int 0, .int 1] h [] (fun rv' hp' so' => rv' = some (.int 0) ∧ so' = []) := by
  refine Ct.mk "jdk/internal/util/ArraysSupport" "mismatch" rfl rfl (a0 := a0) (plainFor_of_name opn7) hO hE (fun x q => nomatch q) ?_
  intro K T W
  rw [oef23]
  refine gIconst (z := 0) W d25_0 rfl rfl ?_
  refine gIstore (ls' := #[aR u, aI 3, aR up, aI 0, aI 1, aI 0, aU, aU]) W d25_1 rfl rfl ?_
  refine gIload W d25_3 rfl rfl ?_
  refine gBipush (z := 7) W d25_5 rfl rfl ?_
  refine gIcmpYes (pc' := 70) W d25_7 (flt (by decide)).2.2.2 (by decide) rfl ?_
  refine gIload W d25_70 rfl rfl ?_
  refine gIload W d25_72 rfl rfl ?_
  refine gIcmpNo W d25_74 (tlt (by decide)).2.1 rfl ?_
  refine gAloadN W d25_77 rfl rfl rfl ?_
  refine gIloadN W d25_78 rfl rfl ?_
  refine gIload W d25_79 rfl rfl ?_
  refine gIadd (z := 3) W d25_81 (by decide) rfl ?_
  refine wLdB (v := (.int (Int32.ofNat (symN (sx3 v))))) W d25_82 q0 (by decide) rfl rfl ?_
  refine gAloadN W d25_83 rfl rfl rfl ?_
  refine gIloadN W d25_84 rfl rfl ?_
  refine gIload W d25_85 rfl rfl ?_
  refine gIadd (z := 0) W d25_87 (by decide) rfl ?_
  refine wLdB (v := (.int 61)) W d25_88 q1 (by decide) rfl rfl ?_
  refine gIcmpNo W d25_89 (feq (fun q => symN_61 (ofNat_inj (b := 61) (Nat.lt_of_le_of_lt (symN_le _) (by decide)) (by decide) q))).1 rfl ?_
  refine gIload W d25_92 rfl rfl ?_
  exact wRetI (so := []) (t := .int) W d25_94 (by simp) rfl (by decide) (by decide) (fun _ q => nomatch q) ⟨rfl, rfl⟩
theorem ob_sw31 (hw : TH a0 Z) (hE : EW Z a0 consts_1) (s u : Addr) (ku : ClassId) (p up : Addr) (kp : ClassId) (z : Int32) (v : Nat) (h : Heap) (hO : Ol Z h) (SC : (PSC Z z)) (hz : (¬ z = 0)) (q2 : Exa Z h s "java/lang/String") (q3 : Fld Z h s "java/lang/String" "value" "[B" (.ref u)) (q4 : Fld Z h s "java/lang/String" "coder" "B" (.int 0)) (q5 : Arv Z h u ku .byte 4 (tx3 v) (.int 0)) (q6 : Exa Z h p "java/lang/String") (q7 : Fld Z h p "java/lang/String" "value" "[B" (.ref up)) (q8 : Fld Z h p "java/lang/String" "coder" "B" (.int 0)) (q9 : Arv Z h up kp .byte 1 [.int 61] (.int 0)) :
 Ct l Z consts_1 mN33 cN31 8 (some .boolean) ⟨2, 0, 0, 40⟩ #[.ref s, .ref p, .int 3] h [] (fun rv' hp' so' => rv' = some (.int 0) ∧ so' = []) := by
  refine Ct.mk "java/lang/String" "startsWith" rfl rfl (a0 := a0) (plainFor_of_name opn2) hO hE (fun x q => nomatch q) ?_
  intro K T W
  rw [oef21]
  refine gIloadN W d24_0 rfl rfl ?_
  refine gIfNo W d24_1 ((if0 _ _).trans (flt (by decide)).1) rfl ?_
  refine gIloadN W d24_4 rfl rfl ?_
  refine gAloadN W d24_5 rfl rfl rfl ?_
  refine wVirtual (y := mN11) (z := mN11) (Wd := 1) (a := s) (argsL := []) (rest := [.int 3]) W d24_6 (ow133 hw) (ow123 hw) (ow125 hw) (ow124 hw) (nfS (ow125 hw)) (by decide) (Cb.ct (ob_ln4 hw hE s u ku (tx3 v) z h W.old SC hz q2 q3 q4 q5) (ow126 hw) (ow15 hw) hE (by decide) (by decide)) q2 (by simp) rfl (lenOf opd19 rfl) rfl (Nat.le_of_eq rfl) (by decide) (by decide) rfl fun _ _ _ R H C _ S => ?_
  obtain ⟨rfl, rfl⟩ := S
  show Go K _ _ _ _ [.int 4, .int 3]
  refine gAloadN H d24_9 rfl rfl rfl ?_
  have I := q6.keep C
  have M := q7.keep C nin0
  have N := q8.keep C nin0
  have O := q9.keep C nin0
  refine wVirtual (y := mN11) (z := mN11) (Wd := 2) (a := p) (argsL := []) (rest := [.int 4, .int 3]) H d24_10 (ow133 hw) (ow123 hw) (ow125 hw) (ow124 hw) (nfS (ow125 hw)) (by decide) (Cb.ct (ob_ln1 hw hE p up kp [.int 61] z R H.old SC hz I M N O) (ow126 hw) (ow15 hw) hE (by decide) (by decide)) I (by simp) rfl (lenOf opd19 rfl) rfl (Nat.le_of_eq rfl) (by decide) (by decide) rfl fun _ _ _ U F D _ V => ?_
  obtain ⟨rfl, rfl⟩ := V
  show Go K _ _ _ _ [.int 1, .int 4, .int 3]
  refine gIsub (z := 3) F d24_13 (by decide) rfl ?_
  refine gIcmpYes (pc' := 19) F d24_14 (flt (by decide)).2.2.2 (by decide) rfl ?_
  refine gAloadN F d24_19 rfl rfl rfl ?_
  have X := q3.keep C nin0
  have Y := X.keep D nin0
  refine wGetF F d24_20 (ow39 hw) Via.refl Y rfl fun _ J => ?_
  refine gAstoreN (ls' := #[aR s, aR p, aI 3, aR u, aU, aU, aU, aU]) J d24_23 rfl rfl rfl ?_
  refine gAloadN J d24_24 rfl rfl rfl ?_
  have Aa := M.keep D nin0
  refine wGetF J d24_25 (ow39 hw) Via.refl Aa rfl fun _ B => ?_
  refine gAstore (ls' := #[aR s, aR p, aI 3, aR u, aR up, aU, aU, aU]) B d24_28 rfl rfl rfl ?_
  refine gIconst (z := 0) B d24_30 rfl rfl ?_
  refine gIstore (ls' := #[aR s, aR p, aI 3, aR u, aR up, aI 0, aU, aU]) B d24_31 rfl rfl ?_
  refine gAload B d24_33 rfl rfl rfl ?_
  have P := O.keep D nin0
  refine wLen B d24_35 P rfl ?_
  refine gIstore (ls' := #[aR s, aR p, aI 3, aR u, aR up, aI 0, aI 1, aU]) B d24_36 rfl rfl ?_
  refine gAloadN B d24_38 rfl rfl rfl ?_
  have Ab := q4.keep C nin0
  have Ac := Ab.keep D nin0
  have Ad := q2.keep C
  have Ae := Ad.keep D
  refine wVirtual (y := mN10) (z := mN10) (Wd := 0) (a := s) (argsL := []) (rest := []) B d24_39 (ow71 hw) (ow72 hw) (ow74 hw) (ow73 hw) (nfS (ow74 hw)) (by decide) (Cb.ct (ob_co hw hE s z U B.old SC hz Ac) (ow75 hw) (ow15 hw) hE (by decide) (by decide)) Ae (by simp) rfl (lenOf opd5 rfl) rfl (Nat.le_of_eq rfl) (by decide) (by decide) rfl fun _ _ _ Af E G _ Ag => ?_
  obtain ⟨rfl, rfl⟩ := Ag
  show Go K _ _ _ _ [.int 0]
  refine gIstore (ls' := #[aR s, aR p, aI 3, aR u, aR up, aI 0, aI 1, aI 0]) E d24_42 rfl rfl ?_
  refine gIload E d24_44 rfl rfl ?_
  refine gAloadN E d24_46 rfl rfl rfl ?_
  have Ah := N.keep D nin0
  have Ai := Ah.keep G nin0
  have Aj := I.keep D
  have Ak := Aj.keep G
  refine wVirtual (y := mN10) (z := mN10) (Wd := 1) (a := p) (argsL := []) (rest := [.int 0]) E d24_47 (ow71 hw) (ow72 hw) (ow74 hw) (ow73 hw) (nfS (ow74 hw)) (by decide) (Cb.ct (ob_co hw hE p z Af E.old SC hz Ai) (ow75 hw) (ow15 hw) hE (by decide) (by decide)) Ak (by simp) rfl (lenOf opd5 rfl) rfl (Nat.le_of_eq rfl) (by decide) (by decide) rfl fun _ _ _ Al A Q _ Am => ?_
  obtain ⟨rfl, rfl⟩ := Am
  show Go K _ _ _ _ [.int 0, .int 0]
  refine gIcmpNo A d24_50 (teq (by decide)).2 rfl ?_
  refine gIload A d24_53 rfl rfl ?_
  refine gIconst (z := 1) A d24_55 rfl rfl ?_
  refine gIcmpYes (pc' := 63) A d24_56 (feq (by decide)).2 (by decide) rfl ?_
  refine gAloadN A d24_63 rfl rfl rfl ?_
  refine gIloadN A d24_64 rfl rfl ?_
  refine gAload A d24_65 rfl rfl rfl ?_
  refine gIconst (z := 0) A d24_67 rfl rfl ?_
  refine gIload A d24_68 rfl rfl ?_
  have An := q5.keep C nin0
  have Ao := An.keep D nin0
  have Ap := Ao.keep G nin0
  have Aq := Ap.keep Q nin0
  have Ar := P.keep G nin0
  have As := Ar.keep Q nin0
  refine wStatic (y := mN36) (Wd := 0) (argsL := [.ref u, .int 3, .ref up, .int 0, .int 1]) (rest := []) A d24_70 (ow139 hw) (ow140 hw) (ow141 hw) (ow142 hw) (by decide) (Cb.ct (ob_mm31 hw hE u ku up kp v Al A.old Aq As) (ow142 hw) (ow141 hw) hE (by decide) (by decide)) (by simp) rfl (lenOf opd22 rfl) rfl (Nat.le_of_eq rfl) (by decide) (by decide) rfl fun _ _ _ _ L _ _ At => ?_
  obtain ⟨rfl, rfl⟩ := At
  show Go K _ _ _ _ [.int 0]
  refine gIfYes (pc' := 80) L d24_73 ((if0 _ _).trans (flt (by decide)).2.1) (by decide) rfl ?_
  refine gIconst (z := 0) L d24_80 rfl rfl ?_
  exact wRetI (so := []) (t := .boolean) L d24_81 (by simp) rfl (by decide) (by decide) (fun _ q => nomatch q) ⟨rfl, rfl⟩
theorem ob_ew31 (hw : TH a0 Z) (hE : EW Z a0 consts_1) (s u : Addr) (ku : ClassId) (p up : Addr) (kp : ClassId) (z : Int32) (v : Nat) (h : Heap) (hO : Ol Z h) (SC : (PSC Z z)) (hz : (¬ z = 0)) (q2 : Exa Z h s "java/lang/String") (q3 : Fld Z h s "java/lang/String" "value" "[B" (.ref u)) (q4 : Fld Z h s "java/lang/String" "coder" "B" (.int 0)) (q5 : Arv Z h u ku .byte 4 (tx3 v) (.int 0)) (q6 : Exa Z h p "java/lang/String") (q7 : Fld Z h p "java/lang/String" "value" "[B" (.ref up)) (q8 : Fld Z h p "java/lang/String" "coder" "B" (.int 0)) (q9 : Arv Z h up kp .byte 1 [.int 61] (.int 0)) :
 Ct l Z consts_1 mN34 cN32 2 (some .boolean) ⟨3, 0, 0, 70⟩ #[.ref s, .ref p] h [] (fun rv' hp' so' => rv' = some (.int 0) ∧ so' = []) := by
  refine Ct.mk "java/lang/String" "endsWith" rfl rfl (a0 := a0) (plainFor_of_name opn2) hO hE (fun x q => nomatch q) ?_
  intro K T W
  rw [oef8]
  refine gAloadN W d23_0 rfl rfl rfl ?_
  refine gAloadN W d23_1 rfl rfl rfl ?_
  refine gAloadN W d23_2 rfl rfl rfl ?_
  refine wVirtual (y := mN11) (z := mN11) (Wd := 2) (a := s) (argsL := []) (rest := [.ref p, .ref s]) W d23_3 (ow133 hw) (ow123 hw) (ow125 hw) (ow124 hw) (nfS (ow125 hw)) (by decide) (Cb.ct (ob_ln4 hw hE s u ku (tx3 v) z h W.old SC hz q2 q3 q4 q5) (ow126 hw) (ow15 hw) hE (by decide) (by decide)) q2 (by simp) rfl (lenOf opd19 rfl) rfl (Nat.le_of_eq rfl) (by decide) (by decide) rfl fun _ _ _ J C A _ L => ?_
  obtain ⟨rfl, rfl⟩ := L
  show Go K _ _ _ _ [.int 4, .ref p, .ref s]
  refine gAloadN C d23_6 rfl rfl rfl ?_
  have D := q6.keep A
  have F := q7.keep A nin0
  have G := q8.keep A nin0
  have H := q9.keep A nin0
  refine wVirtual (y := mN11) (z := mN11) (Wd := 3) (a := p) (argsL := []) (rest := [.int 4, .ref p, .ref s]) C d23_7 (ow133 hw) (ow123 hw) (ow125 hw) (ow124 hw) (nfS (ow125 hw)) (by decide) (Cb.ct (ob_ln1 hw hE p up kp [.int 61] z J C.old SC hz D F G H) (ow126 hw) (ow15 hw) hE (by decide) (by decide)) D (by simp) rfl (lenOf opd19 rfl) rfl (Nat.le_of_eq rfl) (by decide) (by decide) rfl fun _ _ _ M E B _ N => ?_
  obtain ⟨rfl, rfl⟩ := N
  show Go K _ _ _ _ [.int 1, .int 4, .ref p, .ref s]
  refine gIsub (z := 3) E d23_10 (by decide) rfl ?_
  have O := q2.keep A
  have I := O.keep B
  have P := q3.keep A nin0
  have Q := P.keep B nin0
  have R := q4.keep A nin0
  have S := R.keep B nin0
  have U := q5.keep A nin0
  have V := U.keep B nin0
  have X := D.keep B
  have Y := F.keep B nin0
  have Aa := G.keep B nin0
  have Ab := H.keep B nin0
  refine wVirtual (y := mN33) (z := mN33) (Wd := 0) (a := s) (argsL := [.ref p, .int 3]) (rest := []) E d23_11 (ow134 hw) (ow135 hw) (ow137 hw) (ow136 hw) (nfS (ow137 hw)) (by decide) (Cb.ct (ob_sw31 hw hE s u ku p up kp z v M E.old SC hz I Q S V X Y Aa Ab) (ow138 hw) (ow15 hw) hE (by decide) (by decide)) I (by simp) rfl (lenOf opd20 rfl) rfl (Nat.le_of_eq rfl) (by decide) (by decide) rfl fun _ _ _ _ Ac _ _ Ad => ?_
  obtain ⟨rfl, rfl⟩ := Ad
  show Go K _ _ _ _ [.int 0]
  exact wRetI (so := []) (t := .boolean) Ac d23_14 (by simp) rfl (by decide) (by decide) (fun _ q => nomatch q) ⟨rfl, rfl⟩
theorem ob_is3 (hw : TH a0 Z) (hE : EW Z a0 consts_1) (s u : Addr) (ku : ClassId) (z : Int32) (fm : Value) (v : Nat) (h : Heap) (hO : Ol Z h) (SC : (PSC Z z)) (hz : (¬ z = 0)) (SF : (PSF Z fm)) (rf : (fm.isRef = true)) (q4 : Exa Z h s "java/lang/String") (q5 : Fld Z h s "java/lang/String" "value" "[B" (.ref u)) (q6 : Fld Z h s "java/lang/String" "coder" "B" (.int 0)) (q7 : Arv Z h u ku .byte 4 (tx3 v) (.int 0)) (hv : (v < 16777216)) :
 Ct l Z consts_1 mN35 cN33 4 (some .boolean) ⟨4, 6, 300, 95⟩ #[.ref s] h [] (fun rv' hp' so' => rv' = some (.int 1) ∧ so' = []) := by
  refine Ct.mk "com/example/drafts_under_key/draftsunderkey/crypto/StrictBase64" "isCanonical" rfl rfl (a0 := a0) (plainFor_of_name opn6) hO hE (fun x q => nomatch q) ?_
  intro K T W
  rw [oef22]
  refine gAloadN W d21_0 rfl rfl rfl ?_
  refine wVirtual (y := mN11) (z := mN11) (Wd := 0) (a := s) (argsL := []) (rest := []) W d21_1 (ow122 hw) (ow123 hw) (ow125 hw) (ow124 hw) (nfS (ow125 hw)) (by decide) (Cb.ct (ob_ln4 hw hE s u ku (tx3 v) z h W.old SC hz q4 q5 q6 q7) (ow126 hw) (ow15 hw) hE (by decide) (by decide)) q4 (by simp) rfl (lenOf opd19 rfl) rfl (Nat.le_of_eq rfl) (by decide) (by decide) rfl fun _ _ _ _ B C _ Aa => ?_
  obtain ⟨rfl, rfl⟩ := Aa
  show Go K _ _ _ _ [.int 4]
  refine gIconst (z := 4) B d21_4 rfl rfl ?_
  refine gIrem (z := 0) B d21_5 (by decide) (by decide) rfl ?_
  refine gIfYes (pc' := 11) B d21_6 ((if0 _ _).trans (teq (by decide)).1) (by decide) rfl ?_
  refine gAloadN B d21_11 rfl rfl rfl ?_
  refine wLdcS (vs := [.int 61, .int 61]) (z := 2) (n := 8) B d21_12 (ow127 hw) (owS hw) hE (by decide) (by decide) (by decide) (by decide) (by decide) (by decide) (by decide) (by decide) rfl fun _ I J L M N D Ab Ac Ad Ae _ => ?_
  have Af : Arv Z I L M .byte 2 [.int 61, .int 61] (.int 0) := Ae
  have Ag := q4.keep C
  have G := Ag.ext D
  have Ah := q5.keep C nin0
  have O := Ah.ext D
  have Ai := q6.keep C nin0
  have P := Ai.ext D
  have Aj := q7.keep C nin0
  have Q := Aj.ext D
  refine wVirtual (y := mN34) (z := mN34) (Wd := 0) (a := s) (argsL := [.ref J]) (rest := []) N d21_14 (ow128 hw) (ow129 hw) (ow131 hw) (ow130 hw) (nfS (ow131 hw)) (by decide) (Cb.ct (ob_ew32 hw hE s u ku J L M z v I N.old SC hz G O P Q Ab Ad Ac Af) (ow132 hw) (ow15 hw) hE (by decide) (by decide)) G (by simp) rfl (lenOf opd21 rfl) rfl (Nat.le_of_eq rfl) (by decide) (by decide) rfl fun _ _ _ _ H E _ Ak => ?_
  obtain ⟨rfl, rfl⟩ := Ak
  show Go K _ _ _ _ [.int 0]
  refine gIfYes (pc' := 24) H d21_17 ((if0 _ _).trans (teq (by decide)).1) (by decide) rfl ?_
  refine gAloadN H d21_24 rfl rfl rfl ?_
  refine wLdcS (vs := [.int 61]) (z := 1) (n := 4) H d21_25 (ow143 hw) (owS hw) hE (by decide) (by decide) (by decide) (by decide) (by decide) (by decide) (by decide) (by decide) rfl fun _ R S U V X F Al Am An Ao _ => ?_
  have Ap : Arv Z R U V .byte 1 [.int 61] (.int 0) := Ao
  have Aq := G.keep E
  have Y := Aq.ext F
  have Ar := O.keep E nin0
  have As := Ar.ext F
  have At := P.keep E nin0
  have Au := At.ext F
  have Av := Q.keep E nin0
  have Aw := Av.ext F
  refine wVirtual (y := mN34) (z := mN34) (Wd := 0) (a := s) (argsL := [.ref S]) (rest := []) X d21_27 (ow128 hw) (ow129 hw) (ow131 hw) (ow130 hw) (nfS (ow131 hw)) (by decide) (Cb.ct (ob_ew31 hw hE s u ku S U V z v R X.old SC hz Y As Au Aw Al An Am Ap) (ow132 hw) (ow15 hw) hE (by decide) (by decide)) Y (by simp) rfl (lenOf opd21 rfl) rfl (Nat.le_of_eq rfl) (by decide) (by decide) rfl fun _ _ _ _ A _ _ Ax => ?_
  obtain ⟨rfl, rfl⟩ := Ax
  show Go K _ _ _ _ [.int 0]
  refine gIfYes (pc' := 37) A d21_30 ((if0 _ _).trans (teq (by decide)).1) (by decide) rfl ?_
  refine gIconst (z := 0) A d21_37 rfl rfl ?_
  refine gIstoreN (ls' := #[aR s, aI 0, aU, aU]) A d21_38 rfl rfl ?_
  refine gIloadN A d21_39 rfl rfl ?_
  refine gIfNo A d21_40 ((if0 _ _).trans (teq (by decide)).2) rfl ?_
  refine gIconst (z := 1) A d21_43 rfl rfl ?_
  exact wRetI (so := []) (t := .boolean) A d21_44 (by simp) rfl (by decide) (by decide) (fun _ q => nomatch q) ⟨rfl, rfl⟩
theorem ob_mm42 (hw : TH a0 Z) (hE : EW Z a0 consts_1) (u : Addr) (ku : ClassId) (up : Addr) (kp : ClassId) (v g : Nat) (h : Heap) (hO : Ol Z h) (q0 : Arv Z h u ku .byte 8 (tx4 v g) (.int 0)) (q1 : Arv Z h up kp .byte 2 [.int 61, .int 61] (.int 0)) :
 Ct l Z consts_1 mN36 cN34 8 (some .int) ⟨0, 0, 0, 0⟩ #[.ref u, .int 6, .ref up, .int 0, .int 2] h [] (fun rv' hp' so' => rv' = some (.int (-1)) ∧ so' = []) := by
  refine Ct.mk "jdk/internal/util/ArraysSupport" "mismatch" rfl rfl (a0 := a0) (plainFor_of_name opn7) hO hE (fun x q => nomatch q) ?_
  intro K T W
  rw [oef23]
  refine gIconst (z := 0) W d25_0 rfl rfl ?_
  refine gIstore (ls' := #[aR u, aI 6, aR up, aI 0, aI 2, aI 0, aU, aU]) W d25_1 rfl rfl ?_
  refine gIload W d25_3 rfl rfl ?_
  refine gBipush (z := 7) W d25_5 rfl rfl ?_
  refine gIcmpYes (pc' := 70) W d25_7 (flt (by decide)).2.2.2 (by decide) rfl ?_
  refine gIload W d25_70 rfl rfl ?_
  refine gIload W d25_72 rfl rfl ?_
  refine gIcmpNo W d25_74 (tlt (by decide)).2.1 rfl ?_
  refine gAloadN W d25_77 rfl rfl rfl ?_
  refine gIloadN W d25_78 rfl rfl ?_
  refine gIload W d25_79 rfl rfl ?_
  refine gIadd (z := 6) W d25_81 (by decide) rfl ?_
  refine wLdB (v := (.int 61)) W d25_82 q0 (by decide) rfl rfl ?_
  refine gAloadN W d25_83 rfl rfl rfl ?_
  refine gIloadN W d25_84 rfl rfl ?_
  refine gIload W d25_85 rfl rfl ?_
  refine gIadd (z := 0) W d25_87 (by decide) rfl ?_
  refine wLdB (v := (.int 61)) W d25_88 q1 (by decide) rfl rfl ?_
  refine gIcmpYes (pc' := 95) W d25_89 (teq (by decide)).1 (by decide) rfl ?_
  refine gIinc (z := 1) (ls' := #[aR u, aI 6, aR up, aI 0, aI 2, aI 1, aU, aU]) W d25_95 rfl (by decide) rfl rfl ?_
  refine gGoto (pc' := 70) W d25_98 (by decide) rfl ?_
  refine gIload W d25_70 rfl rfl ?_
  refine gIload W d25_72 rfl rfl ?_
  refine gIcmpNo W d25_74 (tlt (by decide)).2.1 rfl ?_
  refine gAloadN W d25_77 rfl rfl rfl ?_
  refine gIloadN W d25_78 rfl rfl ?_
  refine gIload W d25_79 rfl rfl ?_
  refine gIadd (z := 7) W d25_81 (by decide) rfl ?_
  refine wLdB (v := (.int 61)) W d25_82 q0 (by decide) rfl rfl ?_
  refine gAloadN W d25_83 rfl rfl rfl ?_
  refine gIloadN W d25_84 rfl rfl ?_
  refine gIload W d25_85 rfl rfl ?_
  refine gIadd (z := 1) W d25_87 (by decide) rfl ?_
  refine wLdB (v := (.int 61)) W d25_88 q1 (by decide) rfl rfl ?_
  refine gIcmpYes (pc' := 95) W d25_89 (teq (by decide)).1 (by decide) rfl ?_
  refine gIinc (z := 2) (ls' := #[aR u, aI 6, aR up, aI 0, aI 2, aI 2, aU, aU]) W d25_95 rfl (by decide) rfl rfl ?_
  refine gGoto (pc' := 70) W d25_98 (by decide) rfl ?_
  refine gIload W d25_70 rfl rfl ?_
  refine gIload W d25_72 rfl rfl ?_
  refine gIcmpYes (pc' := 101) W d25_74 (flt (by decide)).2.1 (by decide) rfl ?_
  refine gIconst (z := (-1)) W d25_101 rfl rfl ?_
  exact wRetI (so := []) (t := .int) W d25_102 (by simp) rfl (by decide) (by decide) (fun _ q => nomatch q) ⟨rfl, rfl⟩
theorem ob_sw42 (hw : TH a0 Z) (hE : EW Z a0 consts_1) (s u : Addr) (ku : ClassId) (p up : Addr) (kp : ClassId) (z : Int32) (v g : Nat) (h : Heap) (hO : Ol Z h) (SC : (PSC Z z)) (hz : (¬ z = 0)) (q2 : Exa Z h s "java/lang/String") (q3 : Fld Z h s "java/lang/String" "value" "[B" (.ref u)) (q4 : Fld Z h s "java/lang/String" "coder" "B" (.int 0)) (q5 : Arv Z h u ku .byte 8 (tx4 v g) (.int 0)) (q6 : Exa Z h p "java/lang/String") (q7 : Fld Z h p "java/lang/String" "value" "[B" (.ref up)) (q8 : Fld Z h p "java/lang/String" "coder" "B" (.int 0)) (q9 : Arv Z h up kp .byte 2 [.int 61, .int 61] (.int 0)) :
 Ct l Z consts_1 mN33 cN31 8 (some .boolean) ⟨2, 0, 0, 40⟩ #[.ref s, .ref p, .int 6] h [] (fun rv' hp' so' => rv' = some (.int 1) ∧ so' = []) := by
  refine Ct.mk "java/lang/String" "startsWith" rfl rfl (a0 := a0) (plainFor_of_name opn2) hO hE (fun x q => nomatch q) ?_
  intro K T W
  rw [oef21]
  refine gIloadN W d24_0 rfl rfl ?_
  refine gIfNo W d24_1 ((if0 _ _).trans (flt (by decide)).1) rfl ?_
  refine gIloadN W d24_4 rfl rfl ?_
  refine gAloadN W d24_5 rfl rfl rfl ?_
  refine wVirtual (y := mN11) (z := mN11) (Wd := 1) (a := s) (argsL := []) (rest := [.int 6]) W d24_6 (ow133 hw) (ow123 hw) (ow125 hw) (ow124 hw) (nfS (ow125 hw)) (by decide) (Cb.ct (ob_ln8 hw hE s u ku (tx4 v g) z h W.old SC hz q2 q3 q4 q5) (ow126 hw) (ow15 hw) hE (by decide) (by decide)) q2 (by simp) rfl (lenOf opd19 rfl) rfl (Nat.le_of_eq rfl) (by decide) (by decide) rfl fun _ _ _ R I C _ S => ?_
  obtain ⟨rfl, rfl⟩ := S
  show Go K _ _ _ _ [.int 8, .int 6]
  refine gAloadN I d24_9 rfl rfl rfl ?_
  have J := q6.keep C
  have M := q7.keep C nin0
  have N := q8.keep C nin0
  have O := q9.keep C nin0
  refine wVirtual (y := mN11) (z := mN11) (Wd := 2) (a := p) (argsL := []) (rest := [.int 8, .int 6]) I d24_10 (ow133 hw) (ow123 hw) (ow125 hw) (ow124 hw) (nfS (ow125 hw)) (by decide) (Cb.ct (ob_ln2 hw hE p up kp [.int 61, .int 61] z R I.old SC hz J M N O) (ow126 hw) (ow15 hw) hE (by decide) (by decide)) J (by simp) rfl (lenOf opd19 rfl) rfl (Nat.le_of_eq rfl) (by decide) (by decide) rfl fun _ _ _ U F D _ V => ?_
  obtain ⟨rfl, rfl⟩ := V
  show Go K _ _ _ _ [.int 2, .int 8, .int 6]
  refine gIsub (z := 6) F d24_13 (by decide) rfl ?_
  refine gIcmpYes (pc' := 19) F d24_14 (flt (by decide)).2.2.2 (by decide) rfl ?_
  refine gAloadN F d24_19 rfl rfl rfl ?_
  have X := q3.keep C nin0
  have Y := X.keep D nin0
  refine wGetF F d24_20 (ow39 hw) Via.refl Y rfl fun _ L => ?_
  refine gAstoreN (ls' := #[aR s, aR p, aI 6, aR u, aU, aU, aU, aU]) L d24_23 rfl rfl rfl ?_
  refine gAloadN L d24_24 rfl rfl rfl ?_
  have Aa := M.keep D nin0
  refine wGetF L d24_25 (ow39 hw) Via.refl Aa rfl fun _ B => ?_
  refine gAstore (ls' := #[aR s, aR p, aI 6, aR u, aR up, aU, aU, aU]) B d24_28 rfl rfl rfl ?_
  refine gIconst (z := 0) B d24_30 rfl rfl ?_
  refine gIstore (ls' := #[aR s, aR p, aI 6, aR u, aR up, aI 0, aU, aU]) B d24_31 rfl rfl ?_
  refine gAload B d24_33 rfl rfl rfl ?_
  have P := O.keep D nin0
  refine wLen B d24_35 P rfl ?_
  refine gIstore (ls' := #[aR s, aR p, aI 6, aR u, aR up, aI 0, aI 2, aU]) B d24_36 rfl rfl ?_
  refine gAloadN B d24_38 rfl rfl rfl ?_
  have Ab := q4.keep C nin0
  have Ac := Ab.keep D nin0
  have Ad := q2.keep C
  have Ae := Ad.keep D
  refine wVirtual (y := mN10) (z := mN10) (Wd := 0) (a := s) (argsL := []) (rest := []) B d24_39 (ow71 hw) (ow72 hw) (ow74 hw) (ow73 hw) (nfS (ow74 hw)) (by decide) (Cb.ct (ob_co hw hE s z U B.old SC hz Ac) (ow75 hw) (ow15 hw) hE (by decide) (by decide)) Ae (by simp) rfl (lenOf opd5 rfl) rfl (Nat.le_of_eq rfl) (by decide) (by decide) rfl fun _ _ _ Af E G _ Ag => ?_
  obtain ⟨rfl, rfl⟩ := Ag
  show Go K _ _ _ _ [.int 0]
  refine gIstore (ls' := #[aR s, aR p, aI 6, aR u, aR up, aI 0, aI 2, aI 0]) E d24_42 rfl rfl ?_
  refine gIload E d24_44 rfl rfl ?_
  refine gAloadN E d24_46 rfl rfl rfl ?_
  have Ah := N.keep D nin0
  have Ai := Ah.keep G nin0
  have Aj := J.keep D
  have Ak := Aj.keep G
  refine wVirtual (y := mN10) (z := mN10) (Wd := 1) (a := p) (argsL := []) (rest := [.int 0]) E d24_47 (ow71 hw) (ow72 hw) (ow74 hw) (ow73 hw) (nfS (ow74 hw)) (by decide) (Cb.ct (ob_co hw hE p z Af E.old SC hz Ai) (ow75 hw) (ow15 hw) hE (by decide) (by decide)) Ak (by simp) rfl (lenOf opd5 rfl) rfl (Nat.le_of_eq rfl) (by decide) (by decide) rfl fun _ _ _ Al A Q _ Am => ?_
  obtain ⟨rfl, rfl⟩ := Am
  show Go K _ _ _ _ [.int 0, .int 0]
  refine gIcmpNo A d24_50 (teq (by decide)).2 rfl ?_
  refine gIload A d24_53 rfl rfl ?_
  refine gIconst (z := 1) A d24_55 rfl rfl ?_
  refine gIcmpYes (pc' := 63) A d24_56 (feq (by decide)).2 (by decide) rfl ?_
  refine gAloadN A d24_63 rfl rfl rfl ?_
  refine gIloadN A d24_64 rfl rfl ?_
  refine gAload A d24_65 rfl rfl rfl ?_
  refine gIconst (z := 0) A d24_67 rfl rfl ?_
  refine gIload A d24_68 rfl rfl ?_
  have An := q5.keep C nin0
  have Ao := An.keep D nin0
  have Ap := Ao.keep G nin0
  have Aq := Ap.keep Q nin0
  have Ar := P.keep G nin0
  have As := Ar.keep Q nin0
  refine wStatic (y := mN36) (Wd := 0) (argsL := [.ref u, .int 6, .ref up, .int 0, .int 2]) (rest := []) A d24_70 (ow139 hw) (ow140 hw) (ow141 hw) (ow142 hw) (by decide) (Cb.ct (ob_mm42 hw hE u ku up kp v g Al A.old Aq As) (ow142 hw) (ow141 hw) hE (by decide) (by decide)) (by simp) rfl (lenOf opd22 rfl) rfl (Nat.le_of_eq rfl) (by decide) (by decide) rfl fun _ _ _ _ H _ _ At => ?_
  obtain ⟨rfl, rfl⟩ := At
  show Go K _ _ _ _ [.int (-1)]
  refine gIfNo H d24_73 ((if0 _ _).trans (tlt (by decide)).2.1) rfl ?_
  refine gIconst (z := 1) H d24_76 rfl rfl ?_
  refine gGoto (pc' := 81) H d24_77 (by decide) rfl ?_
  exact wRetI (so := []) (t := .boolean) H d24_81 (by simp) rfl (by decide) (by decide) (fun _ q => nomatch q) ⟨rfl, rfl⟩
theorem ob_ew42 (hw : TH a0 Z) (hE : EW Z a0 consts_1) (s u : Addr) (ku : ClassId) (p up : Addr) (kp : ClassId) (z : Int32) (v g : Nat) (h : Heap) (hO : Ol Z h) (SC : (PSC Z z)) (hz : (¬ z = 0)) (q2 : Exa Z h s "java/lang/String") (q3 : Fld Z h s "java/lang/String" "value" "[B" (.ref u)) (q4 : Fld Z h s "java/lang/String" "coder" "B" (.int 0)) (q5 : Arv Z h u ku .byte 8 (tx4 v g) (.int 0)) (q6 : Exa Z h p "java/lang/String") (q7 : Fld Z h p "java/lang/String" "value" "[B" (.ref up)) (q8 : Fld Z h p "java/lang/String" "coder" "B" (.int 0)) (q9 : Arv Z h up kp .byte 2 [.int 61, .int 61] (.int 0)) :
 Ct l Z consts_1 mN34 cN32 2 (some .boolean) ⟨3, 0, 0, 70⟩ #[.ref s, .ref p] h [] (fun rv' hp' so' => rv' = some (.int 1) ∧ so' = []) := by
  refine Ct.mk "java/lang/String" "endsWith" rfl rfl (a0 := a0) (plainFor_of_name opn2) hO hE (fun x q => nomatch q) ?_
  intro K T W
  rw [oef8]
  refine gAloadN W d23_0 rfl rfl rfl ?_
  refine gAloadN W d23_1 rfl rfl rfl ?_
  refine gAloadN W d23_2 rfl rfl rfl ?_
  refine wVirtual (y := mN11) (z := mN11) (Wd := 2) (a := s) (argsL := []) (rest := [.ref p, .ref s]) W d23_3 (ow133 hw) (ow123 hw) (ow125 hw) (ow124 hw) (nfS (ow125 hw)) (by decide) (Cb.ct (ob_ln8 hw hE s u ku (tx4 v g) z h W.old SC hz q2 q3 q4 q5) (ow126 hw) (ow15 hw) hE (by decide) (by decide)) q2 (by simp) rfl (lenOf opd19 rfl) rfl (Nat.le_of_eq rfl) (by decide) (by decide) rfl fun _ _ _ J C A _ L => ?_
  obtain ⟨rfl, rfl⟩ := L
  show Go K _ _ _ _ [.int 8, .ref p, .ref s]
  refine gAloadN C d23_6 rfl rfl rfl ?_
  have D := q6.keep A
  have F := q7.keep A nin0
  have G := q8.keep A nin0
  have H := q9.keep A nin0
  refine wVirtual (y := mN11) (z := mN11) (Wd := 3) (a := p) (argsL := []) (rest := [.int 8, .ref p, .ref s]) C d23_7 (ow133 hw) (ow123 hw) (ow125 hw) (ow124 hw) (nfS (ow125 hw)) (by decide) (Cb.ct (ob_ln2 hw hE p up kp [.int 61, .int 61] z J C.old SC hz D F G H) (ow126 hw) (ow15 hw) hE (by decide) (by decide)) D (by simp) rfl (lenOf opd19 rfl) rfl (Nat.le_of_eq rfl) (by decide) (by decide) rfl fun _ _ _ M E B _ N => ?_
  obtain ⟨rfl, rfl⟩ := N
  show Go K _ _ _ _ [.int 2, .int 8, .ref p, .ref s]
  refine gIsub (z := 6) E d23_10 (by decide) rfl ?_
  have O := q2.keep A
  have I := O.keep B
  have P := q3.keep A nin0
  have Q := P.keep B nin0
  have R := q4.keep A nin0
  have S := R.keep B nin0
  have U := q5.keep A nin0
  have V := U.keep B nin0
  have X := D.keep B
  have Y := F.keep B nin0
  have Aa := G.keep B nin0
  have Ab := H.keep B nin0
  refine wVirtual (y := mN33) (z := mN33) (Wd := 0) (a := s) (argsL := [.ref p, .int 6]) (rest := []) E d23_11 (ow134 hw) (ow135 hw) (ow137 hw) (ow136 hw) (nfS (ow137 hw)) (by decide) (Cb.ct (ob_sw42 hw hE s u ku p up kp z v g M E.old SC hz I Q S V X Y Aa Ab) (ow138 hw) (ow15 hw) hE (by decide) (by decide)) I (by simp) rfl (lenOf opd20 rfl) rfl (Nat.le_of_eq rfl) (by decide) (by decide) rfl fun _ _ _ _ Ac _ _ Ad => ?_
  obtain ⟨rfl, rfl⟩ := Ad
  show Go K _ _ _ _ [.int 1]
  exact wRetI (so := []) (t := .boolean) Ac d23_14 (by simp) rfl (by decide) (by decide) (fun _ q => nomatch q) ⟨rfl, rfl⟩
theorem ob_lc4 (hw : TH a0 Z) (hE : EW Z a0 consts_1) (u : Addr) (ku : ClassId) (fm : Value) (v g : Nat) (h : Heap) (hO : Ol Z h) (SF : (PSF Z fm)) (rf : (fm.isRef = true)) (q2 : Arv Z h u ku .byte 8 (tx4 v g) (.int 0)) :
 Ct l Z consts_1 mN37 cN35 2 (some .char) ⟨2, 0, 0, 34⟩ #[.ref u, .int 5] h [] (fun rv' hp' so' => rv' = some (.int (Int32.ofNat (symN (sx1 g)))) ∧ so' = []) := by
  refine Ct.mk "java/lang/StringLatin1" "charAt" rfl rfl (a0 := a0) (plainFor_of_name opn5) hO hE (fun x q => nomatch q) ?_
  intro K T W
  rw [oef6]
  refine gIloadN W d28_0 rfl rfl ?_
  refine gAloadN W d28_1 rfl rfl rfl ?_
  refine wLen W d28_2 q2 rfl ?_
  refine wStatic (y := mN24) (Wd := 0) (argsL := [.int 5, .int 8]) (rest := []) W d28_3 (ow159 hw) (ow160 hw) (ow15 hw) (ow161 hw) (by decide) (Cb.ct (ob_ck hw hE 5 8 fm h W.old (by decide) (by decide) SF rf) (ow161 hw) (ow15 hw) hE (by decide) (by decide)) (by simp) rfl (lenOf opd23 rfl) rfl (Nat.le_of_eq rfl) (by decide) (by decide) rfl fun _ _ _ _ A B _ C => ?_
  obtain ⟨rfl, rfl⟩ := C
  show Go K _ _ _ _ []
  refine gAloadN A d28_6 rfl rfl rfl ?_
  refine gIloadN A d28_7 rfl rfl ?_
  have D := q2.keep B nin0
  refine wLdB (v := (.int (Int32.ofNat (symN (sx1 g))))) A d28_8 D (by decide) rfl rfl ?_
  refine gSipush (z := 255) A d28_9 rfl rfl ?_
  refine gIand (z := (Int32.ofNat (symN (sx1 g)))) A d28_12 (b8_of (symN_le _)).mask rfl ?_
  refine gI2C (z := (Int32.ofNat (symN (sx1 g)))) A d28_13 (b8_of (symN_le _)).i2c' rfl ?_
  exact wRetI (so := []) (t := .char) A d28_14 (by simp) (by show Value.int (nar .char (Int32.ofNat (symN (sx1 g)))) = _; rw [(b8_of (symN_le _)).nar]) (by decide) (by decide) (fun _ q => nomatch q) ⟨rfl, rfl⟩
theorem ob_ch4 (hw : TH a0 Z) (hE : EW Z a0 consts_1) (s u : Addr) (ku : ClassId) (z : Int32) (fm : Value) (v g : Nat) (h : Heap) (hO : Ol Z h) (SC : (PSC Z z)) (hz : (¬ z = 0)) (SF : (PSF Z fm)) (rf : (fm.isRef = true)) (q4 : Exa Z h s "java/lang/String") (q5 : Fld Z h s "java/lang/String" "value" "[B" (.ref u)) (q6 : Fld Z h s "java/lang/String" "coder" "B" (.int 0)) (q7 : Arv Z h u ku .byte 8 (tx4 v g) (.int 0)) :
 Ct l Z consts_1 mN38 cN36 2 (some .char) ⟨3, 0, 0, 52⟩ #[.ref s, .int 5] h [] (fun rv' hp' so' => rv' = some (.int (Int32.ofNat (symN (sx1 g)))) ∧ so' = []) := by
  refine Ct.mk "java/lang/String" "charAt" rfl rfl (a0 := a0) (plainFor_of_name opn2) hO hE (fun x q => nomatch q) ?_
  intro K T W
  rw [oef6]
  refine gAloadN W d26_0 rfl rfl rfl ?_
  refine wVirtual (y := mN25) (z := mN25) (Wd := 0) (a := s) (argsL := []) (rest := []) W d26_1 (ow150 hw) (ow151 hw) (ow153 hw) (ow152 hw) (nfS (ow153 hw)) (by decide) (Cb.ct (ob_il hw hE s z h W.old SC hz q6) (ow154 hw) (ow15 hw) hE (by decide) (by decide)) q4 (by simp) rfl (lenOf opd18 rfl) rfl (Nat.le_of_eq rfl) (by decide) (by decide) rfl fun _ _ _ D A C _ E => ?_
  obtain ⟨rfl, rfl⟩ := E
  show Go K _ _ _ _ [.int 1]
  refine gIfNo A d26_4 ((if0 _ _).trans (feq (by decide)).1) rfl ?_
  refine gAloadN A d26_7 rfl rfl rfl ?_
  have F := q5.keep C nin0
  refine wGetF A d26_8 (ow39 hw) Via.refl F rfl fun _ B => ?_
  refine gIloadN B d26_11 rfl rfl ?_
  have G := q7.keep C nin0
  refine wStatic (y := mN37) (Wd := 0) (argsL := [.ref u, .int 5]) (rest := []) B d26_12 (ow155 hw) (ow156 hw) (ow157 hw) (ow158 hw) (by decide) (Cb.ct (ob_lc4 hw hE u ku fm v g D B.old SF rf G) (ow158 hw) (ow157 hw) hE (by decide) (by decide)) (by simp) rfl (lenOf opd24 rfl) rfl (Nat.le_of_eq rfl) (by decide) (by decide) rfl fun _ _ _ _ H _ _ I => ?_
  obtain ⟨rfl, rfl⟩ := I
  show Go K _ _ _ _ [.int (Int32.ofNat (symN (sx1 g)))]
  exact wRetI (so := []) (t := .char) H d26_15 (by simp) (by show Value.int (nar .char (Int32.ofNat (symN (sx1 g)))) = _; rw [(b8_of (symN_le _)).nar]) (by decide) (by decide) (fun _ q => nomatch q) ⟨rfl, rfl⟩
theorem ob_is4 (hw : TH a0 Z) (hE : EW Z a0 consts_1) (s u : Addr) (ku : ClassId) (z : Int32) (fm : Value) (v g : Nat) (h : Heap) (hO : Ol Z h) (SC : (PSC Z z)) (hz : (¬ z = 0)) (SF : (PSF Z fm)) (rf : (fm.isRef = true)) (q4 : Exa Z h s "java/lang/String") (q5 : Fld Z h s "java/lang/String" "value" "[B" (.ref u)) (q6 : Fld Z h s "java/lang/String" "coder" "B" (.int 0)) (q7 : Arv Z h u ku .byte 8 (tx4 v g) (.int 0)) (hv : (v < 16777216)) (hg : (g < 16777216)) (hzg : (g % 65536 = 0)) :
 Ct l Z consts_1 mN35 cN33 4 (some .boolean) ⟨4, 6, 300, 95⟩ #[.ref s] h [] (fun rv' hp' so' => rv' = some (.int 1) ∧ so' = []) := by
  refine Ct.mk "com/example/drafts_under_key/draftsunderkey/crypto/StrictBase64" "isCanonical" rfl rfl (a0 := a0) (plainFor_of_name opn6) hO hE (fun x q => nomatch q) ?_
  intro K T W
  rw [oef22]
  refine gAloadN W d21_0 rfl rfl rfl ?_
  refine wVirtual (y := mN11) (z := mN11) (Wd := 0) (a := s) (argsL := []) (rest := []) W d21_1 (ow122 hw) (ow123 hw) (ow125 hw) (ow124 hw) (nfS (ow125 hw)) (by decide) (Cb.ct (ob_ln8 hw hE s u ku (tx4 v g) z h W.old SC hz q4 q5 q6 q7) (ow126 hw) (ow15 hw) hE (by decide) (by decide)) q4 (by simp) rfl (lenOf opd19 rfl) rfl (Nat.le_of_eq rfl) (by decide) (by decide) rfl fun _ _ _ _ F G _ Aj => ?_
  obtain ⟨rfl, rfl⟩ := Aj
  show Go K _ _ _ _ [.int 8]
  refine gIconst (z := 4) F d21_4 rfl rfl ?_
  refine gIrem (z := 0) F d21_5 (by decide) (by decide) rfl ?_
  refine gIfYes (pc' := 11) F d21_6 ((if0 _ _).trans (teq (by decide)).1) (by decide) rfl ?_
  refine gAloadN F d21_11 rfl rfl rfl ?_
  refine wLdcS (vs := [.int 61, .int 61]) (z := 2) (n := 8) F d21_12 (ow127 hw) (owS hw) hE (by decide) (by decide) (by decide) (by decide) (by decide) (by decide) (by decide) (by decide) rfl fun _ P Q R S U H Ak Al Am An _ => ?_
  have Ao : Arv Z P R S .byte 2 [.int 61, .int 61] (.int 0) := An
  have Ap := q4.keep G
  have N := Ap.ext H
  have Aq := q5.keep G nin0
  have V := Aq.ext H
  have Ar := q6.keep G nin0
  have X := Ar.ext H
  have As := q7.keep G nin0
  have Y := As.ext H
  refine wVirtual (y := mN34) (z := mN34) (Wd := 0) (a := s) (argsL := [.ref Q]) (rest := []) U d21_14 (ow128 hw) (ow129 hw) (ow131 hw) (ow130 hw) (nfS (ow131 hw)) (by decide) (Cb.ct (ob_ew42 hw hE s u ku Q R S z v g P U.old SC hz N V X Y Ak Am Al Ao) (ow132 hw) (ow15 hw) hE (by decide) (by decide)) N (by simp) rfl (lenOf opd21 rfl) rfl (Nat.le_of_eq rfl) (by decide) (by decide) rfl fun _ _ _ _ C I _ At => ?_
  obtain ⟨rfl, rfl⟩ := At
  show Go K _ _ _ _ [.int 1]
  refine gIfNo C d21_17 ((if0 _ _).trans (feq (by decide)).1) rfl ?_
  refine gIconst (z := 2) C d21_20 rfl rfl ?_
  refine gGoto (pc' := 38) C d21_21 (by decide) rfl ?_
  refine gIstoreN (ls' := #[aR s, aI 2, aU, aU]) C d21_38 rfl rfl ?_
  refine gIloadN C d21_39 rfl rfl ?_
  refine gIfYes (pc' := 45) C d21_40 ((if0 _ _).trans (feq (by decide)).2) (by decide) rfl ?_
  refine wLdcS (vs := [.int 65, .int 66, .int 67, .int 68, .int 69, .int 70, .int 71, .int 72, .int 73, .int 74, .int 75, .int 76, .int 77, .int 78, .int 79, .int 80, .int 81, .int 82, .int 83, .int 84, .int 85, .int 86, .int 87, .int 88, .int 89, .int 90, .int 97, .int 98, .int 99, .int 100, .int 101, .int 102, .int 103, .int 104, .int 105, .int 106, .int 107, .int 108, .int 109, .int 110, .int 111, .int 112, .int 113, .int 114, .int 115, .int 116, .int 117, .int 118, .int 119, .int 120, .int 121, .int 122, .int 48, .int 49, .int 50, .int 51, .int 52, .int 53, .int 54, .int 55, .int 56, .int 57, .int 43, .int 47]) (z := 64) (n := 256) C d21_45 (ow144 hw) (owS hw) hE (by decide) (by decide) (by decide) (by decide) (by decide) (by decide) (by decide) (by decide) rfl fun _ Aa D Ab Ac J L Au Av Aw Ax _ => ?_
  have Ay : Arv Z Aa Ab Ac .byte 64 alph (.int 0) := Ax
  refine gAloadN J d21_47 rfl rfl rfl ?_
  refine gAloadN J d21_48 rfl rfl rfl ?_
  have Az := N.keep I
  have O := Az.ext L
  have A0 := V.keep I nin0
  have Ad := A0.ext L
  have A1 := X.keep I nin0
  have Ae := A1.ext L
  have A2 := Y.keep I nin0
  have Af := A2.ext L
  refine wVirtual (y := mN11) (z := mN11) (Wd := 2) (a := s) (argsL := []) (rest := [.ref s, .ref D]) J d21_49 (ow122 hw) (ow123 hw) (ow125 hw) (ow124 hw) (nfS (ow125 hw)) (by decide) (Cb.ct (ob_ln8 hw hE s u ku (tx4 v g) z Aa J.old SC hz O Ad Ae Af) (ow126 hw) (ow15 hw) hE (by decide) (by decide)) O (by simp) rfl (lenOf opd19 rfl) rfl (Nat.le_of_eq rfl) (by decide) (by decide) rfl fun _ _ _ A3 E B _ A4 => ?_
  obtain ⟨rfl, rfl⟩ := A4
  show Go K _ _ _ _ [.int 8, .ref s, .ref D]
  refine gIconst (z := 1) E d21_52 rfl rfl ?_
  refine gIsub (z := 7) E d21_53 (by decide) rfl ?_
  refine gIloadN E d21_54 rfl rfl ?_
  refine gIsub (z := 5) E d21_55 (by decide) rfl ?_
  have Ag := O.keep B
  have A5 := Ad.keep B nin0
  have A6 := Ae.keep B nin0
  have A7 := Af.keep B nin0
  refine wVirtual (y := mN38) (z := mN38) (Wd := 1) (a := s) (argsL := [.int 5]) (rest := [.ref D]) E d21_56 (ow145 hw) (ow146 hw) (ow148 hw) (ow147 hw) (nfS (ow148 hw)) (by decide) (Cb.ct (ob_ch4 hw hE s u ku z fm v g A3 E.old SC hz SF rf Ag A5 A6 A7) (ow149 hw) (ow15 hw) hE (by decide) (by decide)) Ag (by simp) rfl (lenOf opd0 rfl) rfl (Nat.le_of_eq rfl) (by decide) (by decide) rfl fun _ _ _ A8 Ah M _ A9 => ?_
  obtain ⟨rfl, rfl⟩ := A9
  show Go K _ _ _ _ [.int (Int32.ofNat (symN (sx1 g))), .ref D]
  have Ba := Au.keep B
  have Ai := Ba.keep M
  have Bb := Aw.keep B nin0
  have Bc := Bb.keep M nin0
  have Bd := Av.keep B nin0
  have Be := Bd.keep M nin0
  have Bf := Ay.keep B nin0
  have Bg := Bf.keep M nin0
  refine wVirtual (y := mN32) (z := mN32) (Wd := 0) (a := D) (argsL := [.int (Int32.ofNat (symN (sx1 g)))]) (rest := []) Ah d21_59 (ow167 hw) (ow168 hw) (ow170 hw) (ow169 hw) (nfS (ow170 hw)) (by decide) (Cb.ct (ob_ix hw hE D Ab Ac z (sx1 g) A8 Ah.old SC hz Ai Bc Be Bg (sx1_lt _)) (ow171 hw) (ow15 hw) hE (by decide) (by decide)) Ai (by simp) rfl (lenOf opd25 rfl) rfl (Nat.le_of_eq rfl) (by decide) (by decide) rfl fun _ _ _ _ A _ _ Bh => ?_
  obtain ⟨rfl, rfl⟩ := Bh
  show Go K _ _ _ _ [.int (Int32.ofNat (sx1 g))]
  refine gIstoreN (ls' := #[aR s, aI 2, aI (Int32.ofNat (sx1 g)), aU]) A d21_62 rfl rfl ?_
  refine gIloadN A d21_63 rfl rfl ?_
  refine gIconst (z := 2) A d21_64 rfl rfl ?_
  refine gIcmpNo A d21_65 (teq (by decide)).2 rfl ?_
  refine gBipush (z := 15) A d21_68 rfl rfl ?_
  refine gGoto (pc' := 74) A d21_70 (by decide) rfl ?_
  refine gIstoreN (ls' := #[aR s, aI 2, aI (Int32.ofNat (sx1 g)), aI 15]) A d21_74 rfl rfl ?_
  refine gIloadN A d21_75 rfl rfl ?_
  refine gIloadN A d21_76 rfl rfl ?_
  refine gIand (z := 0) A d21_77 (canon2 hzg) rfl ?_
  refine gIfNo A d21_78 ((if0 _ _).trans (teq (by decide)).2) rfl ?_
  refine gIconst (z := 1) A d21_81 rfl rfl ?_
  refine gGoto (pc' := 86) A d21_82 (by decide) rfl ?_
  exact wRetI (so := []) (t := .boolean) A d21_86 (by simp) rfl (by decide) (by decide) (fun _ q => nomatch q) ⟨rfl, rfl⟩
theorem ob_mm52 (hw : TH a0 Z) (hE : EW Z a0 consts_1) (u : Addr) (ku : ClassId) (up : Addr) (kp : ClassId) (v g : Nat) (h : Heap) (hO : Ol Z h) (q0 : Arv Z h u ku .byte 8 (tx5 v g) (.int 0)) (q1 : Arv Z h up kp .byte 2 [.int 61, .int 61] (.int 0)) :
 Ct l Z consts_1 mN36 cN34 8 (some .int) ⟨0, 0, 0, 0⟩ #[.ref u, .int 6, .ref up, .int 0, .int 2] h [] (fun rv' hp' so' => rv' = some (.int 0) ∧ so' = []) := by
  refine Ct.mk "jdk/internal/util/ArraysSupport" "mismatch" rfl rfl (a0 := a0) (plainFor_of_name opn7) hO hE (fun x q => nomatch q) ?_
  intro K T W
  rw [oef23]
  refine gIconst (z := 0) W d25_0 rfl rfl ?_
  refine gIstore (ls' := #[aR u, aI 6, aR up, aI 0, aI 2, aI 0, aU, aU]) W d25_1 rfl rfl ?_
  refine gIload W d25_3 rfl rfl ?_
  refine gBipush (z := 7) W d25_5 rfl rfl ?_
  refine gIcmpYes (pc' := 70) W d25_7 (flt (by decide)).2.2.2 (by decide) rfl ?_
  refine gIload W d25_70 rfl rfl ?_
  refine gIload W d25_72 rfl rfl ?_
  refine gIcmpNo W d25_74 (tlt (by decide)).2.1 rfl ?_
  refine gAloadN W d25_77 rfl rfl rfl ?_
  refine gIloadN W d25_78 rfl rfl ?_
  refine gIload W d25_79 rfl rfl ?_
  refine gIadd (z := 6) W d25_81 (by decide) rfl ?_
  refine wLdB (v := (.int (Int32.ofNat (symN (sx2 g))))) W d25_82 q0 (by decide) rfl rfl ?_
  refine gAloadN W d25_83 rfl rfl rfl ?_
  refine gIloadN W d25_84 rfl rfl ?_
  refine gIload W d25_85 rfl rfl ?_
  refine gIadd (z := 0) W d25_87 (by decide) rfl ?_
  refine wLdB (v := (.int 61)) W d25_88 q1 (by decide) rfl rfl ?_
  refine gIcmpNo W d25_89 (feq (fun q => symN_61 (ofNat_inj (b := 61) (Nat.lt_of_le_of_lt (symN_le _) (by decide)) (by decide) q))).1 rfl ?_
  refine gIload W d25_92 rfl rfl ?_
  exact wRetI (so := []) (t := .int) W d25_94 (by simp) rfl (by decide) (by decide) (fun _ q => nomatch q) ⟨rfl, rfl⟩
theorem ob_sw52 (hw : TH a0 Z) (hE : EW Z a0 consts_1) (s u : Addr) (ku : ClassId) (p up : Addr) (kp : ClassId) (z : Int32) (v g : Nat) (h : Heap) (hO : Ol Z h) (SC : (PSC Z z)) (hz : (¬ z = 0)) (q2 : Exa Z h s "java/lang/String") (q3 : Fld Z h s "java/lang/String" "value" "[B" (.ref u)) (q4 : Fld Z h s "java/lang/String" "coder" "B" (.int 0)) (q5 : Arv Z h u ku .byte 8 (tx5 v g) (.int 0)) (q6 : Exa Z h p "java/lang/String") (q7 : Fld Z h p "java/lang/String" "value" "[B" (.ref up)) (q8 : Fld Z h p "java/lang/String" "coder" "B" (.int 0)) (q9 : Arv Z h up kp .byte 2 [.int 61, .int 61] (.int 0)) :
 Ct l Z consts_1 mN33 cN31 8 (some .boolean) ⟨2, 0, 0, 40⟩ #[.ref s, .ref p, .int 6] h [] (fun rv' hp' so' => rv' = some (.int 0) ∧ so' = []) := by
  refine Ct.mk "java/lang/String" "startsWith" rfl rfl (a0 := a0) (plainFor_of_name opn2) hO hE (fun x q => nomatch q) ?_
  intro K T W
  rw [oef21]
  refine gIloadN W d24_0 rfl rfl ?_
  refine gIfNo W d24_1 ((if0 _ _).trans (flt (by decide)).1) rfl ?_
  refine gIloadN W d24_4 rfl rfl ?_
  refine gAloadN W d24_5 rfl rfl rfl ?_
  refine wVirtual (y := mN11) (z := mN11) (Wd := 1) (a := s) (argsL := []) (rest := [.int 6]) W d24_6 (ow133 hw) (ow123 hw) (ow125 hw) (ow124 hw) (nfS (ow125 hw)) (by decide) (Cb.ct (ob_ln8 hw hE s u ku (tx5 v g) z h W.old SC hz q2 q3 q4 q5) (ow126 hw) (ow15 hw) hE (by decide) (by decide)) q2 (by simp) rfl (lenOf opd19 rfl) rfl (Nat.le_of_eq rfl) (by decide) (by decide) rfl fun _ _ _ R H C _ S => ?_
  obtain ⟨rfl, rfl⟩ := S
  show Go K _ _ _ _ [.int 8, .int 6]
  refine gAloadN H d24_9 rfl rfl rfl ?_
  have I := q6.keep C
  have M := q7.keep C nin0
  have N := q8.keep C nin0
  have O := q9.keep C nin0
  refine wVirtual (y := mN11) (z := mN11) (Wd := 2) (a := p) (argsL := []) (rest := [.int 8, .int 6]) H d24_10 (ow133 hw) (ow123 hw) (ow125 hw) (ow124 hw) (nfS (ow125 hw)) (by decide) (Cb.ct (ob_ln2 hw hE p up kp [.int 61, .int 61] z R H.old SC hz I M N O) (ow126 hw) (ow15 hw) hE (by decide) (by decide)) I (by simp) rfl (lenOf opd19 rfl) rfl (Nat.le_of_eq rfl) (by decide) (by decide) rfl fun _ _ _ U F D _ V => ?_
  obtain ⟨rfl, rfl⟩ := V
  show Go K _ _ _ _ [.int 2, .int 8, .int 6]
  refine gIsub (z := 6) F d24_13 (by decide) rfl ?_
  refine gIcmpYes (pc' := 19) F d24_14 (flt (by decide)).2.2.2 (by decide) rfl ?_
  refine gAloadN F d24_19 rfl rfl rfl ?_
  have X := q3.keep C nin0
  have Y := X.keep D nin0
  refine wGetF F d24_20 (ow39 hw) Via.refl Y rfl fun _ J => ?_
  refine gAstoreN (ls' := #[aR s, aR p, aI 6, aR u, aU, aU, aU, aU]) J d24_23 rfl rfl rfl ?_
  refine gAloadN J d24_24 rfl rfl rfl ?_
  have Aa := M.keep D nin0
  refine wGetF J d24_25 (ow39 hw) Via.refl Aa rfl fun _ B => ?_
  refine gAstore (ls' := #[aR s, aR p, aI 6, aR u, aR up, aU, aU, aU]) B d24_28 rfl rfl rfl ?_
  refine gIconst (z := 0) B d24_30 rfl rfl ?_
  refine gIstore (ls' := #[aR s, aR p, aI 6, aR u, aR up, aI 0, aU, aU]) B d24_31 rfl rfl ?_
  refine gAload B d24_33 rfl rfl rfl ?_
  have P := O.keep D nin0
  refine wLen B d24_35 P rfl ?_
  refine gIstore (ls' := #[aR s, aR p, aI 6, aR u, aR up, aI 0, aI 2, aU]) B d24_36 rfl rfl ?_
  refine gAloadN B d24_38 rfl rfl rfl ?_
  have Ab := q4.keep C nin0
  have Ac := Ab.keep D nin0
  have Ad := q2.keep C
  have Ae := Ad.keep D
  refine wVirtual (y := mN10) (z := mN10) (Wd := 0) (a := s) (argsL := []) (rest := []) B d24_39 (ow71 hw) (ow72 hw) (ow74 hw) (ow73 hw) (nfS (ow74 hw)) (by decide) (Cb.ct (ob_co hw hE s z U B.old SC hz Ac) (ow75 hw) (ow15 hw) hE (by decide) (by decide)) Ae (by simp) rfl (lenOf opd5 rfl) rfl (Nat.le_of_eq rfl) (by decide) (by decide) rfl fun _ _ _ Af E G _ Ag => ?_
  obtain ⟨rfl, rfl⟩ := Ag
  show Go K _ _ _ _ [.int 0]
  refine gIstore (ls' := #[aR s, aR p, aI 6, aR u, aR up, aI 0, aI 2, aI 0]) E d24_42 rfl rfl ?_
  refine gIload E d24_44 rfl rfl ?_
  refine gAloadN E d24_46 rfl rfl rfl ?_
  have Ah := N.keep D nin0
  have Ai := Ah.keep G nin0
  have Aj := I.keep D
  have Ak := Aj.keep G
  refine wVirtual (y := mN10) (z := mN10) (Wd := 1) (a := p) (argsL := []) (rest := [.int 0]) E d24_47 (ow71 hw) (ow72 hw) (ow74 hw) (ow73 hw) (nfS (ow74 hw)) (by decide) (Cb.ct (ob_co hw hE p z Af E.old SC hz Ai) (ow75 hw) (ow15 hw) hE (by decide) (by decide)) Ak (by simp) rfl (lenOf opd5 rfl) rfl (Nat.le_of_eq rfl) (by decide) (by decide) rfl fun _ _ _ Al A Q _ Am => ?_
  obtain ⟨rfl, rfl⟩ := Am
  show Go K _ _ _ _ [.int 0, .int 0]
  refine gIcmpNo A d24_50 (teq (by decide)).2 rfl ?_
  refine gIload A d24_53 rfl rfl ?_
  refine gIconst (z := 1) A d24_55 rfl rfl ?_
  refine gIcmpYes (pc' := 63) A d24_56 (feq (by decide)).2 (by decide) rfl ?_
  refine gAloadN A d24_63 rfl rfl rfl ?_
  refine gIloadN A d24_64 rfl rfl ?_
  refine gAload A d24_65 rfl rfl rfl ?_
  refine gIconst (z := 0) A d24_67 rfl rfl ?_
  refine gIload A d24_68 rfl rfl ?_
  have An := q5.keep C nin0
  have Ao := An.keep D nin0
  have Ap := Ao.keep G nin0
  have Aq := Ap.keep Q nin0
  have Ar := P.keep G nin0
  have As := Ar.keep Q nin0
  refine wStatic (y := mN36) (Wd := 0) (argsL := [.ref u, .int 6, .ref up, .int 0, .int 2]) (rest := []) A d24_70 (ow139 hw) (ow140 hw) (ow141 hw) (ow142 hw) (by decide) (Cb.ct (ob_mm52 hw hE u ku up kp v g Al A.old Aq As) (ow142 hw) (ow141 hw) hE (by decide) (by decide)) (by simp) rfl (lenOf opd22 rfl) rfl (Nat.le_of_eq rfl) (by decide) (by decide) rfl fun _ _ _ _ L _ _ At => ?_
  obtain ⟨rfl, rfl⟩ := At
  show Go K _ _ _ _ [.int 0]
  refine gIfYes (pc' := 80) L d24_73 ((if0 _ _).trans (flt (by decide)).2.1) (by decide) rfl ?_
  refine gIconst (z := 0) L d24_80 rfl rfl ?_
  exact wRetI (so := []) (t := .boolean) L d24_81 (by simp) rfl (by decide) (by decide) (fun _ q => nomatch q) ⟨rfl, rfl⟩
theorem ob_ew52 (hw : TH a0 Z) (hE : EW Z a0 consts_1) (s u : Addr) (ku : ClassId) (p up : Addr) (kp : ClassId) (z : Int32) (v g : Nat) (h : Heap) (hO : Ol Z h) (SC : (PSC Z z)) (hz : (¬ z = 0)) (q2 : Exa Z h s "java/lang/String") (q3 : Fld Z h s "java/lang/String" "value" "[B" (.ref u)) (q4 : Fld Z h s "java/lang/String" "coder" "B" (.int 0)) (q5 : Arv Z h u ku .byte 8 (tx5 v g) (.int 0)) (q6 : Exa Z h p "java/lang/String") (q7 : Fld Z h p "java/lang/String" "value" "[B" (.ref up)) (q8 : Fld Z h p "java/lang/String" "coder" "B" (.int 0)) (q9 : Arv Z h up kp .byte 2 [.int 61, .int 61] (.int 0)) :
 Ct l Z consts_1 mN34 cN32 2 (some .boolean) ⟨3, 0, 0, 70⟩ #[.ref s, .ref p] h [] (fun rv' hp' so' => rv' = some (.int 0) ∧ so' = []) := by
  refine Ct.mk "java/lang/String" "endsWith" rfl rfl (a0 := a0) (plainFor_of_name opn2) hO hE (fun x q => nomatch q) ?_
  intro K T W
  rw [oef8]
  refine gAloadN W d23_0 rfl rfl rfl ?_
  refine gAloadN W d23_1 rfl rfl rfl ?_
  refine gAloadN W d23_2 rfl rfl rfl ?_
  refine wVirtual (y := mN11) (z := mN11) (Wd := 2) (a := s) (argsL := []) (rest := [.ref p, .ref s]) W d23_3 (ow133 hw) (ow123 hw) (ow125 hw) (ow124 hw) (nfS (ow125 hw)) (by decide) (Cb.ct (ob_ln8 hw hE s u ku (tx5 v g) z h W.old SC hz q2 q3 q4 q5) (ow126 hw) (ow15 hw) hE (by decide) (by decide)) q2 (by simp) rfl (lenOf opd19 rfl) rfl (Nat.le_of_eq rfl) (by decide) (by decide) rfl fun _ _ _ J C A _ L => ?_
  obtain ⟨rfl, rfl⟩ := L
  show Go K _ _ _ _ [.int 8, .ref p, .ref s]
  refine gAloadN C d23_6 rfl rfl rfl ?_
  have D := q6.keep A
  have F := q7.keep A nin0
  have G := q8.keep A nin0
  have H := q9.keep A nin0
  refine wVirtual (y := mN11) (z := mN11) (Wd := 3) (a := p) (argsL := []) (rest := [.int 8, .ref p, .ref s]) C d23_7 (ow133 hw) (ow123 hw) (ow125 hw) (ow124 hw) (nfS (ow125 hw)) (by decide) (Cb.ct (ob_ln2 hw hE p up kp [.int 61, .int 61] z J C.old SC hz D F G H) (ow126 hw) (ow15 hw) hE (by decide) (by decide)) D (by simp) rfl (lenOf opd19 rfl) rfl (Nat.le_of_eq rfl) (by decide) (by decide) rfl fun _ _ _ M E B _ N => ?_
  obtain ⟨rfl, rfl⟩ := N
  show Go K _ _ _ _ [.int 2, .int 8, .ref p, .ref s]
  refine gIsub (z := 6) E d23_10 (by decide) rfl ?_
  have O := q2.keep A
  have I := O.keep B
  have P := q3.keep A nin0
  have Q := P.keep B nin0
  have R := q4.keep A nin0
  have S := R.keep B nin0
  have U := q5.keep A nin0
  have V := U.keep B nin0
  have X := D.keep B
  have Y := F.keep B nin0
  have Aa := G.keep B nin0
  have Ab := H.keep B nin0
  refine wVirtual (y := mN33) (z := mN33) (Wd := 0) (a := s) (argsL := [.ref p, .int 6]) (rest := []) E d23_11 (ow134 hw) (ow135 hw) (ow137 hw) (ow136 hw) (nfS (ow137 hw)) (by decide) (Cb.ct (ob_sw52 hw hE s u ku p up kp z v g M E.old SC hz I Q S V X Y Aa Ab) (ow138 hw) (ow15 hw) hE (by decide) (by decide)) I (by simp) rfl (lenOf opd20 rfl) rfl (Nat.le_of_eq rfl) (by decide) (by decide) rfl fun _ _ _ _ Ac _ _ Ad => ?_
  obtain ⟨rfl, rfl⟩ := Ad
  show Go K _ _ _ _ [.int 0]
  exact wRetI (so := []) (t := .boolean) Ac d23_14 (by simp) rfl (by decide) (by decide) (fun _ q => nomatch q) ⟨rfl, rfl⟩
theorem ob_mm51 (hw : TH a0 Z) (hE : EW Z a0 consts_1) (u : Addr) (ku : ClassId) (up : Addr) (kp : ClassId) (v g : Nat) (h : Heap) (hO : Ol Z h) (q0 : Arv Z h u ku .byte 8 (tx5 v g) (.int 0)) (q1 : Arv Z h up kp .byte 1 [.int 61] (.int 0)) :
 Ct l Z consts_1 mN36 cN34 8 (some .int) ⟨0, 0, 0, 0⟩ #[.ref u, .int 7, .ref up, .int 0, .int 1] h [] (fun rv' hp' so' => rv' = some (.int (-1)) ∧ so' = []) := by
  refine Ct.mk "jdk/internal/util/ArraysSupport" "mismatch" rfl rfl (a0 := a0) (plainFor_of_name opn7) hO hE (fun x q => nomatch q) ?_
  intro K T W
  rw [oef23]
  refine gIconst (z := 0) W d25_0 rfl rfl ?_
  refine gIstore (ls' := #[aR u, aI 7, aR up, aI 0, aI 1, aI 0, aU, aU]) W d25_1 rfl rfl ?_
  refine gIload W d25_3 rfl rfl ?_
  refine gBipush (z := 7) W d25_5 rfl rfl ?_
  refine gIcmpYes (pc' := 70) W d25_7 (flt (by decide)).2.2.2 (by decide) rfl ?_
  refine gIload W d25_70 rfl rfl ?_
  refine gIload W d25_72 rfl rfl ?_
  refine gIcmpNo W d25_74 (tlt (by decide)).2.1 rfl ?_
  refine gAloadN W d25_77 rfl rfl rfl ?_
  refine gIloadN W d25_78 rfl rfl ?_
  refine gIload W d25_79 rfl rfl ?_
  refine gIadd (z := 7) W d25_81 (by decide) rfl ?_
  refine wLdB (v := (.int 61)) W d25_82 q0 (by decide) rfl rfl ?_
  refine gAloadN W d25_83 rfl rfl rfl ?_
  refine gIloadN W d25_84 rfl rfl ?_
  refine gIload W d25_85 rfl rfl ?_
  refine gIadd (z := 0) W d25_87 (by decide) rfl ?_
  refine wLdB (v := (.int 61)) W d25_88 q1 (by decide) rfl rfl ?_
  refine gIcmpYes (pc' := 95) W d25_89 (teq (by decide)).1 (by decide) rfl ?_
  refine gIinc (z := 1) (ls' := #[aR u, aI 7, aR up, aI 0, aI 1, aI 1, aU, aU]) W d25_95 rfl (by decide) rfl rfl ?_
  refine gGoto (pc' := 70) W d25_98 (by decide) rfl ?_
  refine gIload W d25_70 rfl rfl ?_
  refine gIload W d25_72 rfl rfl ?_
  refine gIcmpYes (pc' := 101) W d25_74 (flt (by decide)).2.1 (by decide) rfl ?_
  refine gIconst (z := (-1)) W d25_101 rfl rfl ?_
  exact wRetI (so := []) (t := .int) W d25_102 (by simp) rfl (by decide) (by decide) (fun _ q => nomatch q) ⟨rfl, rfl⟩
theorem ob_sw51 (hw : TH a0 Z) (hE : EW Z a0 consts_1) (s u : Addr) (ku : ClassId) (p up : Addr) (kp : ClassId) (z : Int32) (v g : Nat) (h : Heap) (hO : Ol Z h) (SC : (PSC Z z)) (hz : (¬ z = 0)) (q2 : Exa Z h s "java/lang/String") (q3 : Fld Z h s "java/lang/String" "value" "[B" (.ref u)) (q4 : Fld Z h s "java/lang/String" "coder" "B" (.int 0)) (q5 : Arv Z h u ku .byte 8 (tx5 v g) (.int 0)) (q6 : Exa Z h p "java/lang/String") (q7 : Fld Z h p "java/lang/String" "value" "[B" (.ref up)) (q8 : Fld Z h p "java/lang/String" "coder" "B" (.int 0)) (q9 : Arv Z h up kp .byte 1 [.int 61] (.int 0)) :
 Ct l Z consts_1 mN33 cN31 8 (some .boolean) ⟨2, 0, 0, 40⟩ #[.ref s, .ref p, .int 7] h [] (fun rv' hp' so' => rv' = some (.int 1) ∧ so' = []) := by
  refine Ct.mk "java/lang/String" "startsWith" rfl rfl (a0 := a0) (plainFor_of_name opn2) hO hE (fun x q => nomatch q) ?_
  intro K T W
  rw [oef21]
  refine gIloadN W d24_0 rfl rfl ?_
  refine gIfNo W d24_1 ((if0 _ _).trans (flt (by decide)).1) rfl ?_
  refine gIloadN W d24_4 rfl rfl ?_
  refine gAloadN W d24_5 rfl rfl rfl ?_
  refine wVirtual (y := mN11) (z := mN11) (Wd := 1) (a := s) (argsL := []) (rest := [.int 7]) W d24_6 (ow133 hw) (ow123 hw) (ow125 hw) (ow124 hw) (nfS (ow125 hw)) (by decide) (Cb.ct (ob_ln8 hw hE s u ku (tx5 v g) z h W.old SC hz q2 q3 q4 q5) (ow126 hw) (ow15 hw) hE (by decide) (by decide)) q2 (by simp) rfl (lenOf opd19 rfl) rfl (Nat.le_of_eq rfl) (by decide) (by decide) rfl fun _ _ _ R I C _ S => ?_
  obtain ⟨rfl, rfl⟩ := S
  show Go K _ _ _ _ [.int 8, .int 7]
  refine gAloadN I d24_9 rfl rfl rfl ?_
  have J := q6.keep C
  have M := q7.keep C nin0
  have N := q8.keep C nin0
  have O := q9.keep C nin0
  refine wVirtual (y := mN11) (z := mN11) (Wd := 2) (a := p) (argsL := []) (rest := [.int 8, .int 7]) I d24_10 (ow133 hw) (ow123 hw) (ow125 hw) (ow124 hw) (nfS (ow125 hw)) (by decide) (Cb.ct (ob_ln1 hw hE p up kp [.int 61] z R I.old SC hz J M N O) (ow126 hw) (ow15 hw) hE (by decide) (by decide)) J (by simp) rfl (lenOf opd19 rfl) rfl (Nat.le_of_eq rfl) (by decide) (by decide) rfl fun _ _ _ U F D _ V => ?_
  obtain ⟨rfl, rfl⟩ := V
  show Go K _ _ _ _ [.int 1, .int 8, .int 7]
  refine gIsub (z := 7) F d24_13 (by decide) rfl ?_
  refine gIcmpYes (pc' := 19) F d24_14 (flt (by decide)).2.2.2 (by decide) rfl ?_
  refine gAloadN F d24_19 rfl rfl rfl ?_
  have X := q3.keep C nin0
  have Y := X.keep D nin0
  refine wGetF F d24_20 (ow39 hw) Via.refl Y rfl fun _ L => ?_
  refine gAstoreN (ls' := #[aR s, aR p, aI 7, aR u, aU, aU, aU, aU]) L d24_23 rfl rfl rfl ?_
  refine gAloadN L d24_24 rfl rfl rfl ?_
  have Aa := M.keep D nin0
  refine wGetF L d24_25 (ow39 hw) Via.refl Aa rfl fun _ B => ?_
  refine gAstore (ls' := #[aR s, aR p, aI 7, aR u, aR up, aU, aU, aU]) B d24_28 rfl rfl rfl ?_
  refine gIconst (z := 0) B d24_30 rfl rfl ?_
  refine gIstore (ls' := #[aR s, aR p, aI 7, aR u, aR up, aI 0, aU, aU]) B d24_31 rfl rfl ?_
  refine gAload B d24_33 rfl rfl rfl ?_
  have P := O.keep D nin0
  refine wLen B d24_35 P rfl ?_
  refine gIstore (ls' := #[aR s, aR p, aI 7, aR u, aR up, aI 0, aI 1, aU]) B d24_36 rfl rfl ?_
  refine gAloadN B d24_38 rfl rfl rfl ?_
  have Ab := q4.keep C nin0
  have Ac := Ab.keep D nin0
  have Ad := q2.keep C
  have Ae := Ad.keep D
  refine wVirtual (y := mN10) (z := mN10) (Wd := 0) (a := s) (argsL := []) (rest := []) B d24_39 (ow71 hw) (ow72 hw) (ow74 hw) (ow73 hw) (nfS (ow74 hw)) (by decide) (Cb.ct (ob_co hw hE s z U B.old SC hz Ac) (ow75 hw) (ow15 hw) hE (by decide) (by decide)) Ae (by simp) rfl (lenOf opd5 rfl) rfl (Nat.le_of_eq rfl) (by decide) (by decide) rfl fun _ _ _ Af E G _ Ag => ?_
  obtain ⟨rfl, rfl⟩ := Ag
  show Go K _ _ _ _ [.int 0]
  refine gIstore (ls' := #[aR s, aR p, aI 7, aR u, aR up, aI 0, aI 1, aI 0]) E d24_42 rfl rfl ?_
  refine gIload E d24_44 rfl rfl ?_
  refine gAloadN E d24_46 rfl rfl rfl ?_
  have Ah := N.keep D nin0
  have Ai := Ah.keep G nin0
  have Aj := J.keep D
  have Ak := Aj.keep G
  refine wVirtual (y := mN10) (z := mN10) (Wd := 1) (a := p) (argsL := []) (rest := [.int 0]) E d24_47 (ow71 hw) (ow72 hw) (ow74 hw) (ow73 hw) (nfS (ow74 hw)) (by decide) (Cb.ct (ob_co hw hE p z Af E.old SC hz Ai) (ow75 hw) (ow15 hw) hE (by decide) (by decide)) Ak (by simp) rfl (lenOf opd5 rfl) rfl (Nat.le_of_eq rfl) (by decide) (by decide) rfl fun _ _ _ Al A Q _ Am => ?_
  obtain ⟨rfl, rfl⟩ := Am
  show Go K _ _ _ _ [.int 0, .int 0]
  refine gIcmpNo A d24_50 (teq (by decide)).2 rfl ?_
  refine gIload A d24_53 rfl rfl ?_
  refine gIconst (z := 1) A d24_55 rfl rfl ?_
  refine gIcmpYes (pc' := 63) A d24_56 (feq (by decide)).2 (by decide) rfl ?_
  refine gAloadN A d24_63 rfl rfl rfl ?_
  refine gIloadN A d24_64 rfl rfl ?_
  refine gAload A d24_65 rfl rfl rfl ?_
  refine gIconst (z := 0) A d24_67 rfl rfl ?_
  refine gIload A d24_68 rfl rfl ?_
  have An := q5.keep C nin0
  have Ao := An.keep D nin0
  have Ap := Ao.keep G nin0
  have Aq := Ap.keep Q nin0
  have Ar := P.keep G nin0
  have As := Ar.keep Q nin0
  refine wStatic (y := mN36) (Wd := 0) (argsL := [.ref u, .int 7, .ref up, .int 0, .int 1]) (rest := []) A d24_70 (ow139 hw) (ow140 hw) (ow141 hw) (ow142 hw) (by decide) (Cb.ct (ob_mm51 hw hE u ku up kp v g Al A.old Aq As) (ow142 hw) (ow141 hw) hE (by decide) (by decide)) (by simp) rfl (lenOf opd22 rfl) rfl (Nat.le_of_eq rfl) (by decide) (by decide) rfl fun _ _ _ _ H _ _ At => ?_
  obtain ⟨rfl, rfl⟩ := At
  show Go K _ _ _ _ [.int (-1)]
  refine gIfNo H d24_73 ((if0 _ _).trans (tlt (by decide)).2.1) rfl ?_
  refine gIconst (z := 1) H d24_76 rfl rfl ?_
  refine gGoto (pc' := 81) H d24_77 (by decide) rfl ?_
  exact wRetI (so := []) (t := .boolean) H d24_81 (by simp) rfl (by decide) (by decide) (fun _ q => nomatch q) ⟨rfl, rfl⟩
theorem ob_ew51 (hw : TH a0 Z) (hE : EW Z a0 consts_1) (s u : Addr) (ku : ClassId) (p up : Addr) (kp : ClassId) (z : Int32) (v g : Nat) (h : Heap) (hO : Ol Z h) (SC : (PSC Z z)) (hz : (¬ z = 0)) (q2 : Exa Z h s "java/lang/String") (q3 : Fld Z h s "java/lang/String" "value" "[B" (.ref u)) (q4 : Fld Z h s "java/lang/String" "coder" "B" (.int 0)) (q5 : Arv Z h u ku .byte 8 (tx5 v g) (.int 0)) (q6 : Exa Z h p "java/lang/String") (q7 : Fld Z h p "java/lang/String" "value" "[B" (.ref up)) (q8 : Fld Z h p "java/lang/String" "coder" "B" (.int 0)) (q9 : Arv Z h up kp .byte 1 [.int 61] (.int 0)) :
 Ct l Z consts_1 mN34 cN32 2 (some .boolean) ⟨3, 0, 0, 70⟩ #[.ref s, .ref p] h [] (fun rv' hp' so' => rv' = some (.int 1) ∧ so' = []) := by
  refine Ct.mk "java/lang/String" "endsWith" rfl rfl (a0 := a0) (plainFor_of_name opn2) hO hE (fun x q => nomatch q) ?_
  intro K T W
  rw [oef8]
  refine gAloadN W d23_0 rfl rfl rfl ?_
  refine gAloadN W d23_1 rfl rfl rfl ?_
  refine gAloadN W d23_2 rfl rfl rfl ?_
  refine wVirtual (y := mN11) (z := mN11) (Wd := 2) (a := s) (argsL := []) (rest := [.ref p, .ref s]) W d23_3 (ow133 hw) (ow123 hw) (ow125 hw) (ow124 hw) (nfS (ow125 hw)) (by decide) (Cb.ct (ob_ln8 hw hE s u ku (tx5 v g) z h W.old SC hz q2 q3 q4 q5) (ow126 hw) (ow15 hw) hE (by decide) (by decide)) q2 (by simp) rfl (lenOf opd19 rfl) rfl (Nat.le_of_eq rfl) (by decide) (by decide) rfl fun _ _ _ J C A _ L => ?_
  obtain ⟨rfl, rfl⟩ := L
  show Go K _ _ _ _ [.int 8, .ref p, .ref s]
  refine gAloadN C d23_6 rfl rfl rfl ?_
  have D := q6.keep A
  have F := q7.keep A nin0
  have G := q8.keep A nin0
  have H := q9.keep A nin0
  refine wVirtual (y := mN11) (z := mN11) (Wd := 3) (a := p) (argsL := []) (rest := [.int 8, .ref p, .ref s]) C d23_7 (ow133 hw) (ow123 hw) (ow125 hw) (ow124 hw) (nfS (ow125 hw)) (by decide) (Cb.ct (ob_ln1 hw hE p up kp [.int 61] z J C.old SC hz D F G H) (ow126 hw) (ow15 hw) hE (by decide) (by decide)) D (by simp) rfl (lenOf opd19 rfl) rfl (Nat.le_of_eq rfl) (by decide) (by decide) rfl fun _ _ _ M E B _ N => ?_
  obtain ⟨rfl, rfl⟩ := N
  show Go K _ _ _ _ [.int 1, .int 8, .ref p, .ref s]
  refine gIsub (z := 7) E d23_10 (by decide) rfl ?_
  have O := q2.keep A
  have I := O.keep B
  have P := q3.keep A nin0
  have Q := P.keep B nin0
  have R := q4.keep A nin0
  have S := R.keep B nin0
  have U := q5.keep A nin0
  have V := U.keep B nin0
  have X := D.keep B
  have Y := F.keep B nin0
  have Aa := G.keep B nin0
  have Ab := H.keep B nin0
  refine wVirtual (y := mN33) (z := mN33) (Wd := 0) (a := s) (argsL := [.ref p, .int 7]) (rest := []) E d23_11 (ow134 hw) (ow135 hw) (ow137 hw) (ow136 hw) (nfS (ow137 hw)) (by decide) (Cb.ct (ob_sw51 hw hE s u ku p up kp z v g M E.old SC hz I Q S V X Y Aa Ab) (ow138 hw) (ow15 hw) hE (by decide) (by decide)) I (by simp) rfl (lenOf opd20 rfl) rfl (Nat.le_of_eq rfl) (by decide) (by decide) rfl fun _ _ _ _ Ac _ _ Ad => ?_
  obtain ⟨rfl, rfl⟩ := Ad
  show Go K _ _ _ _ [.int 1]
  exact wRetI (so := []) (t := .boolean) Ac d23_14 (by simp) rfl (by decide) (by decide) (fun _ q => nomatch q) ⟨rfl, rfl⟩
theorem ob_lc5 (hw : TH a0 Z) (hE : EW Z a0 consts_1) (u : Addr) (ku : ClassId) (fm : Value) (v g : Nat) (h : Heap) (hO : Ol Z h) (SF : (PSF Z fm)) (rf : (fm.isRef = true)) (q2 : Arv Z h u ku .byte 8 (tx5 v g) (.int 0)) :
 Ct l Z consts_1 mN37 cN35 2 (some .char) ⟨2, 0, 0, 34⟩ #[.ref u, .int 6] h [] (fun rv' hp' so' => rv' = some (.int (Int32.ofNat (symN (sx2 g)))) ∧ so' = []) := by
  refine Ct.mk "java/lang/StringLatin1" "charAt" rfl rfl (a0 := a0) (plainFor_of_name opn5) hO hE (fun x q => nomatch q) ?_
  intro K T W
  rw [oef6]
  refine gIloadN W d28_0 rfl rfl ?_
  refine gAloadN W d28_1 rfl rfl rfl ?_
  refine wLen W d28_2 q2 rfl ?_
  refine wStatic (y := mN24) (Wd := 0) (argsL := [.int 6, .int 8]) (rest := []) W d28_3 (ow159 hw) (ow160 hw) (ow15 hw) (ow161 hw) (by decide) (Cb.ct (ob_ck hw hE 6 8 fm h W.old (by decide) (by decide) SF rf) (ow161 hw) (ow15 hw) hE (by decide) (by decide)) (by simp) rfl (lenOf opd23 rfl) rfl (Nat.le_of_eq rfl) (by decide) (by decide) rfl fun _ _ _ _ A B _ C => ?_
  obtain ⟨rfl, rfl⟩ := C
  show Go K _ _ _ _ []
  refine gAloadN A d28_6 rfl rfl rfl ?_
  refine gIloadN A d28_7 rfl rfl ?_
  have D := q2.keep B nin0
  refine wLdB (v := (.int (Int32.ofNat (symN (sx2 g))))) A d28_8 D (by decide) rfl rfl ?_
  refine gSipush (z := 255) A d28_9 rfl rfl ?_
  refine gIand (z := (Int32.ofNat (symN (sx2 g)))) A d28_12 (b8_of (symN_le _)).mask rfl ?_
  refine gI2C (z := (Int32.ofNat (symN (sx2 g)))) A d28_13 (b8_of (symN_le _)).i2c' rfl ?_
  exact wRetI (so := []) (t := .char) A d28_14 (by simp) (by show Value.int (nar .char (Int32.ofNat (symN (sx2 g)))) = _; rw [(b8_of (symN_le _)).nar]) (by decide) (by decide) (fun _ q => nomatch q) ⟨rfl, rfl⟩
theorem ob_ch5 (hw : TH a0 Z) (hE : EW Z a0 consts_1) (s u : Addr) (ku : ClassId) (z : Int32) (fm : Value) (v g : Nat) (h : Heap) (hO : Ol Z h) (SC : (PSC Z z)) (hz : (¬ z = 0)) (SF : (PSF Z fm)) (rf : (fm.isRef = true)) (q4 : Exa Z h s "java/lang/String") (q5 : Fld Z h s "java/lang/String" "value" "[B" (.ref u)) (q6 : Fld Z h s "java/lang/String" "coder" "B" (.int 0)) (q7 : Arv Z h u ku .byte 8 (tx5 v g) (.int 0)) :
 Ct l Z consts_1 mN38 cN36 2 (some .char) ⟨3, 0, 0, 52⟩ #[.ref s, .int 6] h [] (fun rv' hp' so' => rv' = some (.int (Int32.ofNat (symN (sx2 g)))) ∧ so' = []) := by
  refine Ct.mk "java/lang/String" "charAt" rfl rfl (a0 := a0) (plainFor_of_name opn2) hO hE (fun x q => nomatch q) ?_
  intro K T W
  rw [oef6]
  refine gAloadN W d26_0 rfl rfl rfl ?_
  refine wVirtual (y := mN25) (z := mN25) (Wd := 0) (a := s) (argsL := []) (rest := []) W d26_1 (ow150 hw) (ow151 hw) (ow153 hw) (ow152 hw) (nfS (ow153 hw)) (by decide) (Cb.ct (ob_il hw hE s z h W.old SC hz q6) (ow154 hw) (ow15 hw) hE (by decide) (by decide)) q4 (by simp) rfl (lenOf opd18 rfl) rfl (Nat.le_of_eq rfl) (by decide) (by decide) rfl fun _ _ _ D A C _ E => ?_
  obtain ⟨rfl, rfl⟩ := E
  show Go K _ _ _ _ [.int 1]
  refine gIfNo A d26_4 ((if0 _ _).trans (feq (by decide)).1) rfl ?_
  refine gAloadN A d26_7 rfl rfl rfl ?_
  have F := q5.keep C nin0
  refine wGetF A d26_8 (ow39 hw) Via.refl F rfl fun _ B => ?_
  refine gIloadN B d26_11 rfl rfl ?_
  have G := q7.keep C nin0
  refine wStatic (y := mN37) (Wd := 0) (argsL := [.ref u, .int 6]) (rest := []) B d26_12 (ow155 hw) (ow156 hw) (ow157 hw) (ow158 hw) (by decide) (Cb.ct (ob_lc5 hw hE u ku fm v g D B.old SF rf G) (ow158 hw) (ow157 hw) hE (by decide) (by decide)) (by simp) rfl (lenOf opd24 rfl) rfl (Nat.le_of_eq rfl) (by decide) (by decide) rfl fun _ _ _ _ H _ _ I => ?_
  obtain ⟨rfl, rfl⟩ := I
  show Go K _ _ _ _ [.int (Int32.ofNat (symN (sx2 g)))]
  exact wRetI (so := []) (t := .char) H d26_15 (by simp) (by show Value.int (nar .char (Int32.ofNat (symN (sx2 g)))) = _; rw [(b8_of (symN_le _)).nar]) (by decide) (by decide) (fun _ q => nomatch q) ⟨rfl, rfl⟩
theorem ob_is5 (hw : TH a0 Z) (hE : EW Z a0 consts_1) (s u : Addr) (ku : ClassId) (z : Int32) (fm : Value) (v g : Nat) (h : Heap) (hO : Ol Z h) (SC : (PSC Z z)) (hz : (¬ z = 0)) (SF : (PSF Z fm)) (rf : (fm.isRef = true)) (q4 : Exa Z h s "java/lang/String") (q5 : Fld Z h s "java/lang/String" "value" "[B" (.ref u)) (q6 : Fld Z h s "java/lang/String" "coder" "B" (.int 0)) (q7 : Arv Z h u ku .byte 8 (tx5 v g) (.int 0)) (hv : (v < 16777216)) (hg : (g < 16777216)) (hzg : (g % 256 = 0)) :
 Ct l Z consts_1 mN35 cN33 4 (some .boolean) ⟨4, 6, 300, 95⟩ #[.ref s] h [] (fun rv' hp' so' => rv' = some (.int 1) ∧ so' = []) := by
  refine Ct.mk "com/example/drafts_under_key/draftsunderkey/crypto/StrictBase64" "isCanonical" rfl rfl (a0 := a0) (plainFor_of_name opn6) hO hE (fun x q => nomatch q) ?_
  intro K T W
  rw [oef22]
  refine gAloadN W d21_0 rfl rfl rfl ?_
  refine wVirtual (y := mN11) (z := mN11) (Wd := 0) (a := s) (argsL := []) (rest := []) W d21_1 (ow122 hw) (ow123 hw) (ow125 hw) (ow124 hw) (nfS (ow125 hw)) (by decide) (Cb.ct (ob_ln8 hw hE s u ku (tx5 v g) z h W.old SC hz q4 q5 q6 q7) (ow126 hw) (ow15 hw) hE (by decide) (by decide)) q4 (by simp) rfl (lenOf opd19 rfl) rfl (Nat.le_of_eq rfl) (by decide) (by decide) rfl fun _ _ _ _ F G _ Av => ?_
  obtain ⟨rfl, rfl⟩ := Av
  show Go K _ _ _ _ [.int 8]
  refine gIconst (z := 4) F d21_4 rfl rfl ?_
  refine gIrem (z := 0) F d21_5 (by decide) (by decide) rfl ?_
  refine gIfYes (pc' := 11) F d21_6 ((if0 _ _).trans (teq (by decide)).1) (by decide) rfl ?_
  refine gAloadN F d21_11 rfl rfl rfl ?_
  refine wLdcS (vs := [.int 61, .int 61]) (z := 2) (n := 8) F d21_12 (ow127 hw) (owS hw) hE (by decide) (by decide) (by decide) (by decide) (by decide) (by decide) (by decide) (by decide) rfl fun _ U V X Y Aa H Aw Ax Ay Az _ => ?_
  have A0 : Arv Z U X Y .byte 2 [.int 61, .int 61] (.int 0) := Az
  have A1 := q4.keep G
  have P := A1.ext H
  have A2 := q5.keep G nin0
  have Ab := A2.ext H
  have A3 := q6.keep G nin0
  have Ac := A3.ext H
  have A4 := q7.keep G nin0
  have Ad := A4.ext H
  refine wVirtual (y := mN34) (z := mN34) (Wd := 0) (a := s) (argsL := [.ref V]) (rest := []) Aa d21_14 (ow128 hw) (ow129 hw) (ow131 hw) (ow130 hw) (nfS (ow131 hw)) (by decide) (Cb.ct (ob_ew52 hw hE s u ku V X Y z v g U Aa.old SC hz P Ab Ac Ad Aw Ay Ax A0) (ow132 hw) (ow15 hw) hE (by decide) (by decide)) P (by simp) rfl (lenOf opd21 rfl) rfl (Nat.le_of_eq rfl) (by decide) (by decide) rfl fun _ _ _ _ Q I _ A5 => ?_
  obtain ⟨rfl, rfl⟩ := A5
  show Go K _ _ _ _ [.int 0]
  refine gIfYes (pc' := 24) Q d21_17 ((if0 _ _).trans (teq (by decide)).1) (by decide) rfl ?_
  refine gAloadN Q d21_24 rfl rfl rfl ?_
  refine wLdcS (vs := [.int 61]) (z := 1) (n := 4) Q d21_25 (ow143 hw) (owS hw) hE (by decide) (by decide) (by decide) (by decide) (by decide) (by decide) (by decide) (by decide) rfl fun _ Ae Af Ag Ah Ai J A6 A7 A8 A9 _ => ?_
  have Ba : Arv Z Ae Ag Ah .byte 1 [.int 61] (.int 0) := A9
  have Bb := P.keep I
  have R := Bb.ext J
  have Bc := Ab.keep I nin0
  have Aj := Bc.ext J
  have Bd := Ac.keep I nin0
  have Ak := Bd.ext J
  have Be := Ad.keep I nin0
  have Al := Be.ext J
  refine wVirtual (y := mN34) (z := mN34) (Wd := 0) (a := s) (argsL := [.ref Af]) (rest := []) Ai d21_27 (ow128 hw) (ow129 hw) (ow131 hw) (ow130 hw) (nfS (ow131 hw)) (by decide) (Cb.ct (ob_ew51 hw hE s u ku Af Ag Ah z v g Ae Ai.old SC hz R Aj Ak Al A6 A8 A7 Ba) (ow132 hw) (ow15 hw) hE (by decide) (by decide)) R (by simp) rfl (lenOf opd21 rfl) rfl (Nat.le_of_eq rfl) (by decide) (by decide) rfl fun _ _ _ _ C L _ Bf => ?_
  obtain ⟨rfl, rfl⟩ := Bf
  show Go K _ _ _ _ [.int 1]
  refine gIfNo C d21_30 ((if0 _ _).trans (feq (by decide)).1) rfl ?_
  refine gIconst (z := 1) C d21_33 rfl rfl ?_
  refine gGoto (pc' := 38) C d21_34 (by decide) rfl ?_
  refine gIstoreN (ls' := #[aR s, aI 1, aU, aU]) C d21_38 rfl rfl ?_
  refine gIloadN C d21_39 rfl rfl ?_
  refine gIfYes (pc' := 45) C d21_40 ((if0 _ _).trans (feq (by decide)).2) (by decide) rfl ?_
  refine wLdcS (vs := [.int 65, .int 66, .int 67, .int 68, .int 69, .int 70, .int 71, .int 72, .int 73, .int 74, .int 75, .int 76, .int 77, .int 78, .int 79, .int 80, .int 81, .int 82, .int 83, .int 84, .int 85, .int 86, .int 87, .int 88, .int 89, .int 90, .int 97, .int 98, .int 99, .int 100, .int 101, .int 102, .int 103, .int 104, .int 105, .int 106, .int 107, .int 108, .int 109, .int 110, .int 111, .int 112, .int 113, .int 114, .int 115, .int 116, .int 117, .int 118, .int 119, .int 120, .int 121, .int 122, .int 48, .int 49, .int 50, .int 51, .int 52, .int 53, .int 54, .int 55, .int 56, .int 57, .int 43, .int 47]) (z := 64) (n := 256) C d21_45 (ow144 hw) (owS hw) hE (by decide) (by decide) (by decide) (by decide) (by decide) (by decide) (by decide) (by decide) rfl fun _ Am D An Ao M N Bg Bh Bi Bj _ => ?_
  have Bk : Arv Z Am An Ao .byte 64 alph (.int 0) := Bj
  refine gAloadN M d21_47 rfl rfl rfl ?_
  refine gAloadN M d21_48 rfl rfl rfl ?_
  have Bl := R.keep L
  have S := Bl.ext N
  have Bm := Aj.keep L nin0
  have Ap := Bm.ext N
  have Bn := Ak.keep L nin0
  have Aq := Bn.ext N
  have Bo := Al.keep L nin0
  have Ar := Bo.ext N
  refine wVirtual (y := mN11) (z := mN11) (Wd := 2) (a := s) (argsL := []) (rest := [.ref s, .ref D]) M d21_49 (ow122 hw) (ow123 hw) (ow125 hw) (ow124 hw) (nfS (ow125 hw)) (by decide) (Cb.ct (ob_ln8 hw hE s u ku (tx5 v g) z Am M.old SC hz S Ap Aq Ar) (ow126 hw) (ow15 hw) hE (by decide) (by decide)) S (by simp) rfl (lenOf opd19 rfl) rfl (Nat.le_of_eq rfl) (by decide) (by decide) rfl fun _ _ _ Bp E B _ Bq => ?_
  obtain ⟨rfl, rfl⟩ := Bq
  show Go K _ _ _ _ [.int 8, .ref s, .ref D]
  refine gIconst (z := 1) E d21_52 rfl rfl ?_
  refine gIsub (z := 7) E d21_53 (by decide) rfl ?_
  refine gIloadN E d21_54 rfl rfl ?_
  refine gIsub (z := 6) E d21_55 (by decide) rfl ?_
  have As := S.keep B
  have Br := Ap.keep B nin0
  have Bs := Aq.keep B nin0
  have Bt := Ar.keep B nin0
  refine wVirtual (y := mN38) (z := mN38) (Wd := 1) (a := s) (argsL := [.int 6]) (rest := [.ref D]) E d21_56 (ow145 hw) (ow146 hw) (ow148 hw) (ow147 hw) (nfS (ow148 hw)) (by decide) (Cb.ct (ob_ch5 hw hE s u ku z fm v g Bp E.old SC hz SF rf As Br Bs Bt) (ow149 hw) (ow15 hw) hE (by decide) (by decide)) As (by simp) rfl (lenOf opd0 rfl) rfl (Nat.le_of_eq rfl) (by decide) (by decide) rfl fun _ _ _ Bu At O _ Bv => ?_
  obtain ⟨rfl, rfl⟩ := Bv
  show Go K _ _ _ _ [.int (Int32.ofNat (symN (sx2 g))), .ref D]
  have Bw := Bg.keep B
  have Au := Bw.keep O
  have Bx := Bi.keep B nin0
  have By := Bx.keep O nin0
  have Bz := Bh.keep B nin0
  have B0 := Bz.keep O nin0
  have B1 := Bk.keep B nin0
  have B2 := B1.keep O nin0
  refine wVirtual (y := mN32) (z := mN32) (Wd := 0) (a := D) (argsL := [.int (Int32.ofNat (symN (sx2 g)))]) (rest := []) At d21_59 (ow167 hw) (ow168 hw) (ow170 hw) (ow169 hw) (nfS (ow170 hw)) (by decide) (Cb.ct (ob_ix hw hE D An Ao z (sx2 g) Bu At.old SC hz Au By B0 B2 (sx2_lt _)) (ow171 hw) (ow15 hw) hE (by decide) (by decide)) Au (by simp) rfl (lenOf opd25 rfl) rfl (Nat.le_of_eq rfl) (by decide) (by decide) rfl fun _ _ _ _ A _ _ B3 => ?_
  obtain ⟨rfl, rfl⟩ := B3
  show Go K _ _ _ _ [.int (Int32.ofNat (sx2 g))]
  refine gIstoreN (ls' := #[aR s, aI 1, aI (Int32.ofNat (sx2 g)), aU]) A d21_62 rfl rfl ?_
  refine gIloadN A d21_63 rfl rfl ?_
  refine gIconst (z := 2) A d21_64 rfl rfl ?_
  refine gIcmpYes (pc' := 73) A d21_65 (feq (by decide)).2 (by decide) rfl ?_
  refine gIconst (z := 3) A d21_73 rfl rfl ?_
  refine gIstoreN (ls' := #[aR s, aI 1, aI (Int32.ofNat (sx2 g)), aI 3]) A d21_74 rfl rfl ?_
  refine gIloadN A d21_75 rfl rfl ?_
  refine gIloadN A d21_76 rfl rfl ?_
  refine gIand (z := 0) A d21_77 (canon1 hzg) rfl ?_
  refine gIfNo A d21_78 ((if0 _ _).trans (teq (by decide)).2) rfl ?_
  refine gIconst (z := 1) A d21_81 rfl rfl ?_
  refine gGoto (pc' := 86) A d21_82 (by decide) rfl ?_
  exact wRetI (so := []) (t := .boolean) A d21_86 (by simp) rfl (by decide) (by decide) (fun _ q => nomatch q) ⟨rfl, rfl⟩
theorem ob_mm62 (hw : TH a0 Z) (hE : EW Z a0 consts_1) (u : Addr) (ku : ClassId) (up : Addr) (kp : ClassId) (v g : Nat) (h : Heap) (hO : Ol Z h) (q0 : Arv Z h u ku .byte 8 (tx6 v g) (.int 0)) (q1 : Arv Z h up kp .byte 2 [.int 61, .int 61] (.int 0)) :
 Ct l Z consts_1 mN36 cN34 8 (some .int) ⟨0, 0, 0, 0⟩ #[.ref u, .int 6, .ref up, .int 0, .int 2] h [] (fun rv' hp' so' => rv' = some (.int 0) ∧ so' = []) := by
  refine Ct.mk "jdk/internal/util/ArraysSupport" "mismatch" rfl rfl (a0 := a0) (plainFor_of_name opn7) hO hE (fun x q => nomatch q) ?_
  intro K T W
  rw [oef23]
  refine gIconst (z := 0) W d25_0 rfl rfl ?_
  refine gIstore (ls' := #[aR u, aI 6, aR up, aI 0, aI 2, aI 0, aU, aU]) W d25_1 rfl rfl ?_
  refine gIload W d25_3 rfl rfl ?_
  refine gBipush (z := 7) W d25_5 rfl rfl ?_
  refine gIcmpYes (pc' := 70) W d25_7 (flt (by decide)).2.2.2 (by decide) rfl ?_
  refine gIload W d25_70 rfl rfl ?_
  refine gIload W d25_72 rfl rfl ?_
  refine gIcmpNo W d25_74 (tlt (by decide)).2.1 rfl ?_
  refine gAloadN W d25_77 rfl rfl rfl ?_
  refine gIloadN W d25_78 rfl rfl ?_
  refine gIload W d25_79 rfl rfl ?_
  refine gIadd (z := 6) W d25_81 (by decide) rfl ?_
  refine wLdB (v := (.int (Int32.ofNat (symN (sx2 g))))) W d25_82 q0 (by decide) rfl rfl ?_
  refine gAloadN W d25_83 rfl rfl rfl ?_
  refine gIloadN W d25_84 rfl rfl ?_
  refine gIload W d25_85 rfl rfl ?_
  refine gIadd (z := 0) W d25_87 (by decide) rfl ?_
  refine wLdB (v := (.int 61)) W d25_88 q1 (by decide) rfl rfl ?_
  refine gIcmpNo W d25_89 (feq (fun q => symN_61 (ofNat_inj (b := 61) (Nat.lt_of_le_of_lt (symN_le _) (by decide)) (by decide) q))).1 rfl ?_
  refine gIload W d25_92 rfl rfl ?_
  exact wRetI (so := []) (t := .int) W d25_94 (by simp) rfl (by decide) (by decide) (fun _ q => nomatch q) ⟨rfl, rfl⟩
theorem ob_sw62 (hw : TH a0 Z) (hE : EW Z a0 consts_1) (s u : Addr) (ku : ClassId) (p up : Addr) (kp : ClassId) (z : Int32) (v g : Nat) (h : Heap) (hO : Ol Z h) (SC : (PSC Z z)) (hz : (¬ z = 0)) (q2 : Exa Z h s "java/lang/String") (q3 : Fld Z h s "java/lang/String" "value" "[B" (.ref u)) (q4 : Fld Z h s "java/lang/String" "coder" "B" (.int 0)) (q5 : Arv Z h u ku .byte 8 (tx6 v g) (.int 0)) (q6 : Exa Z h p "java/lang/String") (q7 : Fld Z h p "java/lang/String" "value" "[B" (.ref up)) (q8 : Fld Z h p "java/lang/String" "coder" "B" (.int 0)) (q9 : Arv Z h up kp .byte 2 [.int 61, .int 61] (.int 0)) :
 Ct l Z consts_1 mN33 cN31 8 (some .boolean) ⟨2, 0, 0, 40⟩ #[.ref s, .ref p, .int 6] h [] (fun rv' hp' so' => rv' = some (.int 0) ∧ so' = []) := by
  refine Ct.mk "java/lang/String" "startsWith" rfl rfl (a0 := a0) (plainFor_of_name opn2) hO hE (fun x q => nomatch q) ?_
  intro K T W
  rw [oef21]
  refine gIloadN W d24_0 rfl rfl ?_
  refine gIfNo W d24_1 ((if0 _ _).trans (flt (by decide)).1) rfl ?_
  refine gIloadN W d24_4 rfl rfl ?_
  refine gAloadN W d24_5 rfl rfl rfl ?_
  refine wVirtual (y := mN11) (z := mN11) (Wd := 1) (a := s) (argsL := []) (rest := [.int 6]) W d24_6 (ow133 hw) (ow123 hw) (ow125 hw) (ow124 hw) (nfS (ow125 hw)) (by decide) (Cb.ct (ob_ln8 hw hE s u ku (tx6 v g) z h W.old SC hz q2 q3 q4 q5) (ow126 hw) (ow15 hw) hE (by decide) (by decide)) q2 (by simp) rfl (lenOf opd19 rfl) rfl (Nat.le_of_eq rfl) (by decide) (by decide) rfl fun _ _ _ R H C _ S => ?_
  obtain ⟨rfl, rfl⟩ := S
  show Go K _ _ _ _ [.int 8, .int 6]
  refine gAloadN H d24_9 rfl rfl rfl ?_
  have I := q6.keep C
  have M := q7.keep C nin0
  have N := q8.keep C nin0
  have O := q9.keep C nin0
  refine wVirtual (y := mN11) (z := mN11) (Wd := 2) (a := p) (argsL := []) (rest := [.int 8, .int 6]) H d24_10 (ow133 hw) (ow123 hw) (ow125 hw) (ow124 hw) (nfS (ow125 hw)) (by decide) (Cb.ct (ob_ln2 hw hE p up kp [.int 61, .int 61] z R H.old SC hz I M N O) (ow126 hw) (ow15 hw) hE (by decide) (by decide)) I (by simp) rfl (lenOf opd19 rfl) rfl (Nat.le_of_eq rfl) (by decide) (by decide) rfl fun _ _ _ U F D _ V => ?_
  obtain ⟨rfl, rfl⟩ := V
  show Go K _ _ _ _ [.int 2, .int 8, .int 6]
  refine gIsub (z := 6) F d24_13 (by decide) rfl ?_
  refine gIcmpYes (pc' := 19) F d24_14 (flt (by decide)).2.2.2 (by decide) rfl ?_
  refine gAloadN F d24_19 rfl rfl rfl ?_
  have X := q3.keep C nin0
  have Y := X.keep D nin0
  refine wGetF F d24_20 (ow39 hw) Via.refl Y rfl fun _ J => ?_
  refine gAstoreN (ls' := #[aR s, aR p, aI 6, aR u, aU, aU, aU, aU]) J d24_23 rfl rfl rfl ?_
  refine gAloadN J d24_24 rfl rfl rfl ?_
  have Aa := M.keep D nin0
  refine wGetF J d24_25 (ow39 hw) Via.refl Aa rfl fun _ B => ?_
  refine gAstore (ls' := #[aR s, aR p, aI 6, aR u, aR up, aU, aU, aU]) B d24_28 rfl rfl rfl ?_
  refine gIconst (z := 0) B d24_30 rfl rfl ?_
  refine gIstore (ls' := #[aR s, aR p, aI 6, aR u, aR up, aI 0, aU, aU]) B d24_31 rfl rfl ?_
  refine gAload B d24_33 rfl rfl rfl ?_
  have P := O.keep D nin0
  refine wLen B d24_35 P rfl ?_
  refine gIstore (ls' := #[aR s, aR p, aI 6, aR u, aR up, aI 0, aI 2, aU]) B d24_36 rfl rfl ?_
  refine gAloadN B d24_38 rfl rfl rfl ?_
  have Ab := q4.keep C nin0
  have Ac := Ab.keep D nin0
  have Ad := q2.keep C
  have Ae := Ad.keep D
  refine wVirtual (y := mN10) (z := mN10) (Wd := 0) (a := s) (argsL := []) (rest := []) B d24_39 (ow71 hw) (ow72 hw) (ow74 hw) (ow73 hw) (nfS (ow74 hw)) (by decide) (Cb.ct (ob_co hw hE s z U B.old SC hz Ac) (ow75 hw) (ow15 hw) hE (by decide) (by decide)) Ae (by simp) rfl (lenOf opd5 rfl) rfl (Nat.le_of_eq rfl) (by decide) (by decide) rfl fun _ _ _ Af E G _ Ag => ?_
  obtain ⟨rfl, rfl⟩ := Ag
  show Go K _ _ _ _ [.int 0]
  refine gIstore (ls' := #[aR s, aR p, aI 6, aR u, aR up, aI 0, aI 2, aI 0]) E d24_42 rfl rfl ?_
  refine gIload E d24_44 rfl rfl ?_
  refine gAloadN E d24_46 rfl rfl rfl ?_
  have Ah := N.keep D nin0
  have Ai := Ah.keep G nin0
  have Aj := I.keep D
  have Ak := Aj.keep G
  refine wVirtual (y := mN10) (z := mN10) (Wd := 1) (a := p) (argsL := []) (rest := [.int 0]) E d24_47 (ow71 hw) (ow72 hw) (ow74 hw) (ow73 hw) (nfS (ow74 hw)) (by decide) (Cb.ct (ob_co hw hE p z Af E.old SC hz Ai) (ow75 hw) (ow15 hw) hE (by decide) (by decide)) Ak (by simp) rfl (lenOf opd5 rfl) rfl (Nat.le_of_eq rfl) (by decide) (by decide) rfl fun _ _ _ Al A Q _ Am => ?_
  obtain ⟨rfl, rfl⟩ := Am
  show Go K _ _ _ _ [.int 0, .int 0]
  refine gIcmpNo A d24_50 (teq (by decide)).2 rfl ?_
  refine gIload A d24_53 rfl rfl ?_
  refine gIconst (z := 1) A d24_55 rfl rfl ?_
  refine gIcmpYes (pc' := 63) A d24_56 (feq (by decide)).2 (by decide) rfl ?_
  refine gAloadN A d24_63 rfl rfl rfl ?_
  refine gIloadN A d24_64 rfl rfl ?_
  refine gAload A d24_65 rfl rfl rfl ?_
  refine gIconst (z := 0) A d24_67 rfl rfl ?_
  refine gIload A d24_68 rfl rfl ?_
  have An := q5.keep C nin0
  have Ao := An.keep D nin0
  have Ap := Ao.keep G nin0
  have Aq := Ap.keep Q nin0
  have Ar := P.keep G nin0
  have As := Ar.keep Q nin0
  refine wStatic (y := mN36) (Wd := 0) (argsL := [.ref u, .int 6, .ref up, .int 0, .int 2]) (rest := []) A d24_70 (ow139 hw) (ow140 hw) (ow141 hw) (ow142 hw) (by decide) (Cb.ct (ob_mm62 hw hE u ku up kp v g Al A.old Aq As) (ow142 hw) (ow141 hw) hE (by decide) (by decide)) (by simp) rfl (lenOf opd22 rfl) rfl (Nat.le_of_eq rfl) (by decide) (by decide) rfl fun _ _ _ _ L _ _ At => ?_
  obtain ⟨rfl, rfl⟩ := At
  show Go K _ _ _ _ [.int 0]
  refine gIfYes (pc' := 80) L d24_73 ((if0 _ _).trans (flt (by decide)).2.1) (by decide) rfl ?_
  refine gIconst (z := 0) L d24_80 rfl rfl ?_
  exact wRetI (so := []) (t := .boolean) L d24_81 (by simp) rfl (by decide) (by decide) (fun _ q => nomatch q) ⟨rfl, rfl⟩
theorem ob_ew62 (hw : TH a0 Z) (hE : EW Z a0 consts_1) (s u : Addr) (ku : ClassId) (p up : Addr) (kp : ClassId) (z : Int32) (v g : Nat) (h : Heap) (hO : Ol Z h) (SC : (PSC Z z)) (hz : (¬ z = 0)) (q2 : Exa Z h s "java/lang/String") (q3 : Fld Z h s "java/lang/String" "value" "[B" (.ref u)) (q4 : Fld Z h s "java/lang/String" "coder" "B" (.int 0)) (q5 : Arv Z h u ku .byte 8 (tx6 v g) (.int 0)) (q6 : Exa Z h p "java/lang/String") (q7 : Fld Z h p "java/lang/String" "value" "[B" (.ref up)) (q8 : Fld Z h p "java/lang/String" "coder" "B" (.int 0)) (q9 : Arv Z h up kp .byte 2 [.int 61, .int 61] (.int 0)) :
 Ct l Z consts_1 mN34 cN32 2 (some .boolean) ⟨3, 0, 0, 70⟩ #[.ref s, .ref p] h [] (fun rv' hp' so' => rv' = some (.int 0) ∧ so' = []) := by
  refine Ct.mk "java/lang/String" "endsWith" rfl rfl (a0 := a0) (plainFor_of_name opn2) hO hE (fun x q => nomatch q) ?_
  intro K T W
  rw [oef8]
  refine gAloadN W d23_0 rfl rfl rfl ?_
  refine gAloadN W d23_1 rfl rfl rfl ?_
  refine gAloadN W d23_2 rfl rfl rfl ?_
  refine wVirtual (y := mN11) (z := mN11) (Wd := 2) (a := s) (argsL := []) (rest := [.ref p, .ref s]) W d23_3 (ow133 hw) (ow123 hw) (ow125 hw) (ow124 hw) (nfS (ow125 hw)) (by decide) (Cb.ct (ob_ln8 hw hE s u ku (tx6 v g) z h W.old SC hz q2 q3 q4 q5) (ow126 hw) (ow15 hw) hE (by decide) (by decide)) q2 (by simp) rfl (lenOf opd19 rfl) rfl (Nat.le_of_eq rfl) (by decide) (by decide) rfl fun _ _ _ J C A _ L => ?_
  obtain ⟨rfl, rfl⟩ := L
  show Go K _ _ _ _ [.int 8, .ref p, .ref s]
  refine gAloadN C d23_6 rfl rfl rfl ?_
  have D := q6.keep A
  have F := q7.keep A nin0
  have G := q8.keep A nin0
  have H := q9.keep A nin0
  refine wVirtual (y := mN11) (z := mN11) (Wd := 3) (a := p) (argsL := []) (rest := [.int 8, .ref p, .ref s]) C d23_7 (ow133 hw) (ow123 hw) (ow125 hw) (ow124 hw) (nfS (ow125 hw)) (by decide) (Cb.ct (ob_ln2 hw hE p up kp [.int 61, .int 61] z J C.old SC hz D F G H) (ow126 hw) (ow15 hw) hE (by decide) (by decide)) D (by simp) rfl (lenOf opd19 rfl) rfl (Nat.le_of_eq rfl) (by decide) (by decide) rfl fun _ _ _ M E B _ N => ?_
  obtain ⟨rfl, rfl⟩ := N
  show Go K _ _ _ _ [.int 2, .int 8, .ref p, .ref s]
  refine gIsub (z := 6) E d23_10 (by decide) rfl ?_
  have O := q2.keep A
  have I := O.keep B
  have P := q3.keep A nin0
  have Q := P.keep B nin0
  have R := q4.keep A nin0
  have S := R.keep B nin0
  have U := q5.keep A nin0
  have V := U.keep B nin0
  have X := D.keep B
  have Y := F.keep B nin0
  have Aa := G.keep B nin0
  have Ab := H.keep B nin0
  refine wVirtual (y := mN33) (z := mN33) (Wd := 0) (a := s) (argsL := [.ref p, .int 6]) (rest := []) E d23_11 (ow134 hw) (ow135 hw) (ow137 hw) (ow136 hw) (nfS (ow137 hw)) (by decide) (Cb.ct (ob_sw62 hw hE s u ku p up kp z v g M E.old SC hz I Q S V X Y Aa Ab) (ow138 hw) (ow15 hw) hE (by decide) (by decide)) I (by simp) rfl (lenOf opd20 rfl) rfl (Nat.le_of_eq rfl) (by decide) (by decide) rfl fun _ _ _ _ Ac _ _ Ad => ?_
  obtain ⟨rfl, rfl⟩ := Ad
  show Go K _ _ _ _ [.int 0]
  exact wRetI (so := []) (t := .boolean) Ac d23_14 (by simp) rfl (by decide) (by decide) (fun _ q => nomatch q) ⟨rfl, rfl⟩
theorem ob_mm61 (hw : TH a0 Z) (hE : EW Z a0 consts_1) (u : Addr) (ku : ClassId) (up : Addr) (kp : ClassId) (v g : Nat) (h : Heap) (hO : Ol Z h) (q0 : Arv Z h u ku .byte 8 (tx6 v g) (.int 0)) (q1 : Arv Z h up kp .byte 1 [.int 61] (.int 0)) :
 Ct l Z consts_1 mN36 cN34 8 (some .int) ⟨0, 0, 0, 0⟩ #[.ref u, .int 7, .ref up, .int 0, .int 1] h [] (fun rv' hp' so' => rv' = some (.int 0) ∧ so' = []) := by
  refine Ct.mk "jdk/internal/util/ArraysSupport" "mismatch" rfl rfl (a0 := a0) (plainFor_of_name opn7) hO hE (fun x q => nomatch q) ?_
  intro K T W
  rw [oef23]
  refine gIconst (z := 0) W d25_0 rfl rfl ?_
  refine gIstore (ls' := #[aR u, aI 7, aR up, aI 0, aI 1, aI 0, aU, aU]) W d25_1 rfl rfl ?_
  refine gIload W d25_3 rfl rfl ?_
  refine gBipush (z := 7) W d25_5 rfl rfl ?_
  refine gIcmpYes (pc' := 70) W d25_7 (flt (by decide)).2.2.2 (by decide) rfl ?_
  refine gIload W d25_70 rfl rfl ?_
  refine gIload W d25_72 rfl rfl ?_
  refine gIcmpNo W d25_74 (tlt (by decide)).2.1 rfl ?_
  refine gAloadN W d25_77 rfl rfl rfl ?_
  refine gIloadN W d25_78 rfl rfl ?_
  refine gIload W d25_79 rfl rfl ?_
  refine gIadd (z := 7) W d25_81 (by decide) rfl ?_
  refine wLdB (v := (.int (Int32.ofNat (symN (sx3 g))))) W d25_82 q0 (by decide) rfl rfl ?_
  refine gAloadN W d25_83 rfl rfl rfl ?_
  refine gIloadN W d25_84 rfl rfl ?_
  refine gIload W d25_85 rfl rfl ?_
  refine gIadd (z := 0) W d25_87 (by decide) rfl ?_
  refine wLdB (v := (.int 61)) W d25_88 q1 (by decide) rfl rfl ?_
  refine gIcmpNo W d25_89 (feq (fun q => symN_61 (ofNat_inj (b := 61) (Nat.lt_of_le_of_lt (symN_le _) (by decide)) (by decide) q))).1 rfl ?_
  refine gIload W d25_92 rfl rfl ?_
  exact wRetI (so := []) (t := .int) W d25_94 (by simp) rfl (by decide) (by decide) (fun _ q => nomatch q) ⟨rfl, rfl⟩
theorem ob_sw61 (hw : TH a0 Z) (hE : EW Z a0 consts_1) (s u : Addr) (ku : ClassId) (p up : Addr) (kp : ClassId) (z : Int32) (v g : Nat) (h : Heap) (hO : Ol Z h) (SC : (PSC Z z)) (hz : (¬ z = 0)) (q2 : Exa Z h s "java/lang/String") (q3 : Fld Z h s "java/lang/String" "value" "[B" (.ref u)) (q4 : Fld Z h s "java/lang/String" "coder" "B" (.int 0)) (q5 : Arv Z h u ku .byte 8 (tx6 v g) (.int 0)) (q6 : Exa Z h p "java/lang/String") (q7 : Fld Z h p "java/lang/String" "value" "[B" (.ref up)) (q8 : Fld Z h p "java/lang/String" "coder" "B" (.int 0)) (q9 : Arv Z h up kp .byte 1 [.int 61] (.int 0)) :
 Ct l Z consts_1 mN33 cN31 8 (some .boolean) ⟨2, 0, 0, 40⟩ #[.ref s, .ref p, .int 7] h [] (fun rv' hp' so' => rv' = some (.int 0) ∧ so' = []) := by
  refine Ct.mk "java/lang/String" "startsWith" rfl rfl (a0 := a0) (plainFor_of_name opn2) hO hE (fun x q => nomatch q) ?_
  intro K T W
  rw [oef21]
  refine gIloadN W d24_0 rfl rfl ?_
  refine gIfNo W d24_1 ((if0 _ _).trans (flt (by decide)).1) rfl ?_
  refine gIloadN W d24_4 rfl rfl ?_
  refine gAloadN W d24_5 rfl rfl rfl ?_
  refine wVirtual (y := mN11) (z := mN11) (Wd := 1) (a := s) (argsL := []) (rest := [.int 7]) W d24_6 (ow133 hw) (ow123 hw) (ow125 hw) (ow124 hw) (nfS (ow125 hw)) (by decide) (Cb.ct (ob_ln8 hw hE s u ku (tx6 v g) z h W.old SC hz q2 q3 q4 q5) (ow126 hw) (ow15 hw) hE (by decide) (by decide)) q2 (by simp) rfl (lenOf opd19 rfl) rfl (Nat.le_of_eq rfl) (by decide) (by decide) rfl fun _ _ _ R H C _ S => ?_
  obtain ⟨rfl, rfl⟩ := S
  show Go K _ _ _ _ [.int 8, .int 7]
  refine gAloadN H d24_9 rfl rfl rfl ?_
  have I := q6.keep C
  have M := q7.keep C nin0
  have N := q8.keep C nin0
  have O := q9.keep C nin0
  refine wVirtual (y := mN11) (z := mN11) (Wd := 2) (a := p) (argsL := []) (rest := [.int 8, .int 7]) H d24_10 (ow133 hw) (ow123 hw) (ow125 hw) (ow124 hw) (nfS (ow125 hw)) (by decide) (Cb.ct (ob_ln1 hw hE p up kp [.int 61] z R H.old SC hz I M N O) (ow126 hw) (ow15 hw) hE (by decide) (by decide)) I (by simp) rfl (lenOf opd19 rfl) rfl (Nat.le_of_eq rfl) (by decide) (by decide) rfl fun _ _ _ U F D _ V => ?_
  obtain ⟨rfl, rfl⟩ := V
  show Go K _ _ _ _ [.int 1, .int 8, .int 7]
  refine gIsub (z := 7) F d24_13 (by decide) rfl ?_
  refine gIcmpYes (pc' := 19) F d24_14 (flt (by decide)).2.2.2 (by decide) rfl ?_
  refine gAloadN F d24_19 rfl rfl rfl ?_
  have X := q3.keep C nin0
  have Y := X.keep D nin0
  refine wGetF F d24_20 (ow39 hw) Via.refl Y rfl fun _ J => ?_
  refine gAstoreN (ls' := #[aR s, aR p, aI 7, aR u, aU, aU, aU, aU]) J d24_23 rfl rfl rfl ?_
  refine gAloadN J d24_24 rfl rfl rfl ?_
  have Aa := M.keep D nin0
  refine wGetF J d24_25 (ow39 hw) Via.refl Aa rfl fun _ B => ?_
  refine gAstore (ls' := #[aR s, aR p, aI 7, aR u, aR up, aU, aU, aU]) B d24_28 rfl rfl rfl ?_
  refine gIconst (z := 0) B d24_30 rfl rfl ?_
  refine gIstore (ls' := #[aR s, aR p, aI 7, aR u, aR up, aI 0, aU, aU]) B d24_31 rfl rfl ?_
  refine gAload B d24_33 rfl rfl rfl ?_
  have P := O.keep D nin0
  refine wLen B d24_35 P rfl ?_
  refine gIstore (ls' := #[aR s, aR p, aI 7, aR u, aR up, aI 0, aI 1, aU]) B d24_36 rfl rfl ?_
  refine gAloadN B d24_38 rfl rfl rfl ?_
  have Ab := q4.keep C nin0
  have Ac := Ab.keep D nin0
  have Ad := q2.keep C
  have Ae := Ad.keep D
  refine wVirtual (y := mN10) (z := mN10) (Wd := 0) (a := s) (argsL := []) (rest := []) B d24_39 (ow71 hw) (ow72 hw) (ow74 hw) (ow73 hw) (nfS (ow74 hw)) (by decide) (Cb.ct (ob_co hw hE s z U B.old SC hz Ac) (ow75 hw) (ow15 hw) hE (by decide) (by decide)) Ae (by simp) rfl (lenOf opd5 rfl) rfl (Nat.le_of_eq rfl) (by decide) (by decide) rfl fun _ _ _ Af E G _ Ag => ?_
  obtain ⟨rfl, rfl⟩ := Ag
  show Go K _ _ _ _ [.int 0]
  refine gIstore (ls' := #[aR s, aR p, aI 7, aR u, aR up, aI 0, aI 1, aI 0]) E d24_42 rfl rfl ?_
  refine gIload E d24_44 rfl rfl ?_
  refine gAloadN E d24_46 rfl rfl rfl ?_
  have Ah := N.keep D nin0
  have Ai := Ah.keep G nin0
  have Aj := I.keep D
  have Ak := Aj.keep G
  refine wVirtual (y := mN10) (z := mN10) (Wd := 1) (a := p) (argsL := []) (rest := [.int 0]) E d24_47 (ow71 hw) (ow72 hw) (ow74 hw) (ow73 hw) (nfS (ow74 hw)) (by decide) (Cb.ct (ob_co hw hE p z Af E.old SC hz Ai) (ow75 hw) (ow15 hw) hE (by decide) (by decide)) Ak (by simp) rfl (lenOf opd5 rfl) rfl (Nat.le_of_eq rfl) (by decide) (by decide) rfl fun _ _ _ Al A Q _ Am => ?_
  obtain ⟨rfl, rfl⟩ := Am
  show Go K _ _ _ _ [.int 0, .int 0]
  refine gIcmpNo A d24_50 (teq (by decide)).2 rfl ?_
  refine gIload A d24_53 rfl rfl ?_
  refine gIconst (z := 1) A d24_55 rfl rfl ?_
  refine gIcmpYes (pc' := 63) A d24_56 (feq (by decide)).2 (by decide) rfl ?_
  refine gAloadN A d24_63 rfl rfl rfl ?_
  refine gIloadN A d24_64 rfl rfl ?_
  refine gAload A d24_65 rfl rfl rfl ?_
  refine gIconst (z := 0) A d24_67 rfl rfl ?_
  refine gIload A d24_68 rfl rfl ?_
  have An := q5.keep C nin0
  have Ao := An.keep D nin0
  have Ap := Ao.keep G nin0
  have Aq := Ap.keep Q nin0
  have Ar := P.keep G nin0
  have As := Ar.keep Q nin0
  refine wStatic (y := mN36) (Wd := 0) (argsL := [.ref u, .int 7, .ref up, .int 0, .int 1]) (rest := []) A d24_70 (ow139 hw) (ow140 hw) (ow141 hw) (ow142 hw) (by decide) (Cb.ct (ob_mm61 hw hE u ku up kp v g Al A.old Aq As) (ow142 hw) (ow141 hw) hE (by decide) (by decide)) (by simp) rfl (lenOf opd22 rfl) rfl (Nat.le_of_eq rfl) (by decide) (by decide) rfl fun _ _ _ _ L _ _ At => ?_
  obtain ⟨rfl, rfl⟩ := At
  show Go K _ _ _ _ [.int 0]
  refine gIfYes (pc' := 80) L d24_73 ((if0 _ _).trans (flt (by decide)).2.1) (by decide) rfl ?_
  refine gIconst (z := 0) L d24_80 rfl rfl ?_
  exact wRetI (so := []) (t := .boolean) L d24_81 (by simp) rfl (by decide) (by decide) (fun _ q => nomatch q) ⟨rfl, rfl⟩
theorem ob_ew61 (hw : TH a0 Z) (hE : EW Z a0 consts_1) (s u : Addr) (ku : ClassId) (p up : Addr) (kp : ClassId) (z : Int32) (v g : Nat) (h : Heap) (hO : Ol Z h) (SC : (PSC Z z)) (hz : (¬ z = 0)) (q2 : Exa Z h s "java/lang/String") (q3 : Fld Z h s "java/lang/String" "value" "[B" (.ref u)) (q4 : Fld Z h s "java/lang/String" "coder" "B" (.int 0)) (q5 : Arv Z h u ku .byte 8 (tx6 v g) (.int 0)) (q6 : Exa Z h p "java/lang/String") (q7 : Fld Z h p "java/lang/String" "value" "[B" (.ref up)) (q8 : Fld Z h p "java/lang/String" "coder" "B" (.int 0)) (q9 : Arv Z h up kp .byte 1 [.int 61] (.int 0)) :
 Ct l Z consts_1 mN34 cN32 2 (some .boolean) ⟨3, 0, 0, 70⟩ #[.ref s, .ref p] h [] (fun rv' hp' so' => rv' = some (.int 0) ∧ so' = []) := by
  refine Ct.mk "java/lang/String" "endsWith" rfl rfl (a0 := a0) (plainFor_of_name opn2) hO hE (fun x q => nomatch q) ?_
  intro K T W
  rw [oef8]
  refine gAloadN W d23_0 rfl rfl rfl ?_
  refine gAloadN W d23_1 rfl rfl rfl ?_
  refine gAloadN W d23_2 rfl rfl rfl ?_
  refine wVirtual (y := mN11) (z := mN11) (Wd := 2) (a := s) (argsL := []) (rest := [.ref p, .ref s]) W d23_3 (ow133 hw) (ow123 hw) (ow125 hw) (ow124 hw) (nfS (ow125 hw)) (by decide) (Cb.ct (ob_ln8 hw hE s u ku (tx6 v g) z h W.old SC hz q2 q3 q4 q5) (ow126 hw) (ow15 hw) hE (by decide) (by decide)) q2 (by simp) rfl (lenOf opd19 rfl) rfl (Nat.le_of_eq rfl) (by decide) (by decide) rfl fun _ _ _ J C A _ L => ?_
  obtain ⟨rfl, rfl⟩ := L
  show Go K _ _ _ _ [.int 8, .ref p, .ref s]
  refine gAloadN C d23_6 rfl rfl rfl ?_
  have D := q6.keep A
  have F := q7.keep A nin0
  have G := q8.keep A nin0
  have H := q9.keep A nin0
  refine wVirtual (y := mN11) (z := mN11) (Wd := 3) (a := p) (argsL := []) (rest := [.int 8, .ref p, .ref s]) C d23_7 (ow133 hw) (ow123 hw) (ow125 hw) (ow124 hw) (nfS (ow125 hw)) (by decide) (Cb.ct (ob_ln1 hw hE p up kp [.int 61] z J C.old SC hz D F G H) (ow126 hw) (ow15 hw) hE (by decide) (by decide)) D (by simp) rfl (lenOf opd19 rfl) rfl (Nat.le_of_eq rfl) (by decide) (by decide) rfl fun _ _ _ M E B _ N => ?_
  obtain ⟨rfl, rfl⟩ := N
  show Go K _ _ _ _ [.int 1, .int 8, .ref p, .ref s]
  refine gIsub (z := 7) E d23_10 (by decide) rfl ?_
  have O := q2.keep A
  have I := O.keep B
  have P := q3.keep A nin0
  have Q := P.keep B nin0
  have R := q4.keep A nin0
  have S := R.keep B nin0
  have U := q5.keep A nin0
  have V := U.keep B nin0
  have X := D.keep B
  have Y := F.keep B nin0
  have Aa := G.keep B nin0
  have Ab := H.keep B nin0
  refine wVirtual (y := mN33) (z := mN33) (Wd := 0) (a := s) (argsL := [.ref p, .int 7]) (rest := []) E d23_11 (ow134 hw) (ow135 hw) (ow137 hw) (ow136 hw) (nfS (ow137 hw)) (by decide) (Cb.ct (ob_sw61 hw hE s u ku p up kp z v g M E.old SC hz I Q S V X Y Aa Ab) (ow138 hw) (ow15 hw) hE (by decide) (by decide)) I (by simp) rfl (lenOf opd20 rfl) rfl (Nat.le_of_eq rfl) (by decide) (by decide) rfl fun _ _ _ _ Ac _ _ Ad => ?_
  obtain ⟨rfl, rfl⟩ := Ad
  show Go K _ _ _ _ [.int 0]
  exact wRetI (so := []) (t := .boolean) Ac d23_14 (by simp) rfl (by decide) (by decide) (fun _ q => nomatch q) ⟨rfl, rfl⟩
theorem ob_is6 (hw : TH a0 Z) (hE : EW Z a0 consts_1) (s u : Addr) (ku : ClassId) (z : Int32) (fm : Value) (v g : Nat) (h : Heap) (hO : Ol Z h) (SC : (PSC Z z)) (hz : (¬ z = 0)) (SF : (PSF Z fm)) (rf : (fm.isRef = true)) (q4 : Exa Z h s "java/lang/String") (q5 : Fld Z h s "java/lang/String" "value" "[B" (.ref u)) (q6 : Fld Z h s "java/lang/String" "coder" "B" (.int 0)) (q7 : Arv Z h u ku .byte 8 (tx6 v g) (.int 0)) (hv : (v < 16777216)) (hg : (g < 16777216)) :
 Ct l Z consts_1 mN35 cN33 4 (some .boolean) ⟨4, 6, 300, 95⟩ #[.ref s] h [] (fun rv' hp' so' => rv' = some (.int 1) ∧ so' = []) := by
  refine Ct.mk "com/example/drafts_under_key/draftsunderkey/crypto/StrictBase64" "isCanonical" rfl rfl (a0 := a0) (plainFor_of_name opn6) hO hE (fun x q => nomatch q) ?_
  intro K T W
  rw [oef22]
  refine gAloadN W d21_0 rfl rfl rfl ?_
  refine wVirtual (y := mN11) (z := mN11) (Wd := 0) (a := s) (argsL := []) (rest := []) W d21_1 (ow122 hw) (ow123 hw) (ow125 hw) (ow124 hw) (nfS (ow125 hw)) (by decide) (Cb.ct (ob_ln8 hw hE s u ku (tx6 v g) z h W.old SC hz q4 q5 q6 q7) (ow126 hw) (ow15 hw) hE (by decide) (by decide)) q4 (by simp) rfl (lenOf opd19 rfl) rfl (Nat.le_of_eq rfl) (by decide) (by decide) rfl fun _ _ _ _ B C _ Aa => ?_
  obtain ⟨rfl, rfl⟩ := Aa
  show Go K _ _ _ _ [.int 8]
  refine gIconst (z := 4) B d21_4 rfl rfl ?_
  refine gIrem (z := 0) B d21_5 (by decide) (by decide) rfl ?_
  refine gIfYes (pc' := 11) B d21_6 ((if0 _ _).trans (teq (by decide)).1) (by decide) rfl ?_
  refine gAloadN B d21_11 rfl rfl rfl ?_
  refine wLdcS (vs := [.int 61, .int 61]) (z := 2) (n := 8) B d21_12 (ow127 hw) (owS hw) hE (by decide) (by decide) (by decide) (by decide) (by decide) (by decide) (by decide) (by decide) rfl fun _ I J L M N D Ab Ac Ad Ae _ => ?_
  have Af : Arv Z I L M .byte 2 [.int 61, .int 61] (.int 0) := Ae
  have Ag := q4.keep C
  have G := Ag.ext D
  have Ah := q5.keep C nin0
  have O := Ah.ext D
  have Ai := q6.keep C nin0
  have P := Ai.ext D
  have Aj := q7.keep C nin0
  have Q := Aj.ext D
  refine wVirtual (y := mN34) (z := mN34) (Wd := 0) (a := s) (argsL := [.ref J]) (rest := []) N d21_14 (ow128 hw) (ow129 hw) (ow131 hw) (ow130 hw) (nfS (ow131 hw)) (by decide) (Cb.ct (ob_ew62 hw hE s u ku J L M z v g I N.old SC hz G O P Q Ab Ad Ac Af) (ow132 hw) (ow15 hw) hE (by decide) (by decide)) G (by simp) rfl (lenOf opd21 rfl) rfl (Nat.le_of_eq rfl) (by decide) (by decide) rfl fun _ _ _ _ H E _ Ak => ?_
  obtain ⟨rfl, rfl⟩ := Ak
  show Go K _ _ _ _ [.int 0]
  refine gIfYes (pc' := 24) H d21_17 ((if0 _ _).trans (teq (by decide)).1) (by decide) rfl ?_
  refine gAloadN H d21_24 rfl rfl rfl ?_
  refine wLdcS (vs := [.int 61]) (z := 1) (n := 4) H d21_25 (ow143 hw) (owS hw) hE (by decide) (by decide) (by decide) (by decide) (by decide) (by decide) (by decide) (by decide) rfl fun _ R S U V X F Al Am An Ao _ => ?_
  have Ap : Arv Z R U V .byte 1 [.int 61] (.int 0) := Ao
  have Aq := G.keep E
  have Y := Aq.ext F
  have Ar := O.keep E nin0
  have As := Ar.ext F
  have At := P.keep E nin0
  have Au := At.ext F
  have Av := Q.keep E nin0
  have Aw := Av.ext F
  refine wVirtual (y := mN34) (z := mN34) (Wd := 0) (a := s) (argsL := [.ref S]) (rest := []) X d21_27 (ow128 hw) (ow129 hw) (ow131 hw) (ow130 hw) (nfS (ow131 hw)) (by decide) (Cb.ct (ob_ew61 hw hE s u ku S U V z v g R X.old SC hz Y As Au Aw Al An Am Ap) (ow132 hw) (ow15 hw) hE (by decide) (by decide)) Y (by simp) rfl (lenOf opd21 rfl) rfl (Nat.le_of_eq rfl) (by decide) (by decide) rfl fun _ _ _ _ A _ _ Ax => ?_
  obtain ⟨rfl, rfl⟩ := Ax
  show Go K _ _ _ _ [.int 0]
  refine gIfYes (pc' := 37) A d21_30 ((if0 _ _).trans (teq (by decide)).1) (by decide) rfl ?_
  refine gIconst (z := 0) A d21_37 rfl rfl ?_
  refine gIstoreN (ls' := #[aR s, aI 0, aU, aU]) A d21_38 rfl rfl ?_
  refine gIloadN A d21_39 rfl rfl ?_
  refine gIfNo A d21_40 ((if0 _ _).trans (teq (by decide)).2) rfl ?_
  refine gIconst (z := 1) A d21_43 rfl rfl ?_
  exact wRetI (so := []) (t := .boolean) A d21_44 (by simp) rfl (by decide) (by decide) (fun _ q => nomatch q) ⟨rfl, rfl⟩
-- CUT
abbrev mN39 : MethodName := (⟨"java/util/Base64", "getDecoder", "()Ljava/util/Base64$Decoder;"⟩ : MethodName)
abbrev cN37 := jdk_2448_method_6_code
theorem opn8 : plainName "java/util/Base64" = true := by first | (simp [plainName, overriddenIn]; done) | decide +kernel
theorem d11_0 : Dc cN37 0 (.getstatic 57) 3 := by decide +kernel
theorem ow57 (hw : TH a0 Z) : Bf a0 Z (.fieldLink "java/util/Base64" 57 "java/util/Base64$Decoder" "RFC4648" "Ljava/util/Base64$Decoder;") := mo 57 rfl hw
theorem d11_3 : Dc cN37 3 (.areturn) 1 := by decide +kernel
theorem oef24 (m_ : MethodId) : (entryFrame m_ #[] 0).locals = #[] := by first | (simp [entryFrame, argsToLocals, Value.category]; done) | rfl
theorem ob_gd (hw : TH a0 Z) (hE : EW Z a0 consts_1) (dd : Addr) (h : Heap) (hO : Ol Z h) (SD : (Sta Z Z.heap "java/util/Base64$Decoder" "RFC4648" "Ljava/util/Base64$Decoder;" (.ref dd))) :
 Ct l Z consts_1 mN39 cN37 0 (some (.object "java/util/Base64$Decoder")) ⟨0, 0, 0, 0⟩ #[] h [] (fun rv' hp' so' => rv' = some (.ref dd) ∧ so' = []) := by
  refine Ct.mk "java/util/Base64" "getDecoder" rfl rfl (a0 := a0) (plainFor_of_name opn8) hO hE (fun x q => nomatch q) ?_
  intro K T W
  rw [oef24]
  refine wGetS W d11_0 (ow57 hw) Via.refl SD rfl fun _ A => ?_
  exact wRetA (so := []) (t := .object "java/util/Base64$Decoder") A d11_3 rfl rfl rfl (by decide) (by decide) (fun _ q => nomatch q) ⟨rfl, rfl⟩
abbrev mN40 : MethodName := (⟨"java/util/Objects", "requireNonNull", "(Ljava/lang/Object;Ljava/lang/String;)Ljava/lang/Object;"⟩ : MethodName)
abbrev cN38 := jdk_31_method_11_code
theorem opn9 : plainName "java/util/Objects" = true := by first | (simp [plainName, overriddenIn]; done) | decide +kernel
theorem d10_0 : Dc cN38 0 (.aload_n 0) 1 := by decide +kernel
theorem d10_1 : Dc cN38 1 (.ifnonnull 12) 3 := by decide +kernel
theorem d10_13 : Dc cN38 13 (.aload_n 0) 1 := by decide +kernel
theorem d10_14 : Dc cN38 14 (.areturn) 1 := by decide +kernel
theorem ob_rn (hw : TH a0 Z) (hE : EW Z a0 consts_1) (a b : Addr) (h : Heap) (hO : Ol Z h) :
 Ct l Z consts_1 mN40 cN38 2 (some (.object "java/lang/Object")) ⟨0, 0, 0, 0⟩ #[.ref a, .ref b] h [] (fun rv' hp' so' => rv' = some (.ref a) ∧ so' = []) := by
  refine Ct.mk "java/util/Objects" "requireNonNull" rfl rfl (a0 := a0) (plainFor_of_name opn9) hO hE (fun x q => nomatch q) ?_
  intro K T W
  rw [oef8]
  refine gAloadN W d10_0 rfl rfl rfl ?_
  refine gIfnonnullYes (pc' := 13) W d10_1 (by decide) rfl ?_
  refine gAloadN W d10_13 rfl rfl rfl ?_
  exact wRetA (so := []) (t := .object "java/lang/Object") W d10_14 rfl rfl rfl (by decide) (by decide) (fun _ q => nomatch q) ⟨rfl, rfl⟩
abbrev mN41 : MethodName := (⟨"com/example/drafts_under_key/draftsunderkey/crypto/StrictBase64", "decode", "(Ljava/lang/String;Ljava/lang/String;)[B"⟩ : MethodName)
abbrev cN39 := prog_19_method_2_code
theorem d140_0 : Dc cN39 0 (.aload_n 0) 1 := by decide +kernel
theorem d140_1 : Dc cN39 1 (.ldc 7) 2 := by decide +kernel
theorem ow48 (hw : TH a0 Z) : Bf a0 Z (.stringLink "com/example/drafts_under_key/draftsunderkey/crypto/StrictBase64" 7 "text") := mo 48 rfl hw
theorem d140_3 : Dc cN39 3 (.invokestatic 9) 3 := by decide +kernel
theorem ow49 (hw : TH a0 Z) : Bf a0 Z (.methodLink "com/example/drafts_under_key/draftsunderkey/crypto/StrictBase64" 9 mN40) := mo 49 rfl hw
theorem ow51 (hw : TH a0 Z) : Bf a0 Z (.initialized "java/util/Objects") := mo 51 rfl hw
theorem ow52 (hw : TH a0 Z) : Bf a0 Z (.code mN40 cN38 2 (some (.object "java/lang/Object"))) := mo 52 rfl hw
theorem opd26 : parseMethodDescriptor "(Ljava/lang/Object;Ljava/lang/String;)Ljava/lang/Object;" = some ⟨[.object "java/lang/Object", .object "java/lang/String"], some (.object "java/lang/Object")⟩ := by decide +kernel
theorem ow50 (hw : TH a0 Z) : Bf a0 Z (.static mN40) := mo 50 rfl hw
theorem d140_6 : Dc cN39 6 (.pop) 1 := by decide +kernel
theorem d140_7 : Dc cN39 7 (.invokestatic 15) 3 := by decide +kernel
theorem ow53 (hw : TH a0 Z) : Bf a0 Z (.methodLink "com/example/drafts_under_key/draftsunderkey/crypto/StrictBase64" 15 mN39) := mo 53 rfl hw
theorem ow55 (hw : TH a0 Z) : Bf a0 Z (.initialized "java/util/Base64") := mo 55 rfl hw
theorem ow56 (hw : TH a0 Z) : Bf a0 Z (.code mN39 cN37 0 (some (.object "java/util/Base64$Decoder"))) := mo 56 rfl hw
theorem opd27 : parseMethodDescriptor "()Ljava/util/Base64$Decoder;" = some ⟨[], some (.object "java/util/Base64$Decoder")⟩ := by decide +kernel
theorem ow54 (hw : TH a0 Z) : Bf a0 Z (.static mN39) := mo 54 rfl hw
theorem d140_10 : Dc cN39 10 (.aload_n 0) 1 := by decide +kernel
theorem d140_11 : Dc cN39 11 (.invokevirtual 21) 3 := by decide +kernel
theorem ow63 (hw : TH a0 Z) : Bf a0 Z (.code mN21 cN19 2 (some (.array .byte))) := mo 63 rfl hw
theorem opd28 : parseMethodDescriptor "(Ljava/lang/String;)[B" = some ⟨[.object "java/lang/String"], some (.array .byte)⟩ := by decide +kernel
theorem ow59 (hw : TH a0 Z) : Bf a0 Z (.methodLink "com/example/drafts_under_key/draftsunderkey/crypto/StrictBase64" 21 mN21) := mo 59 rfl hw
theorem ow60 (hw : TH a0 Z) : Bf a0 Z (.declares mN21) := mo 60 rfl hw
theorem ow62 (hw : TH a0 Z) : Bf a0 Z (.selects "java/util/Base64$Decoder" mN21 mN21) := mo 62 rfl hw
theorem ow61 (hw : TH a0 Z) : Bf a0 Z (.instanceMethod mN21) := mo 61 rfl hw
theorem d140_14 : Dc cN39 14 (.astore_n 2) 1 := by decide +kernel
theorem d140_15 : Dc cN39 15 (.aload_n 0) 1 := by decide +kernel
theorem d140_16 : Dc cN39 16 (.invokestatic 27) 3 := by decide +kernel
theorem ow119 (hw : TH a0 Z) : Bf a0 Z (.methodLink "com/example/drafts_under_key/draftsunderkey/crypto/StrictBase64" 27 mN35) := mo 119 rfl hw
theorem ow46 (hw : TH a0 Z) : Bf a0 Z (.initialized "com/example/drafts_under_key/draftsunderkey/crypto/StrictBase64") := mo 46 rfl hw
theorem ow121 (hw : TH a0 Z) : Bf a0 Z (.code mN35 cN33 4 (some .boolean)) := mo 121 rfl hw
theorem ow120 (hw : TH a0 Z) : Bf a0 Z (.static mN35) := mo 120 rfl hw
theorem d140_19 : Dc cN39 19 (.ifCond .eq 5) 3 := by decide +kernel
theorem d140_22 : Dc cN39 22 (.aload_n 2) 1 := by decide +kernel
theorem d140_23 : Dc cN39 23 (.areturn) 1 := by decide +kernel
theorem oef25 (m_ : MethodId) (y0_ : Addr) (y1_ : Addr) : (entryFrame m_ #[.ref y0_, .ref y1_] 3).locals = #[aR y0_, aR y1_, aU] := by first | (simp [entryFrame, argsToLocals, Value.category]; done) | rfl
theorem ob_ds0 (hw : TH a0 Z) (hE : EW Z a0 consts_1) (dd s u : Addr) (ku : ClassId) (p : Addr) (z : Int32) (fm : Value) (iso u8 tb : Addr) (ktb : ClassId) (h : Heap) (hO : Ol Z h) (SC : (PSC Z z)) (hz : (¬ z = 0)) (SF : (PSF Z fm)) (rf : (fm.isRef = true)) (SI : (PSI Z iso)) (SU : (PSU Z u8)) (niu : (iso ≠ u8)) (SD : (PSD Z dd)) (DE : (PDE Z dd)) (DU : (PDU Z dd)) (DM : (PDM Z dd)) (TS : (PTS Z tb)) (TA : (PTA Z tb ktb)) (q13 : Exa Z h s "java/lang/String") (q14 : Fld Z h s "java/lang/String" "value" "[B" (.ref u)) (q15 : Fld Z h s "java/lang/String" "coder" "B" (.int 0)) (q16 : Arv Z h u ku .byte 0 [] (.int 0)) (q17 : Exa Z h u "[B") :
 CtW l Z consts_1 mN41 cN39 3 (some (.array .byte)) [(7, 23, 27, 33)] ⟨6, 10, 360, 125⟩ #[.ref s, .ref p] h [] (fun rv' hp' so' => ∃ r : Addr, ∃ kr : ClassId, rv' = some (.ref r) ∧ so' = [] ∧ (h.size ≤ r) ∧ Arv Z hp' r kr .byte 0 [] (.int 0)) := by
  refine CtW.mk "com/example/drafts_under_key/draftsunderkey/crypto/StrictBase64" "decode" rfl rfl (a0 := a0) (plainFor_of_name opn6) hO hE (fun x q => nomatch q) ?_
  intro K T W
  rw [oef25]
  refine gAloadN W d140_0 rfl rfl rfl ?_
  refine wLdcS (vs := [.int 116, .int 101, .int 120, .int 116]) (z := 4) (n := 16) W d140_1 (ow48 hw) (owS hw) hE (by decide) (by decide) (by decide) (by decide) (by decide) (by decide) (by decide) (by decide) rfl fun _ R J _ _ L B _ _ _ _ _ => ?_
  refine wStatic (y := mN40) (Wd := 0) (argsL := [.ref s, .ref J]) (rest := []) L d140_3 (ow49 hw) (ow50 hw) (ow51 hw) (ow52 hw) (by decide) (Cb.ct (ob_rn hw hE s J R L.old) (ow52 hw) (ow51 hw) hE (by decide) (by decide)) (by simp) rfl (lenOf opd26 rfl) rfl (Nat.le_of_eq rfl) (by decide) (by decide) rfl fun _ _ _ S G C _ U => ?_
  obtain ⟨rfl, rfl⟩ := U
  show Go K _ _ _ _ [.ref s]
  refine gPop G d140_6 rfl rfl ?_
  refine wStatic (y := mN39) (Wd := 0) (argsL := []) (rest := []) G d140_7 (ow53 hw) (ow54 hw) (ow55 hw) (ow56 hw) (by decide) (Cb.ct (ob_gd hw hE dd S G.old SD) (ow56 hw) (ow55 hw) hE (by decide) (by decide)) (by simp) rfl (lenOf opd27 rfl) rfl (Nat.le_of_eq rfl) (by decide) (by decide) rfl fun _ _ _ V A D _ X => ?_
  obtain ⟨rfl, rfl⟩ := X
  show Go K _ _ _ _ [.ref dd]
  have M := DE.ext A.old.2
  have Y := DU.ext A.old.2
  have Aa := DM.ext A.old.2
  refine gAloadN A d140_10 rfl rfl rfl ?_
  have Ab := q13.ext B
  have Ac := Ab.keep C
  have N := Ac.keep D
  have Ad := q14.ext B
  have Ae := Ad.keep C nin0
  have O := Ae.keep D nin0
  have Af := q15.ext B
  have Ag := Af.keep C nin0
  have P := Ag.keep D nin0
  have Ah := q16.ext B
  have Ai := Ah.keep C nin0
  have Q := Ai.keep D nin0
  have Aj := q17.ext B
  have Ak := Aj.keep C
  have Al := Ak.keep D
  refine wVirtual (y := mN21) (z := mN21) (Wd := 0) (a := dd) (argsL := [.ref s]) (rest := []) A d140_11 (ow59 hw) (ow60 hw) (ow62 hw) (ow61 hw) (nfS (ow62 hw)) (by decide) (Cb.ct (ob_dcS0 hw hE dd s u ku z iso u8 tb ktb V A.old SC hz SI SU niu M Y Aa TS TA N O P Q Al) (ow63 hw) (ow58 hw) hE (by decide) (by decide)) M (by simp) rfl (lenOf opd28 rfl) rfl (Nat.le_of_eq rfl) (by decide) (by decide) rfl fun _ _ _ Am E F _ An => ?_
  obtain ⟨H, Ao, rfl, rfl, Ap, Aq⟩ := An
  show Go K _ _ _ _ [.ref H]
  refine gAstoreN (ls' := #[aR s, aR p, aR H]) E d140_14 rfl rfl rfl ?_
  refine gAloadN E d140_15 rfl rfl rfl ?_
  have Ar := N.keep F
  have As := O.keep F nin0
  have At := P.keep F nin0
  have Au := Q.keep F nin0
  refine wStatic (y := mN35) (Wd := 0) (argsL := [.ref s]) (rest := []) E d140_16 (ow119 hw) (ow120 hw) (ow46 hw) (ow121 hw) (by decide) (Cb.ct (ob_is0 hw hE s u ku z fm Am E.old SC hz SF rf Ar As At Au) (ow121 hw) (ow46 hw) hE (by decide) (by decide)) (by simp) rfl (lenOf opd21 rfl) rfl (Nat.le_of_eq rfl) (by decide) (by decide) rfl fun _ _ _ _ I Av _ Aw => ?_
  obtain ⟨rfl, rfl⟩ := Aw
  show Go K _ _ _ _ [.int 1]
  refine gIfNo I d140_19 ((if0 _ _).trans (feq (by decide)).1) rfl ?_
  refine gAloadN I d140_22 rfl rfl rfl ?_
  have Ax := Aq.keep Av nin0
  exact wRetA (so := []) (t := .array .byte) I d140_23 rfl rfl rfl (by decide) (by decide) (fun _ q => nomatch q) ⟨H, Ao, rfl, rfl, (Nat.le_trans A.grow Ap), Ax⟩
theorem ob_ds1 (hw : TH a0 Z) (hE : EW Z a0 consts_1) (dd s u : Addr) (ku : ClassId) (p : Addr) (z : Int32) (fm : Value) (iso u8 tb : Addr) (ktb : ClassId) (v : Nat) (h : Heap) (hO : Ol Z h) (SC : (PSC Z z)) (hz : (¬ z = 0)) (SF : (PSF Z fm)) (rf : (fm.isRef = true)) (SI : (PSI Z iso)) (SU : (PSU Z u8)) (niu : (iso ≠ u8)) (SD : (PSD Z dd)) (DE : (PDE Z dd)) (DU : (PDU Z dd)) (DM : (PDM Z dd)) (TS : (PTS Z tb)) (TA : (PTA Z tb ktb)) (q13 : Exa Z h s "java/lang/String") (q14 : Fld Z h s "java/lang/String" "value" "[B" (.ref u)) (q15 : Fld Z h s "java/lang/String" "coder" "B" (.int 0)) (q16 : Arv Z h u ku .byte 4 (tx1 v) (.int 0)) (q17 : Exa Z h u "[B") (hv : (v < 16777216)) (hzv : (v % 65536 = 0)) :
 CtW l Z consts_1 mN41 cN39 3 (some (.array .byte)) [(7, 23, 27, 33)] ⟨6, 10, 360, 125⟩ #[.ref s, .ref p] h [] (fun rv' hp' so' => ∃ r : Addr, ∃ kr : ClassId, rv' = some (.ref r) ∧ so' = [] ∧ (h.size ≤ r) ∧ Arv Z hp' r kr .byte 1 [.int (sb (v / 65536))] (.int 0)) := by
  refine CtW.mk "com/example/drafts_under_key/draftsunderkey/crypto/StrictBase64" "decode" rfl rfl (a0 := a0) (plainFor_of_name opn6) hO hE (fun x q => nomatch q) ?_
  intro K T W
  rw [oef25]
  refine gAloadN W d140_0 rfl rfl rfl ?_
  refine wLdcS (vs := [.int 116, .int 101, .int 120, .int 116]) (z := 4) (n := 16) W d140_1 (ow48 hw) (owS hw) hE (by decide) (by decide) (by decide) (by decide) (by decide) (by decide) (by decide) (by decide) rfl fun _ R J _ _ L B _ _ _ _ _ => ?_
  refine wStatic (y := mN40) (Wd := 0) (argsL := [.ref s, .ref J]) (rest := []) L d140_3 (ow49 hw) (ow50 hw) (ow51 hw) (ow52 hw) (by decide) (Cb.ct (ob_rn hw hE s J R L.old) (ow52 hw) (ow51 hw) hE (by decide) (by decide)) (by simp) rfl (lenOf opd26 rfl) rfl (Nat.le_of_eq rfl) (by decide) (by decide) rfl fun _ _ _ S G C _ U => ?_
  obtain ⟨rfl, rfl⟩ := U
  show Go K _ _ _ _ [.ref s]
  refine gPop G d140_6 rfl rfl ?_
  refine wStatic (y := mN39) (Wd := 0) (argsL := []) (rest := []) G d140_7 (ow53 hw) (ow54 hw) (ow55 hw) (ow56 hw) (by decide) (Cb.ct (ob_gd hw hE dd S G.old SD) (ow56 hw) (ow55 hw) hE (by decide) (by decide)) (by simp) rfl (lenOf opd27 rfl) rfl (Nat.le_of_eq rfl) (by decide) (by decide) rfl fun _ _ _ V A D _ X => ?_
  obtain ⟨rfl, rfl⟩ := X
  show Go K _ _ _ _ [.ref dd]
  have M := DE.ext A.old.2
  have Y := DU.ext A.old.2
  have Aa := DM.ext A.old.2
  refine gAloadN A d140_10 rfl rfl rfl ?_
  have Ab := q13.ext B
  have Ac := Ab.keep C
  have N := Ac.keep D
  have Ad := q14.ext B
  have Ae := Ad.keep C nin0
  have O := Ae.keep D nin0
  have Af := q15.ext B
  have Ag := Af.keep C nin0
  have P := Ag.keep D nin0
  have Ah := q16.ext B
  have Ai := Ah.keep C nin0
  have Q := Ai.keep D nin0
  have Aj := q17.ext B
  have Ak := Aj.keep C
  have Al := Ak.keep D
  refine wVirtual (y := mN21) (z := mN21) (Wd := 0) (a := dd) (argsL := [.ref s]) (rest := []) A d140_11 (ow59 hw) (ow60 hw) (ow62 hw) (ow61 hw) (nfS (ow62 hw)) (by decide) (Cb.ct (ob_dcS1 hw hE dd s u ku z iso u8 tb ktb v V A.old SC hz SI SU niu M Y Aa TS TA N O P Q Al hv hzv) (ow63 hw) (ow58 hw) hE (by decide) (by decide)) M (by simp) rfl (lenOf opd28 rfl) rfl (Nat.le_of_eq rfl) (by decide) (by decide) rfl fun _ _ _ Am E F _ An => ?_
  obtain ⟨H, Ao, rfl, rfl, Ap, Aq⟩ := An
  show Go K _ _ _ _ [.ref H]
  refine gAstoreN (ls' := #[aR s, aR p, aR H]) E d140_14 rfl rfl rfl ?_
  refine gAloadN E d140_15 rfl rfl rfl ?_
  have Ar := N.keep F
  have As := O.keep F nin0
  have At := P.keep F nin0
  have Au := Q.keep F nin0
  refine wStatic (y := mN35) (Wd := 0) (argsL := [.ref s]) (rest := []) E d140_16 (ow119 hw) (ow120 hw) (ow46 hw) (ow121 hw) (by decide) (Cb.ct (ob_is1 hw hE s u ku z fm v Am E.old SC hz SF rf Ar As At Au hv hzv) (ow121 hw) (ow46 hw) hE (by decide) (by decide)) (by simp) rfl (lenOf opd21 rfl) rfl (Nat.le_of_eq rfl) (by decide) (by decide) rfl fun _ _ _ _ I Av _ Aw => ?_
  obtain ⟨rfl, rfl⟩ := Aw
  show Go K _ _ _ _ [.int 1]
  refine gIfNo I d140_19 ((if0 _ _).trans (feq (by decide)).1) rfl ?_
  refine gAloadN I d140_22 rfl rfl rfl ?_
  have Ax := Aq.keep Av nin0
  exact wRetA (so := []) (t := .array .byte) I d140_23 rfl rfl rfl (by decide) (by decide) (fun _ q => nomatch q) ⟨H, Ao, rfl, rfl, (Nat.le_trans A.grow Ap), Ax⟩
theorem ob_ds2 (hw : TH a0 Z) (hE : EW Z a0 consts_1) (dd s u : Addr) (ku : ClassId) (p : Addr) (z : Int32) (fm : Value) (iso u8 tb : Addr) (ktb : ClassId) (v : Nat) (h : Heap) (hO : Ol Z h) (SC : (PSC Z z)) (hz : (¬ z = 0)) (SF : (PSF Z fm)) (rf : (fm.isRef = true)) (SI : (PSI Z iso)) (SU : (PSU Z u8)) (niu : (iso ≠ u8)) (SD : (PSD Z dd)) (DE : (PDE Z dd)) (DU : (PDU Z dd)) (DM : (PDM Z dd)) (TS : (PTS Z tb)) (TA : (PTA Z tb ktb)) (q13 : Exa Z h s "java/lang/String") (q14 : Fld Z h s "java/lang/String" "value" "[B" (.ref u)) (q15 : Fld Z h s "java/lang/String" "coder" "B" (.int 0)) (q16 : Arv Z h u ku .byte 4 (tx2 v) (.int 0)) (q17 : Exa Z h u "[B") (hv : (v < 16777216)) (hzv : (v % 256 = 0)) :
 CtW l Z consts_1 mN41 cN39 3 (some (.array .byte)) [(7, 23, 27, 33)] ⟨6, 10, 360, 125⟩ #[.ref s, .ref p] h [] (fun rv' hp' so' => ∃ r : Addr, ∃ kr : ClassId, rv' = some (.ref r) ∧ so' = [] ∧ (h.size ≤ r) ∧ Arv Z hp' r kr .byte 2 [.int (sb (v / 65536)), .int (sb (v / 256))] (.int 0)) := by
  refine CtW.mk "com/example/drafts_under_key/draftsunderkey/crypto/StrictBase64" "decode" rfl rfl (a0 := a0) (plainFor_of_name opn6) hO hE (fun x q => nomatch q) ?_
  intro K T W
  rw [oef25]
  refine gAloadN W d140_0 rfl rfl rfl ?_
  refine wLdcS (vs := [.int 116, .int 101, .int 120, .int 116]) (z := 4) (n := 16) W d140_1 (ow48 hw) (owS hw) hE (by decide) (by decide) (by decide) (by decide) (by decide) (by decide) (by decide) (by decide) rfl fun _ R J _ _ L B _ _ _ _ _ => ?_
  refine wStatic (y := mN40) (Wd := 0) (argsL := [.ref s, .ref J]) (rest := []) L d140_3 (ow49 hw) (ow50 hw) (ow51 hw) (ow52 hw) (by decide) (Cb.ct (ob_rn hw hE s J R L.old) (ow52 hw) (ow51 hw) hE (by decide) (by decide)) (by simp) rfl (lenOf opd26 rfl) rfl (Nat.le_of_eq rfl) (by decide) (by decide) rfl fun _ _ _ S G C _ U => ?_
  obtain ⟨rfl, rfl⟩ := U
  show Go K _ _ _ _ [.ref s]
  refine gPop G d140_6 rfl rfl ?_
  refine wStatic (y := mN39) (Wd := 0) (argsL := []) (rest := []) G d140_7 (ow53 hw) (ow54 hw) (ow55 hw) (ow56 hw) (by decide) (Cb.ct (ob_gd hw hE dd S G.old SD) (ow56 hw) (ow55 hw) hE (by decide) (by decide)) (by simp) rfl (lenOf opd27 rfl) rfl (Nat.le_of_eq rfl) (by decide) (by decide) rfl fun _ _ _ V A D _ X => ?_
  obtain ⟨rfl, rfl⟩ := X
  show Go K _ _ _ _ [.ref dd]
  have M := DE.ext A.old.2
  have Y := DU.ext A.old.2
  have Aa := DM.ext A.old.2
  refine gAloadN A d140_10 rfl rfl rfl ?_
  have Ab := q13.ext B
  have Ac := Ab.keep C
  have N := Ac.keep D
  have Ad := q14.ext B
  have Ae := Ad.keep C nin0
  have O := Ae.keep D nin0
  have Af := q15.ext B
  have Ag := Af.keep C nin0
  have P := Ag.keep D nin0
  have Ah := q16.ext B
  have Ai := Ah.keep C nin0
  have Q := Ai.keep D nin0
  have Aj := q17.ext B
  have Ak := Aj.keep C
  have Al := Ak.keep D
  refine wVirtual (y := mN21) (z := mN21) (Wd := 0) (a := dd) (argsL := [.ref s]) (rest := []) A d140_11 (ow59 hw) (ow60 hw) (ow62 hw) (ow61 hw) (nfS (ow62 hw)) (by decide) (Cb.ct (ob_dcS2 hw hE dd s u ku z iso u8 tb ktb v V A.old SC hz SI SU niu M Y Aa TS TA N O P Q Al hv hzv) (ow63 hw) (ow58 hw) hE (by decide) (by decide)) M (by simp) rfl (lenOf opd28 rfl) rfl (Nat.le_of_eq rfl) (by decide) (by decide) rfl fun _ _ _ Am E F _ An => ?_
  obtain ⟨H, Ao, rfl, rfl, Ap, Aq⟩ := An
  show Go K _ _ _ _ [.ref H]
  refine gAstoreN (ls' := #[aR s, aR p, aR H]) E d140_14 rfl rfl rfl ?_
  refine gAloadN E d140_15 rfl rfl rfl ?_
  have Ar := N.keep F
  have As := O.keep F nin0
  have At := P.keep F nin0
  have Au := Q.keep F nin0
  refine wStatic (y := mN35) (Wd := 0) (argsL := [.ref s]) (rest := []) E d140_16 (ow119 hw) (ow120 hw) (ow46 hw) (ow121 hw) (by decide) (Cb.ct (ob_is2 hw hE s u ku z fm v Am E.old SC hz SF rf Ar As At Au hv hzv) (ow121 hw) (ow46 hw) hE (by decide) (by decide)) (by simp) rfl (lenOf opd21 rfl) rfl (Nat.le_of_eq rfl) (by decide) (by decide) rfl fun _ _ _ _ I Av _ Aw => ?_
  obtain ⟨rfl, rfl⟩ := Aw
  show Go K _ _ _ _ [.int 1]
  refine gIfNo I d140_19 ((if0 _ _).trans (feq (by decide)).1) rfl ?_
  refine gAloadN I d140_22 rfl rfl rfl ?_
  have Ax := Aq.keep Av nin0
  exact wRetA (so := []) (t := .array .byte) I d140_23 rfl rfl rfl (by decide) (by decide) (fun _ q => nomatch q) ⟨H, Ao, rfl, rfl, (Nat.le_trans A.grow Ap), Ax⟩
theorem ob_ds3 (hw : TH a0 Z) (hE : EW Z a0 consts_1) (dd s u : Addr) (ku : ClassId) (p : Addr) (z : Int32) (fm : Value) (iso u8 tb : Addr) (ktb : ClassId) (v : Nat) (h : Heap) (hO : Ol Z h) (SC : (PSC Z z)) (hz : (¬ z = 0)) (SF : (PSF Z fm)) (rf : (fm.isRef = true)) (SI : (PSI Z iso)) (SU : (PSU Z u8)) (niu : (iso ≠ u8)) (SD : (PSD Z dd)) (DE : (PDE Z dd)) (DU : (PDU Z dd)) (DM : (PDM Z dd)) (TS : (PTS Z tb)) (TA : (PTA Z tb ktb)) (q13 : Exa Z h s "java/lang/String") (q14 : Fld Z h s "java/lang/String" "value" "[B" (.ref u)) (q15 : Fld Z h s "java/lang/String" "coder" "B" (.int 0)) (q16 : Arv Z h u ku .byte 4 (tx3 v) (.int 0)) (q17 : Exa Z h u "[B") (hv : (v < 16777216)) :
 CtW l Z consts_1 mN41 cN39 3 (some (.array .byte)) [(7, 23, 27, 33)] ⟨6, 10, 360, 125⟩ #[.ref s, .ref p] h [] (fun rv' hp' so' => ∃ r : Addr, ∃ kr : ClassId, rv' = some (.ref r) ∧ so' = [] ∧ (h.size ≤ r) ∧ Arv Z hp' r kr .byte 3 [.int (sb (v / 65536)), .int (sb (v / 256)), .int (sb v)] (.int 0)) := by
  refine CtW.mk "com/example/drafts_under_key/draftsunderkey/crypto/StrictBase64" "decode" rfl rfl (a0 := a0) (plainFor_of_name opn6) hO hE (fun x q => nomatch q) ?_
  intro K T W
  rw [oef25]
  refine gAloadN W d140_0 rfl rfl rfl ?_
  refine wLdcS (vs := [.int 116, .int 101, .int 120, .int 116]) (z := 4) (n := 16) W d140_1 (ow48 hw) (owS hw) hE (by decide) (by decide) (by decide) (by decide) (by decide) (by decide) (by decide) (by decide) rfl fun _ R J _ _ L B _ _ _ _ _ => ?_
  refine wStatic (y := mN40) (Wd := 0) (argsL := [.ref s, .ref J]) (rest := []) L d140_3 (ow49 hw) (ow50 hw) (ow51 hw) (ow52 hw) (by decide) (Cb.ct (ob_rn hw hE s J R L.old) (ow52 hw) (ow51 hw) hE (by decide) (by decide)) (by simp) rfl (lenOf opd26 rfl) rfl (Nat.le_of_eq rfl) (by decide) (by decide) rfl fun _ _ _ S G C _ U => ?_
  obtain ⟨rfl, rfl⟩ := U
  show Go K _ _ _ _ [.ref s]
  refine gPop G d140_6 rfl rfl ?_
  refine wStatic (y := mN39) (Wd := 0) (argsL := []) (rest := []) G d140_7 (ow53 hw) (ow54 hw) (ow55 hw) (ow56 hw) (by decide) (Cb.ct (ob_gd hw hE dd S G.old SD) (ow56 hw) (ow55 hw) hE (by decide) (by decide)) (by simp) rfl (lenOf opd27 rfl) rfl (Nat.le_of_eq rfl) (by decide) (by decide) rfl fun _ _ _ V A D _ X => ?_
  obtain ⟨rfl, rfl⟩ := X
  show Go K _ _ _ _ [.ref dd]
  have M := DE.ext A.old.2
  have Y := DU.ext A.old.2
  have Aa := DM.ext A.old.2
  refine gAloadN A d140_10 rfl rfl rfl ?_
  have Ab := q13.ext B
  have Ac := Ab.keep C
  have N := Ac.keep D
  have Ad := q14.ext B
  have Ae := Ad.keep C nin0
  have O := Ae.keep D nin0
  have Af := q15.ext B
  have Ag := Af.keep C nin0
  have P := Ag.keep D nin0
  have Ah := q16.ext B
  have Ai := Ah.keep C nin0
  have Q := Ai.keep D nin0
  have Aj := q17.ext B
  have Ak := Aj.keep C
  have Al := Ak.keep D
  refine wVirtual (y := mN21) (z := mN21) (Wd := 0) (a := dd) (argsL := [.ref s]) (rest := []) A d140_11 (ow59 hw) (ow60 hw) (ow62 hw) (ow61 hw) (nfS (ow62 hw)) (by decide) (Cb.ct (ob_dcS3 hw hE dd s u ku z iso u8 tb ktb v V A.old SC hz SI SU niu M Y Aa TS TA N O P Q Al hv) (ow63 hw) (ow58 hw) hE (by decide) (by decide)) M (by simp) rfl (lenOf opd28 rfl) rfl (Nat.le_of_eq rfl) (by decide) (by decide) rfl fun _ _ _ Am E F _ An => ?_
  obtain ⟨H, Ao, rfl, rfl, Ap, Aq⟩ := An
  show Go K _ _ _ _ [.ref H]
  refine gAstoreN (ls' := #[aR s, aR p, aR H]) E d140_14 rfl rfl rfl ?_
  refine gAloadN E d140_15 rfl rfl rfl ?_
  have Ar := N.keep F
  have As := O.keep F nin0
  have At := P.keep F nin0
  have Au := Q.keep F nin0
  refine wStatic (y := mN35) (Wd := 0) (argsL := [.ref s]) (rest := []) E d140_16 (ow119 hw) (ow120 hw) (ow46 hw) (ow121 hw) (by decide) (Cb.ct (ob_is3 hw hE s u ku z fm v Am E.old SC hz SF rf Ar As At Au hv) (ow121 hw) (ow46 hw) hE (by decide) (by decide)) (by simp) rfl (lenOf opd21 rfl) rfl (Nat.le_of_eq rfl) (by decide) (by decide) rfl fun _ _ _ _ I Av _ Aw => ?_
  obtain ⟨rfl, rfl⟩ := Aw
  show Go K _ _ _ _ [.int 1]
  refine gIfNo I d140_19 ((if0 _ _).trans (feq (by decide)).1) rfl ?_
  refine gAloadN I d140_22 rfl rfl rfl ?_
  have Ax := Aq.keep Av nin0
  exact wRetA (so := []) (t := .array .byte) I d140_23 rfl rfl rfl (by decide) (by decide) (fun _ q => nomatch q) ⟨H, Ao, rfl, rfl, (Nat.le_trans A.grow Ap), Ax⟩
theorem ob_ds4 (hw : TH a0 Z) (hE : EW Z a0 consts_1) (dd s u : Addr) (ku : ClassId) (p : Addr) (z : Int32) (fm : Value) (iso u8 tb : Addr) (ktb : ClassId) (v g : Nat) (h : Heap) (hO : Ol Z h) (SC : (PSC Z z)) (hz : (¬ z = 0)) (SF : (PSF Z fm)) (rf : (fm.isRef = true)) (SI : (PSI Z iso)) (SU : (PSU Z u8)) (niu : (iso ≠ u8)) (SD : (PSD Z dd)) (DE : (PDE Z dd)) (DU : (PDU Z dd)) (DM : (PDM Z dd)) (TS : (PTS Z tb)) (TA : (PTA Z tb ktb)) (q13 : Exa Z h s "java/lang/String") (q14 : Fld Z h s "java/lang/String" "value" "[B" (.ref u)) (q15 : Fld Z h s "java/lang/String" "coder" "B" (.int 0)) (q16 : Arv Z h u ku .byte 8 (tx4 v g) (.int 0)) (q17 : Exa Z h u "[B") (hv : (v < 16777216)) (hg : (g < 16777216)) (hzg : (g % 65536 = 0)) :
 CtW l Z consts_1 mN41 cN39 3 (some (.array .byte)) [(7, 23, 27, 33)] ⟨6, 10, 360, 125⟩ #[.ref s, .ref p] h [] (fun rv' hp' so' => ∃ r : Addr, ∃ kr : ClassId, rv' = some (.ref r) ∧ so' = [] ∧ (h.size ≤ r) ∧ Arv Z hp' r kr .byte 4 [.int (sb (v / 65536)), .int (sb (v / 256)), .int (sb v), .int (sb (g / 65536))] (.int 0)) := by
  refine CtW.mk "com/example/drafts_under_key/draftsunderkey/crypto/StrictBase64" "decode" rfl rfl (a0 := a0) (plainFor_of_name opn6) hO hE (fun x q => nomatch q) ?_
  intro K T W
  rw [oef25]
  refine gAloadN W d140_0 rfl rfl rfl ?_
  refine wLdcS (vs := [.int 116, .int 101, .int 120, .int 116]) (z := 4) (n := 16) W d140_1 (ow48 hw) (owS hw) hE (by decide) (by decide) (by decide) (by decide) (by decide) (by decide) (by decide) (by decide) rfl fun _ R J _ _ L B _ _ _ _ _ => ?_
  refine wStatic (y := mN40) (Wd := 0) (argsL := [.ref s, .ref J]) (rest := []) L d140_3 (ow49 hw) (ow50 hw) (ow51 hw) (ow52 hw) (by decide) (Cb.ct (ob_rn hw hE s J R L.old) (ow52 hw) (ow51 hw) hE (by decide) (by decide)) (by simp) rfl (lenOf opd26 rfl) rfl (Nat.le_of_eq rfl) (by decide) (by decide) rfl fun _ _ _ S G C _ U => ?_
  obtain ⟨rfl, rfl⟩ := U
  show Go K _ _ _ _ [.ref s]
  refine gPop G d140_6 rfl rfl ?_
  refine wStatic (y := mN39) (Wd := 0) (argsL := []) (rest := []) G d140_7 (ow53 hw) (ow54 hw) (ow55 hw) (ow56 hw) (by decide) (Cb.ct (ob_gd hw hE dd S G.old SD) (ow56 hw) (ow55 hw) hE (by decide) (by decide)) (by simp) rfl (lenOf opd27 rfl) rfl (Nat.le_of_eq rfl) (by decide) (by decide) rfl fun _ _ _ V A D _ X => ?_
  obtain ⟨rfl, rfl⟩ := X
  show Go K _ _ _ _ [.ref dd]
  have M := DE.ext A.old.2
  have Y := DU.ext A.old.2
  have Aa := DM.ext A.old.2
  refine gAloadN A d140_10 rfl rfl rfl ?_
  have Ab := q13.ext B
  have Ac := Ab.keep C
  have N := Ac.keep D
  have Ad := q14.ext B
  have Ae := Ad.keep C nin0
  have O := Ae.keep D nin0
  have Af := q15.ext B
  have Ag := Af.keep C nin0
  have P := Ag.keep D nin0
  have Ah := q16.ext B
  have Ai := Ah.keep C nin0
  have Q := Ai.keep D nin0
  have Aj := q17.ext B
  have Ak := Aj.keep C
  have Al := Ak.keep D
  refine wVirtual (y := mN21) (z := mN21) (Wd := 0) (a := dd) (argsL := [.ref s]) (rest := []) A d140_11 (ow59 hw) (ow60 hw) (ow62 hw) (ow61 hw) (nfS (ow62 hw)) (by decide) (Cb.ct (ob_dcS4 hw hE dd s u ku z iso u8 tb ktb v g V A.old SC hz SI SU niu M Y Aa TS TA N O P Q Al hv hg hzg) (ow63 hw) (ow58 hw) hE (by decide) (by decide)) M (by simp) rfl (lenOf opd28 rfl) rfl (Nat.le_of_eq rfl) (by decide) (by decide) rfl fun _ _ _ Am E F _ An => ?_
  obtain ⟨H, Ao, rfl, rfl, Ap, Aq⟩ := An
  show Go K _ _ _ _ [.ref H]
  refine gAstoreN (ls' := #[aR s, aR p, aR H]) E d140_14 rfl rfl rfl ?_
  refine gAloadN E d140_15 rfl rfl rfl ?_
  have Ar := N.keep F
  have As := O.keep F nin0
  have At := P.keep F nin0
  have Au := Q.keep F nin0
  refine wStatic (y := mN35) (Wd := 0) (argsL := [.ref s]) (rest := []) E d140_16 (ow119 hw) (ow120 hw) (ow46 hw) (ow121 hw) (by decide) (Cb.ct (ob_is4 hw hE s u ku z fm v g Am E.old SC hz SF rf Ar As At Au hv hg hzg) (ow121 hw) (ow46 hw) hE (by decide) (by decide)) (by simp) rfl (lenOf opd21 rfl) rfl (Nat.le_of_eq rfl) (by decide) (by decide) rfl fun _ _ _ _ I Av _ Aw => ?_
  obtain ⟨rfl, rfl⟩ := Aw
  show Go K _ _ _ _ [.int 1]
  refine gIfNo I d140_19 ((if0 _ _).trans (feq (by decide)).1) rfl ?_
  refine gAloadN I d140_22 rfl rfl rfl ?_
  have Ax := Aq.keep Av nin0
  exact wRetA (so := []) (t := .array .byte) I d140_23 rfl rfl rfl (by decide) (by decide) (fun _ q => nomatch q) ⟨H, Ao, rfl, rfl, (Nat.le_trans A.grow Ap), Ax⟩
theorem ob_ds5 (hw : TH a0 Z) (hE : EW Z a0 consts_1) (dd s u : Addr) (ku : ClassId) (p : Addr) (z : Int32) (fm : Value) (iso u8 tb : Addr) (ktb : ClassId) (v g : Nat) (h : Heap) (hO : Ol Z h) (SC : (PSC Z z)) (hz : (¬ z = 0)) (SF : (PSF Z fm)) (rf : (fm.isRef = true)) (SI : (PSI Z iso)) (SU : (PSU Z u8)) (niu : (iso ≠ u8)) (SD : (PSD Z dd)) (DE : (PDE Z dd)) (DU : (PDU Z dd)) (DM : (PDM Z dd)) (TS : (PTS Z tb)) (TA : (PTA Z tb ktb)) (q13 : Exa Z h s "java/lang/String") (q14 : Fld Z h s "java/lang/String" "value" "[B" (.ref u)) (q15 : Fld Z h s "java/lang/String" "coder" "B" (.int 0)) (q16 : Arv Z h u ku .byte 8 (tx5 v g) (.int 0)) (q17 : Exa Z h u "[B") (hv : (v < 16777216)) (hg : (g < 16777216)) (hzg : (g % 256 = 0)) :
 CtW l Z consts_1 mN41 cN39 3 (some (.array .byte)) [(7, 23, 27, 33)] ⟨6, 10, 360, 125⟩ #[.ref s, .ref p] h [] (fun rv' hp' so' => ∃ r : Addr, ∃ kr : ClassId, rv' = some (.ref r) ∧ so' = [] ∧ (h.size ≤ r) ∧ Arv Z hp' r kr .byte 5 [.int (sb (v / 65536)), .int (sb (v / 256)), .int (sb v), .int (sb (g / 65536)), .int (sb (g / 256))] (.int 0)) := by
  refine CtW.mk "com/example/drafts_under_key/draftsunderkey/crypto/StrictBase64" "decode" rfl rfl (a0 := a0) (plainFor_of_name opn6) hO hE (fun x q => nomatch q) ?_
  intro K T W
  rw [oef25]
  refine gAloadN W d140_0 rfl rfl rfl ?_
  refine wLdcS (vs := [.int 116, .int 101, .int 120, .int 116]) (z := 4) (n := 16) W d140_1 (ow48 hw) (owS hw) hE (by decide) (by decide) (by decide) (by decide) (by decide) (by decide) (by decide) (by decide) rfl fun _ R J _ _ L B _ _ _ _ _ => ?_
  refine wStatic (y := mN40) (Wd := 0) (argsL := [.ref s, .ref J]) (rest := []) L d140_3 (ow49 hw) (ow50 hw) (ow51 hw) (ow52 hw) (by decide) (Cb.ct (ob_rn hw hE s J R L.old) (ow52 hw) (ow51 hw) hE (by decide) (by decide)) (by simp) rfl (lenOf opd26 rfl) rfl (Nat.le_of_eq rfl) (by decide) (by decide) rfl fun _ _ _ S G C _ U => ?_
  obtain ⟨rfl, rfl⟩ := U
  show Go K _ _ _ _ [.ref s]
  refine gPop G d140_6 rfl rfl ?_
  refine wStatic (y := mN39) (Wd := 0) (argsL := []) (rest := []) G d140_7 (ow53 hw) (ow54 hw) (ow55 hw) (ow56 hw) (by decide) (Cb.ct (ob_gd hw hE dd S G.old SD) (ow56 hw) (ow55 hw) hE (by decide) (by decide)) (by simp) rfl (lenOf opd27 rfl) rfl (Nat.le_of_eq rfl) (by decide) (by decide) rfl fun _ _ _ V A D _ X => ?_
  obtain ⟨rfl, rfl⟩ := X
  show Go K _ _ _ _ [.ref dd]
  have M := DE.ext A.old.2
  have Y := DU.ext A.old.2
  have Aa := DM.ext A.old.2
  refine gAloadN A d140_10 rfl rfl rfl ?_
  have Ab := q13.ext B
  have Ac := Ab.keep C
  have N := Ac.keep D
  have Ad := q14.ext B
  have Ae := Ad.keep C nin0
  have O := Ae.keep D nin0
  have Af := q15.ext B
  have Ag := Af.keep C nin0
  have P := Ag.keep D nin0
  have Ah := q16.ext B
  have Ai := Ah.keep C nin0
  have Q := Ai.keep D nin0
  have Aj := q17.ext B
  have Ak := Aj.keep C
  have Al := Ak.keep D
  refine wVirtual (y := mN21) (z := mN21) (Wd := 0) (a := dd) (argsL := [.ref s]) (rest := []) A d140_11 (ow59 hw) (ow60 hw) (ow62 hw) (ow61 hw) (nfS (ow62 hw)) (by decide) (Cb.ct (ob_dcS5 hw hE dd s u ku z iso u8 tb ktb v g V A.old SC hz SI SU niu M Y Aa TS TA N O P Q Al hv hg hzg) (ow63 hw) (ow58 hw) hE (by decide) (by decide)) M (by simp) rfl (lenOf opd28 rfl) rfl (Nat.le_of_eq rfl) (by decide) (by decide) rfl fun _ _ _ Am E F _ An => ?_
  obtain ⟨H, Ao, rfl, rfl, Ap, Aq⟩ := An
  show Go K _ _ _ _ [.ref H]
  refine gAstoreN (ls' := #[aR s, aR p, aR H]) E d140_14 rfl rfl rfl ?_
  refine gAloadN E d140_15 rfl rfl rfl ?_
  have Ar := N.keep F
  have As := O.keep F nin0
  have At := P.keep F nin0
  have Au := Q.keep F nin0
  refine wStatic (y := mN35) (Wd := 0) (argsL := [.ref s]) (rest := []) E d140_16 (ow119 hw) (ow120 hw) (ow46 hw) (ow121 hw) (by decide) (Cb.ct (ob_is5 hw hE s u ku z fm v g Am E.old SC hz SF rf Ar As At Au hv hg hzg) (ow121 hw) (ow46 hw) hE (by decide) (by decide)) (by simp) rfl (lenOf opd21 rfl) rfl (Nat.le_of_eq rfl) (by decide) (by decide) rfl fun _ _ _ _ I Av _ Aw => ?_
  obtain ⟨rfl, rfl⟩ := Aw
  show Go K _ _ _ _ [.int 1]
  refine gIfNo I d140_19 ((if0 _ _).trans (feq (by decide)).1) rfl ?_
  refine gAloadN I d140_22 rfl rfl rfl ?_
  have Ax := Aq.keep Av nin0
  exact wRetA (so := []) (t := .array .byte) I d140_23 rfl rfl rfl (by decide) (by decide) (fun _ q => nomatch q) ⟨H, Ao, rfl, rfl, (Nat.le_trans A.grow Ap), Ax⟩
theorem ob_ds6 (hw : TH a0 Z) (hE : EW Z a0 consts_1) (dd s u : Addr) (ku : ClassId) (p : Addr) (z : Int32) (fm : Value) (iso u8 tb : Addr) (ktb : ClassId) (v g : Nat) (h : Heap) (hO : Ol Z h) (SC : (PSC Z z)) (hz : (¬ z = 0)) (SF : (PSF Z fm)) (rf : (fm.isRef = true)) (SI : (PSI Z iso)) (SU : (PSU Z u8)) (niu : (iso ≠ u8)) (SD : (PSD Z dd)) (DE : (PDE Z dd)) (DU : (PDU Z dd)) (DM : (PDM Z dd)) (TS : (PTS Z tb)) (TA : (PTA Z tb ktb)) (q13 : Exa Z h s "java/lang/String") (q14 : Fld Z h s "java/lang/String" "value" "[B" (.ref u)) (q15 : Fld Z h s "java/lang/String" "coder" "B" (.int 0)) (q16 : Arv Z h u ku .byte 8 (tx6 v g) (.int 0)) (q17 : Exa Z h u "[B") (hv : (v < 16777216)) (hg : (g < 16777216)) :
 CtW l Z consts_1 mN41 cN39 3 (some (.array .byte)) [(7, 23, 27, 33)] ⟨6, 10, 360, 125⟩ #[.ref s, .ref p] h [] (fun rv' hp' so' => ∃ r : Addr, ∃ kr : ClassId, rv' = some (.ref r) ∧ so' = [] ∧ (h.size ≤ r) ∧ Arv Z hp' r kr .byte 6 [.int (sb (v / 65536)), .int (sb (v / 256)), .int (sb v), .int (sb (g / 65536)), .int (sb (g / 256)), .int (sb g)] (.int 0)) := by
  refine CtW.mk "com/example/drafts_under_key/draftsunderkey/crypto/StrictBase64" "decode" rfl rfl (a0 := a0) (plainFor_of_name opn6) hO hE (fun x q => nomatch q) ?_
  intro K T W
  rw [oef25]
  refine gAloadN W d140_0 rfl rfl rfl ?_
  refine wLdcS (vs := [.int 116, .int 101, .int 120, .int 116]) (z := 4) (n := 16) W d140_1 (ow48 hw) (owS hw) hE (by decide) (by decide) (by decide) (by decide) (by decide) (by decide) (by decide) (by decide) rfl fun _ R J _ _ L B _ _ _ _ _ => ?_
  refine wStatic (y := mN40) (Wd := 0) (argsL := [.ref s, .ref J]) (rest := []) L d140_3 (ow49 hw) (ow50 hw) (ow51 hw) (ow52 hw) (by decide) (Cb.ct (ob_rn hw hE s J R L.old) (ow52 hw) (ow51 hw) hE (by decide) (by decide)) (by simp) rfl (lenOf opd26 rfl) rfl (Nat.le_of_eq rfl) (by decide) (by decide) rfl fun _ _ _ S G C _ U => ?_
  obtain ⟨rfl, rfl⟩ := U
  show Go K _ _ _ _ [.ref s]
  refine gPop G d140_6 rfl rfl ?_
  refine wStatic (y := mN39) (Wd := 0) (argsL := []) (rest := []) G d140_7 (ow53 hw) (ow54 hw) (ow55 hw) (ow56 hw) (by decide) (Cb.ct (ob_gd hw hE dd S G.old SD) (ow56 hw) (ow55 hw) hE (by decide) (by decide)) (by simp) rfl (lenOf opd27 rfl) rfl (Nat.le_of_eq rfl) (by decide) (by decide) rfl fun _ _ _ V A D _ X => ?_
  obtain ⟨rfl, rfl⟩ := X
  show Go K _ _ _ _ [.ref dd]
  have M := DE.ext A.old.2
  have Y := DU.ext A.old.2
  have Aa := DM.ext A.old.2
  refine gAloadN A d140_10 rfl rfl rfl ?_
  have Ab := q13.ext B
  have Ac := Ab.keep C
  have N := Ac.keep D
  have Ad := q14.ext B
  have Ae := Ad.keep C nin0
  have O := Ae.keep D nin0
  have Af := q15.ext B
  have Ag := Af.keep C nin0
  have P := Ag.keep D nin0
  have Ah := q16.ext B
  have Ai := Ah.keep C nin0
  have Q := Ai.keep D nin0
  have Aj := q17.ext B
  have Ak := Aj.keep C
  have Al := Ak.keep D
  refine wVirtual (y := mN21) (z := mN21) (Wd := 0) (a := dd) (argsL := [.ref s]) (rest := []) A d140_11 (ow59 hw) (ow60 hw) (ow62 hw) (ow61 hw) (nfS (ow62 hw)) (by decide) (Cb.ct (ob_dcS6 hw hE dd s u ku z iso u8 tb ktb v g V A.old SC hz SI SU niu M Y Aa TS TA N O P Q Al hv hg) (ow63 hw) (ow58 hw) hE (by decide) (by decide)) M (by simp) rfl (lenOf opd28 rfl) rfl (Nat.le_of_eq rfl) (by decide) (by decide) rfl fun _ _ _ Am E F _ An => ?_
  obtain ⟨H, Ao, rfl, rfl, Ap, Aq⟩ := An
  show Go K _ _ _ _ [.ref H]
  refine gAstoreN (ls' := #[aR s, aR p, aR H]) E d140_14 rfl rfl rfl ?_
  refine gAloadN E d140_15 rfl rfl rfl ?_
  have Ar := N.keep F
  have As := O.keep F nin0
  have At := P.keep F nin0
  have Au := Q.keep F nin0
  refine wStatic (y := mN35) (Wd := 0) (argsL := [.ref s]) (rest := []) E d140_16 (ow119 hw) (ow120 hw) (ow46 hw) (ow121 hw) (by decide) (Cb.ct (ob_is6 hw hE s u ku z fm v g Am E.old SC hz SF rf Ar As At Au hv hg) (ow121 hw) (ow46 hw) hE (by decide) (by decide)) (by simp) rfl (lenOf opd21 rfl) rfl (Nat.le_of_eq rfl) (by decide) (by decide) rfl fun _ _ _ _ I Av _ Aw => ?_
  obtain ⟨rfl, rfl⟩ := Aw
  show Go K _ _ _ _ [.int 1]
  refine gIfNo I d140_19 ((if0 _ _).trans (feq (by decide)).1) rfl ?_
  refine gAloadN I d140_22 rfl rfl rfl ?_
  have Ax := Aq.keep Av nin0
  exact wRetA (so := []) (t := .array .byte) I d140_23 rfl rfl rfl (by decide) (by decide) (fun _ q => nomatch q) ⟨H, Ao, rfl, rfl, (Nat.le_trans A.grow Ap), Ax⟩
-- CUT
theorem ow0 (hw : TH a0 Z) : Bf a0 Z (.constant "com/example/drafts_under_key/draftsunderkey/crypto/StrictBase64DecodePinLaw" 7 2147483647) := mo 0 rfl hw
theorem ow2 (hw : TH a0 Z) : Bf a0 Z (.arrayClass .char) := mo 2 rfl hw
theorem ow201 (hw : TH a0 Z) : Bf a0 Z (.stringLink "com/example/drafts_under_key/draftsunderkey/crypto/StrictBase64DecodePinLaw" 8 "") := mo 201 rfl hw
theorem ow41 (hw : TH a0 Z) : Bf a0 Z (.stringLink "com/example/drafts_under_key/draftsunderkey/crypto/StrictBase64DecodePinLaw" 25 "ciphertext") := mo 41 rfl hw
theorem ow44 (hw : TH a0 Z) : Bf a0 Z (.methodLink "com/example/drafts_under_key/draftsunderkey/crypto/StrictBase64DecodePinLaw" 27 mN41) := mo 44 rfl hw
theorem ow47 (hw : TH a0 Z) : Bf a0 Z (.codeWith mN41 cN39 3 (some (.array .byte)) [(7, 23, 27, 33)]) := mo 47 rfl hw
theorem opd29 : parseMethodDescriptor "(Ljava/lang/String;Ljava/lang/String;)[B" = some ⟨[.object "java/lang/String", .object "java/lang/String"], some (.array .byte)⟩ := by decide +kernel
theorem ow45 (hw : TH a0 Z) : Bf a0 Z (.static mN41) := mo 45 rfl hw
theorem ow193 (hw : TH a0 Z) : Bf a0 Z (.methodLink "com/example/drafts_under_key/draftsunderkey/crypto/StrictBase64DecodePinLaw" 33 mN2) := mo 193 rfl hw
theorem ow195 (hw : TH a0 Z) : Bf a0 Z (.code mN2 cN2 4 (some .boolean)) := mo 195 rfl hw
theorem opd30 : parseMethodDescriptor "([B[BII)Z" = some ⟨[.array .byte, .array .byte, .int, .int], some (.boolean)⟩ := by decide +kernel
theorem ow194 (hw : TH a0 Z) : Bf a0 Z (.static mN2) := mo 194 rfl hw
theorem ow3 (hw : TH a0 Z) : Bf a0 Z (.methodLink "com/example/drafts_under_key/draftsunderkey/crypto/StrictBase64DecodePinLaw" 10 mN1) := mo 3 rfl hw
theorem ow6 (hw : TH a0 Z) : Bf a0 Z (.code mN1 cN1 3 (some .int)) := mo 6 rfl hw
theorem ow4 (hw : TH a0 Z) : Bf a0 Z (.static mN1) := mo 4 rfl hw
theorem ow7 (hw : TH a0 Z) : Bf a0 Z (.methodLink "com/example/drafts_under_key/draftsunderkey/crypto/StrictBase64DecodePinLaw" 16 mN3) := mo 7 rfl hw
theorem ow9 (hw : TH a0 Z) : Bf a0 Z (.code mN3 cN3 7 none) := mo 9 rfl hw
theorem opd31 : parseMethodDescriptor "([CIIIII)V" = some ⟨[.array .char, .int, .int, .int, .int, .int], none⟩ := by decide +kernel
theorem ow8 (hw : TH a0 Z) : Bf a0 Z (.static mN3) := mo 8 rfl hw
theorem ow13 (hw : TH a0 Z) : Bf a0 Z (.classLink "com/example/drafts_under_key/draftsunderkey/crypto/StrictBase64DecodePinLaw" 20 "java/lang/String") := mo 13 rfl hw
theorem ow16 (hw : TH a0 Z) : Bf a0 Z (.methodLink "com/example/drafts_under_key/draftsunderkey/crypto/StrictBase64DecodePinLaw" 22 mN9) := mo 16 rfl hw
theorem ow18 (hw : TH a0 Z) : Bf a0 Z (.code mN9 cN9 2 none) := mo 18 rfl hw
theorem opd32 : parseMethodDescriptor "([C)V" = some ⟨[.array .char], none⟩ := by decide +kernel
theorem ow17 (hw : TH a0 Z) : Bf a0 Z (.instanceMethod mN9) := mo 17 rfl hw
theorem oef26 (m_ : MethodId) (y0_ : Int32) (y1_ : Int32) (y2_ : Int32) : (entryFrame m_ #[.int y0_, .int y1_, .int y2_] maxLocals).locals = #[aI y0_, aI y1_, aI y2_, aU, aU, aU, aU, aU, aU] := by first | (simp [entryFrame, argsToLocals, Value.category, maxLocals]; done) | rfl
theorem ob_law (hw : TH a0 Z) (hE : EW Z a0 consts_1) (x0 y0 m0 z : Int32) (fm : Value) (iso u8 tb : Addr) (ktb : ClassId) (dd : Addr) (h : Heap) (hO : Ol Z h) (SC : (PSC Z z)) (hz : (¬ z = 0)) (SF : (PSF Z fm)) (rf : (fm.isRef = true)) (SI : (PSI Z iso)) (SU : (PSU Z u8)) (niu : (iso ≠ u8)) (TS : (PTS Z tb)) (TA : (PTA Z tb ktb)) (SD : (PSD Z dd)) (DE : (PDE Z dd)) (DU : (PDU Z dd)) (DM : (PDM Z dd)) :
 Ct l Z consts_1 x code maxLocals ret room_1 #[.int x0, .int y0, .int m0] h [] (fun rv' hp' so' => rv' = some (.int 1) ∧ so' = []) := by
  refine Ct.mk "com/example/drafts_under_key/draftsunderkey/crypto/StrictBase64DecodePinLaw" "law" rfl rfl (a0 := a0) (plainFor_of_name opn0) hO hE (fun x q => nomatch q) ?_
  intro K T W
  rw [oef26]
  refine gIloadN W at_0 rfl rfl ?_
  refine wLdcI (v := 2147483647) W at_1 (ow0 hw) rfl ?_
  obtain ⟨Ie, Dx⟩ : ∃ v : Int32, m0 &&& 2147483647 = v := ⟨_, rfl⟩
  refine gIand W at_3 Dx rfl ?_
  refine gBipush (z := 7) W at_4 rfl rfl ?_
  obtain ⟨_, Dy⟩ : ∃ v : Int32, Ie % 7 = v := ⟨_, rfl⟩
  refine gIrem W at_6 (by decide) Dy rfl ?_
  obtain ⟨nn, hnn, rfl⟩ := natOf (d := 7) (rem_lt (and31 Dx) Dy (by decide) (by decide))
  show Go K _ _ _ _ [.int (Int32.ofNat nn)]
  refine gIstoreN (ls' := #[aI x0, aI y0, aI m0, aI (Int32.ofNat nn), aU, aU, aU, aU, aU]) W at_7 rfl rfl ?_
  refine gBipush (z := 6) W at_8 rfl rfl ?_
  refine wNewP (cap := 6) W at_10 (ow1 hw) (by decide) (by decide) (by decide) (by decide) (by decide) rfl fun _ If A E Bq _ _ Ig => ?_
  have Ih : Arv Z If A E .byte 6 [.int 0, .int 0, .int 0, .int 0, .int 0, .int 0] (.int 0) := Ig 6
  refine gAstore (ls' := #[aI x0, aI y0, aI m0, aI (Int32.ofNat nn), aR A, aU, aU, aU, aU]) Bq at_12 rfl rfl rfl ?_
  refine gAload Bq at_14 rfl rfl rfl ?_
  refine gIconst (z := 0) Bq at_16 rfl rfl ?_
  refine gIloadN Bq at_17 rfl rfl ?_
  obtain ⟨_, Dz⟩ : ∃ v : Int32, x0.toInt8.toInt32 = v := ⟨_, rfl⟩
  refine gI2B Bq at_18 Dz rfl ?_
  obtain ⟨b0, hb0, rfl⟩ := i2b_ex Dz
  show Go K _ _ _ _ [.int (sb b0), .int 0, .ref A]
  refine wStB (y := (sb b0)) Bq at_19 (by simp) Ih (by decide) (sb_idem _) 0 (by decide) (show 0 < 6 from by decide) rfl fun _ Ii Aj _ Ij => ?_
  have Ik : Arv Z Ii A E .byte 6 [.int (sb b0), .int 0, .int 0, .int 0, .int 0, .int 0] (.int 0) := Ij
  refine gAload Aj at_20 rfl rfl rfl ?_
  refine gIconst (z := 1) Aj at_22 rfl rfl ?_
  refine gIloadN Aj at_23 rfl rfl ?_
  refine gBipush (z := 8) Aj at_24 rfl rfl ?_
  obtain ⟨Il, Im⟩ : ∃ v : Int32, (x0.toUInt32 >>> (8 &&& 31).toUInt32).toInt32 = v := ⟨_, rfl⟩
  refine gIushr Aj at_26 Im rfl ?_
  obtain ⟨_, D0⟩ : ∃ v : Int32, Il.toInt8.toInt32 = v := ⟨_, rfl⟩
  refine gI2B Aj at_27 D0 rfl ?_
  obtain ⟨b1, hb1, rfl⟩ := i2b_ex D0
  show Go K _ _ _ _ [.int (sb b1), .int 1, .ref A]
  refine wStB (y := (sb b1)) Aj at_28 (by simp) Ik (by decide) (sb_idem _) 1 (by decide) (show 1 < 6 from by decide) rfl fun _ In Ak _ Io => ?_
  have Ip : Arv Z In A E .byte 6 [.int (sb b0), .int (sb b1), .int 0, .int 0, .int 0, .int 0] (.int 0) := Io
  refine gAload Ak at_29 rfl rfl rfl ?_
  refine gIconst (z := 2) Ak at_31 rfl rfl ?_
  refine gIloadN Ak at_32 rfl rfl ?_
  refine gBipush (z := 16) Ak at_33 rfl rfl ?_
  obtain ⟨Iq, Ir⟩ : ∃ v : Int32, (x0.toUInt32 >>> (16 &&& 31).toUInt32).toInt32 = v := ⟨_, rfl⟩
  refine gIushr Ak at_35 Ir rfl ?_
  obtain ⟨_, D1⟩ : ∃ v : Int32, Iq.toInt8.toInt32 = v := ⟨_, rfl⟩
  refine gI2B Ak at_36 D1 rfl ?_
  obtain ⟨b2, hb2, rfl⟩ := i2b_ex D1
  show Go K _ _ _ _ [.int (sb b2), .int 2, .ref A]
  refine wStB (y := (sb b2)) Ak at_37 (by simp) Ip (by decide) (sb_idem _) 2 (by decide) (show 2 < 6 from by decide) rfl fun _ Is Al _ It => ?_
  have Iu : Arv Z Is A E .byte 6 [.int (sb b0), .int (sb b1), .int (sb b2), .int 0, .int 0, .int 0] (.int 0) := It
  refine gAload Al at_38 rfl rfl rfl ?_
  refine gIconst (z := 3) Al at_40 rfl rfl ?_
  refine gIloadN Al at_41 rfl rfl ?_
  refine gBipush (z := 24) Al at_42 rfl rfl ?_
  obtain ⟨Iv, Iw⟩ : ∃ v : Int32, (x0.toUInt32 >>> (24 &&& 31).toUInt32).toInt32 = v := ⟨_, rfl⟩
  refine gIushr Al at_44 Iw rfl ?_
  obtain ⟨_, D2⟩ : ∃ v : Int32, Iv.toInt8.toInt32 = v := ⟨_, rfl⟩
  refine gI2B Al at_45 D2 rfl ?_
  obtain ⟨b3, hb3, rfl⟩ := i2b_ex D2
  show Go K _ _ _ _ [.int (sb b3), .int 3, .ref A]
  refine wStB (y := (sb b3)) Al at_46 (by simp) Iu (by decide) (sb_idem _) 3 (by decide) (show 3 < 6 from by decide) rfl fun _ Ix B0 _ Iy => ?_
  have Iz : Arv Z Ix A E .byte 6 [.int (sb b0), .int (sb b1), .int (sb b2), .int (sb b3), .int 0, .int 0] (.int 0) := Iy
  refine gAload B0 at_47 rfl rfl rfl ?_
  refine gIconst (z := 4) B0 at_49 rfl rfl ?_
  refine gIloadN B0 at_50 rfl rfl ?_
  obtain ⟨_, D3⟩ : ∃ v : Int32, y0.toInt8.toInt32 = v := ⟨_, rfl⟩
  refine gI2B B0 at_51 D3 rfl ?_
  obtain ⟨b4, hb4, rfl⟩ := i2b_ex D3
  show Go K _ _ _ _ [.int (sb b4), .int 4, .ref A]
  refine wStB (y := (sb b4)) B0 at_52 (by simp) Iz (by decide) (sb_idem _) 4 (by decide) (show 4 < 6 from by decide) rfl fun _ I0 Am _ I1 => ?_
  have I2 : Arv Z I0 A E .byte 6 [.int (sb b0), .int (sb b1), .int (sb b2), .int (sb b3), .int (sb b4), .int 0] (.int 0) := I1
  refine gAload Am at_53 rfl rfl rfl ?_
  refine gIconst (z := 5) Am at_55 rfl rfl ?_
  refine gIloadN Am at_56 rfl rfl ?_
  refine gBipush (z := 8) Am at_57 rfl rfl ?_
  obtain ⟨I3, I4⟩ : ∃ v : Int32, (y0.toUInt32 >>> (8 &&& 31).toUInt32).toInt32 = v := ⟨_, rfl⟩
  refine gIushr Am at_59 I4 rfl ?_
  obtain ⟨_, D4⟩ : ∃ v : Int32, I3.toInt8.toInt32 = v := ⟨_, rfl⟩
  refine gI2B Am at_60 D4 rfl ?_
  obtain ⟨b5, hb5, rfl⟩ := i2b_ex D4
  show Go K _ _ _ _ [.int (sb b5), .int 5, .ref A]
  refine wStB (y := (sb b5)) Am at_61 (by simp) I2 (by decide) (sb_idem _) 5 (by decide) (show 5 < 6 from by decide) rfl fun _ I5 B1 _ I6 => ?_
  have Af : Arv Z I5 A E .byte 6 [.int (sb b0), .int (sb b1), .int (sb b2), .int (sb b3), .int (sb b4), .int (sb b5)] (.int 0) := I6
  refine gIconst (z := 4) B1 at_62 rfl rfl ?_
  refine wNewP (cap := 4) B1 at_63 (ow2 hw) (by decide) (by decide) (by decide) (by decide) (by decide) rfl fun _ I7 D Ae Ag Br Bs I8 => ?_
  have Da : Arv Z I7 D Ae .char 4 [.int 0, .int 0, .int 0, .int 0] (.int 0) := I8 4
  refine gAstore (ls' := #[aI x0, aI y0, aI m0, aI (Int32.ofNat nn), aR A, aR D, aU, aU, aU]) Ag at_65 rfl rfl rfl ?_
  refine gBipush (z := 8) Ag at_67 rfl rfl ?_
  refine wNewP (cap := 8) Ag at_69 (ow2 hw) (by decide) (by decide) (by decide) (by decide) (by decide) rfl fun _ An B N C Ah Ai I9 => ?_
  have Db : Arv Z An B N .char 8 [.int 0, .int 0, .int 0, .int 0, .int 0, .int 0, .int 0, .int 0] (.int 0) := I9 8
  refine gAstore (ls' := #[aI x0, aI y0, aI m0, aI (Int32.ofNat nn), aR A, aR D, aR B, aU, aU]) C at_71 rfl rfl rfl ?_
  refine gIloadN C at_73 rfl rfl ?_
  rcases (show nn = 0 ∨ nn = 1 ∨ nn = 2 ∨ nn = 3 ∨ nn = 4 ∨ nn = 5 ∨ nn = 6 from by omega) with rfl | rfl | rfl | rfl | rfl | rfl | rfl
  · show Go K _ _ _ _ [.int 0]
    refine gIfNo C at_74 ((if0 _ _).trans (teq (by decide)).2) rfl ?_
    refine wLdcE (vs := []) (z := 0) (n := 0) C at_77 (ow201 hw) (owS hw) hE (by decide) (by decide) (by decide) (by decide) (by decide) (by decide) (by decide) (by decide) rfl fun _ _ Cq Ja Jb Cr _ Jc Jd Je Jf _ Jg => ?_
    refine gAstore (ls' := #[aI x0, aI y0, aI m0, aI 0, aR A, aR D, aR B, aR Cq, aU]) Cr at_79 rfl rfl rfl ?_
    refine gGoto (pc' := 200) Cr at_81 (by decide) rfl ?_
    refine gAload Cr at_200 rfl rfl rfl ?_
    refine wLdcS (vs := [.int 99, .int 105, .int 112, .int 104, .int 101, .int 114, .int 116, .int 101, .int 120, .int 116]) (z := 10) (n := 40) Cr at_202 (ow41 hw) (owS hw) hE (by decide) (by decide) (by decide) (by decide) (by decide) (by decide) (by decide) (by decide) rfl fun _ Jh D5 _ _ D6 B2 _ _ _ _ _ => ?_
    have Ji := Jc.ext B2
    have Jj := Je.ext B2
    have Jk := Jd.ext B2
    have Jl := Jf.ext B2
    have Jm := Jg.ext B2
    refine wStaticW (y := mN41) (Wd := 0) (argsL := [.ref Cq, .ref D5]) (rest := []) D6 at_204 (ow44 hw) (ow45 hw) (ow46 hw) (ow47 hw) (by decide) (Cb.ctW (ob_ds0 hw hE dd Cq Ja Jb D5 z fm iso u8 tb ktb Jh D6.old SC hz SF rf SI SU niu SD DE DU DM TS TA Ji Jj Jk Jl Jm) (ow47 hw) (ow46 hw) hE (by decide) (by decide)) (by simp) rfl (lenOf opd29 rfl) rfl (Nat.le_of_eq rfl) (by decide) (by decide) rfl fun _ _ _ Jn O _ _ Jo => ?_
    obtain ⟨F, _, rfl, rfl, _, Jp⟩ := Jo
    show Go K _ _ _ _ [.ref F]
    refine gAstore (ls' := #[aI x0, aI y0, aI m0, aI 0, aR A, aR D, aR B, aR Cq, aR F]) O at_207 rfl rfl rfl ?_
    refine gAload O at_209 rfl rfl rfl ?_
    refine wLen O at_211 Jp rfl ?_
    refine gIloadN O at_212 rfl rfl ?_
    refine gIcmpNo O at_213 (teq (by decide)).2 rfl ?_
    refine gAload O at_216 rfl rfl rfl ?_
    refine gAload O at_218 rfl rfl rfl ?_
    refine gIloadN O at_220 rfl rfl ?_
    refine gIconst (z := 0) O at_221 rfl rfl ?_
    refine wStatic (y := mN2) (Wd := 0) (argsL := [.ref F, .ref A, .int 0, .int 0]) (rest := []) O at_222 (ow193 hw) (ow194 hw) (ow5 hw) (ow195 hw) (by decide) (Cb.ct (ob_sn0 hw hE F A 0 Jn O.old (by decide)) (ow195 hw) (ow5 hw) hE (by decide) (by decide)) (by simp) rfl (lenOf opd30 rfl) rfl (Nat.le_of_eq rfl) (by decide) (by decide) rfl fun _ _ _ Jq Ao _ _ Jr => ?_
    obtain ⟨rfl, rfl⟩ := Jr
    show Go K _ _ _ _ [.int 1]
    refine gIfNo Ao at_225 ((if0 _ _).trans (feq (by decide)).1) rfl ?_
    refine gAload Ao at_228 rfl rfl rfl ?_
    refine gAload Ao at_230 rfl rfl rfl ?_
    refine gIloadN Ao at_232 rfl rfl ?_
    refine gIconst (z := 1) Ao at_233 rfl rfl ?_
    refine wStatic (y := mN2) (Wd := 0) (argsL := [.ref F, .ref A, .int 0, .int 1]) (rest := []) Ao at_234 (ow193 hw) (ow194 hw) (ow5 hw) (ow195 hw) (by decide) (Cb.ct (ob_sn1 hw hE F A 0 Jq Ao.old (by decide)) (ow195 hw) (ow5 hw) hE (by decide) (by decide)) (by simp) rfl (lenOf opd30 rfl) rfl (Nat.le_of_eq rfl) (by decide) (by decide) rfl fun _ _ _ Js Ap _ _ Jt => ?_
    obtain ⟨rfl, rfl⟩ := Jt
    show Go K _ _ _ _ [.int 1]
    refine gIfNo Ap at_237 ((if0 _ _).trans (feq (by decide)).1) rfl ?_
    refine gAload Ap at_240 rfl rfl rfl ?_
    refine gAload Ap at_242 rfl rfl rfl ?_
    refine gIloadN Ap at_244 rfl rfl ?_
    refine gIconst (z := 2) Ap at_245 rfl rfl ?_
    refine wStatic (y := mN2) (Wd := 0) (argsL := [.ref F, .ref A, .int 0, .int 2]) (rest := []) Ap at_246 (ow193 hw) (ow194 hw) (ow5 hw) (ow195 hw) (by decide) (Cb.ct (ob_sn2 hw hE F A 0 Js Ap.old (by decide)) (ow195 hw) (ow5 hw) hE (by decide) (by decide)) (by simp) rfl (lenOf opd30 rfl) rfl (Nat.le_of_eq rfl) (by decide) (by decide) rfl fun _ _ _ Ju Aq _ _ Jv => ?_
    obtain ⟨rfl, rfl⟩ := Jv
    show Go K _ _ _ _ [.int 1]
    refine gIfNo Aq at_249 ((if0 _ _).trans (feq (by decide)).1) rfl ?_
    refine gAload Aq at_252 rfl rfl rfl ?_
    refine gAload Aq at_254 rfl rfl rfl ?_
    refine gIloadN Aq at_256 rfl rfl ?_
    refine gIconst (z := 3) Aq at_257 rfl rfl ?_
    refine wStatic (y := mN2) (Wd := 0) (argsL := [.ref F, .ref A, .int 0, .int 3]) (rest := []) Aq at_258 (ow193 hw) (ow194 hw) (ow5 hw) (ow195 hw) (by decide) (Cb.ct (ob_sn3 hw hE F A 0 Ju Aq.old (by decide)) (ow195 hw) (ow5 hw) hE (by decide) (by decide)) (by simp) rfl (lenOf opd30 rfl) rfl (Nat.le_of_eq rfl) (by decide) (by decide) rfl fun _ _ _ Jw Ar _ _ Jx => ?_
    obtain ⟨rfl, rfl⟩ := Jx
    show Go K _ _ _ _ [.int 1]
    refine gIfNo Ar at_261 ((if0 _ _).trans (feq (by decide)).1) rfl ?_
    refine gAload Ar at_264 rfl rfl rfl ?_
    refine gAload Ar at_266 rfl rfl rfl ?_
    refine gIloadN Ar at_268 rfl rfl ?_
    refine gIconst (z := 4) Ar at_269 rfl rfl ?_
    refine wStatic (y := mN2) (Wd := 0) (argsL := [.ref F, .ref A, .int 0, .int 4]) (rest := []) Ar at_270 (ow193 hw) (ow194 hw) (ow5 hw) (ow195 hw) (by decide) (Cb.ct (ob_sn4 hw hE F A 0 Jw Ar.old (by decide)) (ow195 hw) (ow5 hw) hE (by decide) (by decide)) (by simp) rfl (lenOf opd30 rfl) rfl (Nat.le_of_eq rfl) (by decide) (by decide) rfl fun _ _ _ Jy As _ _ Jz => ?_
    obtain ⟨rfl, rfl⟩ := Jz
    show Go K _ _ _ _ [.int 1]
    refine gIfNo As at_273 ((if0 _ _).trans (feq (by decide)).1) rfl ?_
    refine gAload As at_276 rfl rfl rfl ?_
    refine gAload As at_278 rfl rfl rfl ?_
    refine gIloadN As at_280 rfl rfl ?_
    refine gIconst (z := 5) As at_281 rfl rfl ?_
    refine wStatic (y := mN2) (Wd := 0) (argsL := [.ref F, .ref A, .int 0, .int 5]) (rest := []) As at_282 (ow193 hw) (ow194 hw) (ow5 hw) (ow195 hw) (by decide) (Cb.ct (ob_sn5 hw hE F A 0 Jy As.old (by decide)) (ow195 hw) (ow5 hw) hE (by decide) (by decide)) (by simp) rfl (lenOf opd30 rfl) rfl (Nat.le_of_eq rfl) (by decide) (by decide) rfl fun _ _ _ _ Cs _ _ J0 => ?_
    obtain ⟨rfl, rfl⟩ := J0
    show Go K _ _ _ _ [.int 1]
    refine gIfNo Cs at_285 ((if0 _ _).trans (feq (by decide)).1) rfl ?_
    refine gIconst (z := 1) Cs at_288 rfl rfl ?_
    refine gGoto (pc' := 293) Cs at_289 (by decide) rfl ?_
    exact wRetI (so := []) (t := .boolean) Cs at_293 (by simp) rfl (by decide) (by decide) (fun _ q => nomatch q) ⟨rfl, rfl⟩
  · show Go K _ _ _ _ [.int 1]
    refine gIfYes (pc' := 84) C at_74 ((if0 _ _).trans (feq (by decide)).2) (by decide) rfl ?_
    refine gIloadN C at_84 rfl rfl ?_
    refine gIconst (z := 3) C at_85 rfl rfl ?_
    refine gIcmpNo C at_86 (flt (by decide)).2.2.1 rfl ?_
    refine gAload C at_89 rfl rfl rfl ?_
    refine gIconst (z := 0) C at_91 rfl rfl ?_
    refine gAload C at_92 rfl rfl rfl ?_
    refine gIloadN C at_94 rfl rfl ?_
    refine gIconst (z := 0) C at_95 rfl rfl ?_
    have J1 := Af.ext Br
    have D7 := J1.ext Ah
    refine wStatic (y := mN1) (Wd := 2) (argsL := [.ref A, .int 1, .int 0]) (rest := [.int 0, .ref D]) C at_96 (ow3 hw) (ow4 hw) (ow5 hw) (ow6 hw) (by decide) (Cb.ct (ob_at0 hw hE A E [.int (sb b0), .int (sb b1), .int (sb b2), .int (sb b3), .int (sb b4), .int (sb b5)] 1 b0 An C.old D7 (by decide) (by decide) hb0 rfl) (ow6 hw) (ow5 hw) hE (by decide) (by decide)) (by simp) rfl (lenOf opd9 rfl) rfl (Nat.le_of_eq rfl) (by decide) (by decide) rfl fun _ _ _ J2 B3 D8 _ J3 => ?_
    obtain ⟨rfl, rfl⟩ := J3
    show Go K _ _ _ _ [.int (Int32.ofNat b0), .int 0, .ref D]
    refine gAload B3 at_99 rfl rfl rfl ?_
    refine gIloadN B3 at_101 rfl rfl ?_
    refine gIconst (z := 1) B3 at_102 rfl rfl ?_
    refine wStatic (y := mN1) (Wd := 3) (argsL := [.ref A, .int 1, .int 1]) (rest := [.int (Int32.ofNat b0), .int 0, .ref D]) B3 at_103 (ow3 hw) (ow4 hw) (ow5 hw) (ow6 hw) (by decide) (Cb.ct (ob_an1 hw hE A 1 J2 B3.old (by decide)) (ow6 hw) (ow5 hw) hE (by decide) (by decide)) (by simp) rfl (lenOf opd9 rfl) rfl (Nat.le_of_eq rfl) (by decide) (by decide) rfl fun _ _ _ J4 B4 D9 _ J5 => ?_
    obtain ⟨rfl, rfl⟩ := J5
    show Go K _ _ _ _ [.int 0, .int (Int32.ofNat b0), .int 0, .ref D]
    show Go K _ _ _ _ [.int (Int32.ofNat 0), .int (Int32.ofNat b0), .int 0, .ref D]
    refine gAload B4 at_106 rfl rfl rfl ?_
    refine gIloadN B4 at_108 rfl rfl ?_
    refine gIconst (z := 2) B4 at_109 rfl rfl ?_
    refine wStatic (y := mN1) (Wd := 4) (argsL := [.ref A, .int 1, .int 2]) (rest := [.int (Int32.ofNat 0), .int (Int32.ofNat b0), .int 0, .ref D]) B4 at_110 (ow3 hw) (ow4 hw) (ow5 hw) (ow6 hw) (by decide) (Cb.ct (ob_an2 hw hE A 1 J4 B4.old (by decide)) (ow6 hw) (ow5 hw) hE (by decide) (by decide)) (by simp) rfl (lenOf opd9 rfl) rfl (Nat.le_of_eq rfl) (by decide) (by decide) rfl fun _ _ _ J6 Dc Ea _ J7 => ?_
    obtain ⟨rfl, rfl⟩ := J7
    show Go K _ _ _ _ [.int 0, .int (Int32.ofNat 0), .int (Int32.ofNat b0), .int 0, .ref D]
    show Go K _ _ _ _ [.int (Int32.ofNat 0), .int (Int32.ofNat 0), .int (Int32.ofNat b0), .int 0, .ref D]
    refine gIloadN Dc at_113 rfl rfl ?_
    have J8 := Da.ext Ah
    have J9 := J8.keep D8 nin0
    have Ka := J9.keep D9 nin0
    have Kb := Ka.keep Ea nin0
    refine wStatic (y := mN3) (Wd := 0) (argsL := [.ref D, .int 0, .int (Int32.ofNat b0), .int (Int32.ofNat 0), .int (Int32.ofNat 0), .int 1]) (rest := []) Dc at_114 (ow7 hw) (ow8 hw) (ow5 hw) (ow9 hw) (by decide) (Cb.ct (ob_gr401 hw hE D Ae b0 0 0 J6 Dc.old Kb hb0 (by decide) (by decide) (Nat.le_trans B1.old.2.1 (Nat.le_of_eq Bs.symm))) (ow9 hw) (ow5 hw) hE (by decide) (by decide)) (by simp) rfl (lenOf opd31 rfl) rfl (Nat.le_of_eq rfl) (by decide) (by decide) rfl fun _ _ _ Kc Eb Kd _ Ke => ?_
    obtain ⟨rfl, rfl, Kf⟩ := Ke
    show Go K _ _ _ _ []
    have Kg : Arv Z Kc D Ae .char 4 (tx1 (vv b0 0 0)) (.int 0) := Kf
    refine wNewO Eb at_117 (ow13 hw) (ow14 hw) (ow15 hw) (by decide) (by decide) rfl fun _ Dd P Cu Ec Ed Kh Ee => ?_
    have Ki : Fld Z Dd P "java/lang/String" "value" "[B" .null := Ee (Or.inr (ow40 hw)) (ty := .array .byte) (by decide)
    have Kj : Fld Z Dd P "java/lang/String" "coder" "B" (.int 0) := Ee (Or.inr (ow38 hw)) (ty := .byte) (by decide)
    refine gDup Cu at_120 rfl rfl ?_
    refine gAload Cu at_121 rfl rfl rfl ?_
    have Kk := Kg.ext Ec
    refine wSpecial (y := mN9) (Wd := 1) (a := P) (argsL := [.ref D]) (rest := [.ref P]) Cu at_123 rfl (ow16 hw) (ow17 hw) (ow18 hw) (by decide) (Cb.ct (ob_i14 hw hE P D Ae z (symN (sx0 (vv b0 0 0))) (symN (sx1 (vv b0 0 0))) 61 61 Dd Cu.old SC hz Kh Ki Kj Kk (symN_le _) (symN_le _) (by decide) (by decide) (Nat.le_trans Eb.old.2.1 (Nat.le_of_eq Ed.symm))) (ow18 hw) (ow15 hw) hE (by decide) (by decide)) (by simp) rfl (lenOf opd32 rfl) rfl (Nat.le_of_eq rfl) (by decide) (by decide) rfl fun _ _ _ Kl Cv Km _ Kn => ?_
    obtain ⟨Ef, Eg, rfl, rfl, _, Ko, Kp, Kq, Kr, Ks⟩ := Kn
    show Go K _ _ _ _ [.ref P]
    have Kt : Arv Z Kl Ef Eg .byte 4 (tx1 (vv b0 0 0)) (.int 0) := Kr
    refine gAstore (ls' := #[aI x0, aI y0, aI m0, aI 1, aR A, aR D, aR B, aR P, aU]) Cv at_126 rfl rfl rfl ?_
    refine gGoto (pc' := 200) Cv at_128 (by decide) rfl ?_
    refine gAload Cv at_200 rfl rfl rfl ?_
    refine wLdcS (vs := [.int 99, .int 105, .int 112, .int 104, .int 101, .int 114, .int 116, .int 101, .int 120, .int 116]) (z := 10) (n := 40) Cv at_202 (ow41 hw) (owS hw) hE (by decide) (by decide) (by decide) (by decide) (by decide) (by decide) (by decide) (by decide) rfl fun _ Ku Eh _ _ Ei Bt _ _ _ _ _ => ?_
    have Kv := Ko.ext Bt
    have Kw := Kq.ext Bt
    have Kx := Kp.ext Bt
    have Ky := Kt.ext Bt
    have Kz := Ks.ext Bt
    refine wStaticW (y := mN41) (Wd := 0) (argsL := [.ref P, .ref Eh]) (rest := []) Ei at_204 (ow44 hw) (ow45 hw) (ow46 hw) (ow47 hw) (by decide) (Cb.ctW (ob_ds1 hw hE dd P Ef Eg Eh z fm iso u8 tb ktb (vv b0 0 0) Ku Ei.old SC hz SF rf SI SU niu SD DE DU DM TS TA Kv Kw Kx Ky Kz (vv_lt hb0 (by decide) (by decide)) (by unfold vv; omega)) (ow47 hw) (ow46 hw) hE (by decide) (by decide)) (by simp) rfl (lenOf opd29 rfl) rfl (Nat.le_of_eq rfl) (by decide) (by decide) rfl fun _ _ _ K0 Q K1 _ K2 => ?_
    obtain ⟨G, K3, rfl, rfl, _, Ej⟩ := K2
    show Go K _ _ _ _ [.ref G]
    refine gAstore (ls' := #[aI x0, aI y0, aI m0, aI 1, aR A, aR D, aR B, aR P, aR G]) Q at_207 rfl rfl rfl ?_
    refine gAload Q at_209 rfl rfl rfl ?_
    refine wLen Q at_211 Ej rfl ?_
    refine gIloadN Q at_212 rfl rfl ?_
    refine gIcmpNo Q at_213 (teq (by decide)).2 rfl ?_
    refine gAload Q at_216 rfl rfl rfl ?_
    refine gAload Q at_218 rfl rfl rfl ?_
    refine gIloadN Q at_220 rfl rfl ?_
    refine gIconst (z := 0) Q at_221 rfl rfl ?_
    have K4 := D7.keep D8 nin0
    have K5 := K4.keep D9 nin0
    have K6 := K5.keep Ea nin0
    have K7 : A ≠ D := Nat.ne_of_lt (Nat.lt_of_lt_of_le Af.lt (Nat.le_of_eq Bs.symm))
    have Ek := K6.keep Kd (ninS K7 nin0)
    have K8 := Ek.ext Ec
    have K9 : A ≠ P := Nat.ne_of_lt (Nat.lt_of_lt_of_le Ek.lt (Nat.le_of_eq Ed.symm))
    have La := K8.keep Km (ninS K9 nin0)
    have Lb := La.ext Bt
    have Lc := Lb.keep K1 nin0
    refine wStatic (y := mN2) (Wd := 0) (argsL := [.ref G, .ref A, .int 1, .int 0]) (rest := []) Q at_222 (ow193 hw) (ow194 hw) (ow5 hw) (ow195 hw) (by decide) (Cb.ct (ob_sm0 hw hE G K3 [.int (sb ((vv b0 0 0) / 65536))] A E [.int (sb b0), .int (sb b1), .int (sb b2), .int (sb b3), .int (sb b4), .int (sb b5)] 1 (sb b0) K0 Q.old Ej Lc (by decide) (by decide) (congrArg Value.int (sb_mod (by unfold vv; omega) (by unfold vv; omega) (by omega))) rfl) (ow195 hw) (ow5 hw) hE (by decide) (by decide)) (by simp) rfl (lenOf opd30 rfl) rfl (Nat.le_of_eq rfl) (by decide) (by decide) rfl fun _ _ _ Ld At _ _ Le => ?_
    obtain ⟨rfl, rfl⟩ := Le
    show Go K _ _ _ _ [.int 1]
    refine gIfNo At at_225 ((if0 _ _).trans (feq (by decide)).1) rfl ?_
    refine gAload At at_228 rfl rfl rfl ?_
    refine gAload At at_230 rfl rfl rfl ?_
    refine gIloadN At at_232 rfl rfl ?_
    refine gIconst (z := 1) At at_233 rfl rfl ?_
    refine wStatic (y := mN2) (Wd := 0) (argsL := [.ref G, .ref A, .int 1, .int 1]) (rest := []) At at_234 (ow193 hw) (ow194 hw) (ow5 hw) (ow195 hw) (by decide) (Cb.ct (ob_sn1 hw hE G A 1 Ld At.old (by decide)) (ow195 hw) (ow5 hw) hE (by decide) (by decide)) (by simp) rfl (lenOf opd30 rfl) rfl (Nat.le_of_eq rfl) (by decide) (by decide) rfl fun _ _ _ Lf Au _ _ Lg => ?_
    obtain ⟨rfl, rfl⟩ := Lg
    show Go K _ _ _ _ [.int 1]
    refine gIfNo Au at_237 ((if0 _ _).trans (feq (by decide)).1) rfl ?_
    refine gAload Au at_240 rfl rfl rfl ?_
    refine gAload Au at_242 rfl rfl rfl ?_
    refine gIloadN Au at_244 rfl rfl ?_
    refine gIconst (z := 2) Au at_245 rfl rfl ?_
    refine wStatic (y := mN2) (Wd := 0) (argsL := [.ref G, .ref A, .int 1, .int 2]) (rest := []) Au at_246 (ow193 hw) (ow194 hw) (ow5 hw) (ow195 hw) (by decide) (Cb.ct (ob_sn2 hw hE G A 1 Lf Au.old (by decide)) (ow195 hw) (ow5 hw) hE (by decide) (by decide)) (by simp) rfl (lenOf opd30 rfl) rfl (Nat.le_of_eq rfl) (by decide) (by decide) rfl fun _ _ _ Lh Av _ _ Li => ?_
    obtain ⟨rfl, rfl⟩ := Li
    show Go K _ _ _ _ [.int 1]
    refine gIfNo Av at_249 ((if0 _ _).trans (feq (by decide)).1) rfl ?_
    refine gAload Av at_252 rfl rfl rfl ?_
    refine gAload Av at_254 rfl rfl rfl ?_
    refine gIloadN Av at_256 rfl rfl ?_
    refine gIconst (z := 3) Av at_257 rfl rfl ?_
    refine wStatic (y := mN2) (Wd := 0) (argsL := [.ref G, .ref A, .int 1, .int 3]) (rest := []) Av at_258 (ow193 hw) (ow194 hw) (ow5 hw) (ow195 hw) (by decide) (Cb.ct (ob_sn3 hw hE G A 1 Lh Av.old (by decide)) (ow195 hw) (ow5 hw) hE (by decide) (by decide)) (by simp) rfl (lenOf opd30 rfl) rfl (Nat.le_of_eq rfl) (by decide) (by decide) rfl fun _ _ _ Lj Aw _ _ Lk => ?_
    obtain ⟨rfl, rfl⟩ := Lk
    show Go K _ _ _ _ [.int 1]
    refine gIfNo Aw at_261 ((if0 _ _).trans (feq (by decide)).1) rfl ?_
    refine gAload Aw at_264 rfl rfl rfl ?_
    refine gAload Aw at_266 rfl rfl rfl ?_
    refine gIloadN Aw at_268 rfl rfl ?_
    refine gIconst (z := 4) Aw at_269 rfl rfl ?_
    refine wStatic (y := mN2) (Wd := 0) (argsL := [.ref G, .ref A, .int 1, .int 4]) (rest := []) Aw at_270 (ow193 hw) (ow194 hw) (ow5 hw) (ow195 hw) (by decide) (Cb.ct (ob_sn4 hw hE G A 1 Lj Aw.old (by decide)) (ow195 hw) (ow5 hw) hE (by decide) (by decide)) (by simp) rfl (lenOf opd30 rfl) rfl (Nat.le_of_eq rfl) (by decide) (by decide) rfl fun _ _ _ Ll Ax _ _ Lm => ?_
    obtain ⟨rfl, rfl⟩ := Lm
    show Go K _ _ _ _ [.int 1]
    refine gIfNo Ax at_273 ((if0 _ _).trans (feq (by decide)).1) rfl ?_
    refine gAload Ax at_276 rfl rfl rfl ?_
    refine gAload Ax at_278 rfl rfl rfl ?_
    refine gIloadN Ax at_280 rfl rfl ?_
    refine gIconst (z := 5) Ax at_281 rfl rfl ?_
    refine wStatic (y := mN2) (Wd := 0) (argsL := [.ref G, .ref A, .int 1, .int 5]) (rest := []) Ax at_282 (ow193 hw) (ow194 hw) (ow5 hw) (ow195 hw) (by decide) (Cb.ct (ob_sn5 hw hE G A 1 Ll Ax.old (by decide)) (ow195 hw) (ow5 hw) hE (by decide) (by decide)) (by simp) rfl (lenOf opd30 rfl) rfl (Nat.le_of_eq rfl) (by decide) (by decide) rfl fun _ _ _ _ Cw _ _ Ln => ?_
    obtain ⟨rfl, rfl⟩ := Ln
    show Go K _ _ _ _ [.int 1]
    refine gIfNo Cw at_285 ((if0 _ _).trans (feq (by decide)).1) rfl ?_
    refine gIconst (z := 1) Cw at_288 rfl rfl ?_
    refine gGoto (pc' := 293) Cw at_289 (by decide) rfl ?_
    exact wRetI (so := []) (t := .boolean) Cw at_293 (by simp) rfl (by decide) (by decide) (fun _ q => nomatch q) ⟨rfl, rfl⟩
  · show Go K _ _ _ _ [.int 2]
    refine gIfYes (pc' := 84) C at_74 ((if0 _ _).trans (feq (by decide)).2) (by decide) rfl ?_
    refine gIloadN C at_84 rfl rfl ?_
    refine gIconst (z := 3) C at_85 rfl rfl ?_
    refine gIcmpNo C at_86 (flt (by decide)).2.2.1 rfl ?_
    refine gAload C at_89 rfl rfl rfl ?_
    refine gIconst (z := 0) C at_91 rfl rfl ?_
    refine gAload C at_92 rfl rfl rfl ?_
    refine gIloadN C at_94 rfl rfl ?_
    refine gIconst (z := 0) C at_95 rfl rfl ?_
    have Lo := Af.ext Br
    have El := Lo.ext Ah
    refine wStatic (y := mN1) (Wd := 2) (argsL := [.ref A, .int 2, .int 0]) (rest := [.int 0, .ref D]) C at_96 (ow3 hw) (ow4 hw) (ow5 hw) (ow6 hw) (by decide) (Cb.ct (ob_at0 hw hE A E [.int (sb b0), .int (sb b1), .int (sb b2), .int (sb b3), .int (sb b4), .int (sb b5)] 2 b0 An C.old El (by decide) (by decide) hb0 rfl) (ow6 hw) (ow5 hw) hE (by decide) (by decide)) (by simp) rfl (lenOf opd9 rfl) rfl (Nat.le_of_eq rfl) (by decide) (by decide) rfl fun _ _ _ Lp B5 Em _ Lq => ?_
    obtain ⟨rfl, rfl⟩ := Lq
    show Go K _ _ _ _ [.int (Int32.ofNat b0), .int 0, .ref D]
    refine gAload B5 at_99 rfl rfl rfl ?_
    refine gIloadN B5 at_101 rfl rfl ?_
    refine gIconst (z := 1) B5 at_102 rfl rfl ?_
    have En := El.keep Em nin0
    refine wStatic (y := mN1) (Wd := 3) (argsL := [.ref A, .int 2, .int 1]) (rest := [.int (Int32.ofNat b0), .int 0, .ref D]) B5 at_103 (ow3 hw) (ow4 hw) (ow5 hw) (ow6 hw) (by decide) (Cb.ct (ob_at1 hw hE A E [.int (sb b0), .int (sb b1), .int (sb b2), .int (sb b3), .int (sb b4), .int (sb b5)] 2 b1 Lp B5.old En (by decide) (by decide) hb1 rfl) (ow6 hw) (ow5 hw) hE (by decide) (by decide)) (by simp) rfl (lenOf opd9 rfl) rfl (Nat.le_of_eq rfl) (by decide) (by decide) rfl fun _ _ _ Lr B6 Eo _ Ls => ?_
    obtain ⟨rfl, rfl⟩ := Ls
    show Go K _ _ _ _ [.int (Int32.ofNat b1), .int (Int32.ofNat b0), .int 0, .ref D]
    refine gAload B6 at_106 rfl rfl rfl ?_
    refine gIloadN B6 at_108 rfl rfl ?_
    refine gIconst (z := 2) B6 at_109 rfl rfl ?_
    refine wStatic (y := mN1) (Wd := 4) (argsL := [.ref A, .int 2, .int 2]) (rest := [.int (Int32.ofNat b1), .int (Int32.ofNat b0), .int 0, .ref D]) B6 at_110 (ow3 hw) (ow4 hw) (ow5 hw) (ow6 hw) (by decide) (Cb.ct (ob_an2 hw hE A 2 Lr B6.old (by decide)) (ow6 hw) (ow5 hw) hE (by decide) (by decide)) (by simp) rfl (lenOf opd9 rfl) rfl (Nat.le_of_eq rfl) (by decide) (by decide) rfl fun _ _ _ Lt De Ep _ Lu => ?_
    obtain ⟨rfl, rfl⟩ := Lu
    show Go K _ _ _ _ [.int 0, .int (Int32.ofNat b1), .int (Int32.ofNat b0), .int 0, .ref D]
    show Go K _ _ _ _ [.int (Int32.ofNat 0), .int (Int32.ofNat b1), .int (Int32.ofNat b0), .int 0, .ref D]
    refine gIloadN De at_113 rfl rfl ?_
    have Lv := Da.ext Ah
    have Lw := Lv.keep Em nin0
    have Lx := Lw.keep Eo nin0
    have Ly := Lx.keep Ep nin0
    refine wStatic (y := mN3) (Wd := 0) (argsL := [.ref D, .int 0, .int (Int32.ofNat b0), .int (Int32.ofNat b1), .int (Int32.ofNat 0), .int 2]) (rest := []) De at_114 (ow7 hw) (ow8 hw) (ow5 hw) (ow9 hw) (by decide) (Cb.ct (ob_gr402 hw hE D Ae b0 b1 0 Lt De.old Ly hb0 hb1 (by decide) (Nat.le_trans B1.old.2.1 (Nat.le_of_eq Bs.symm))) (ow9 hw) (ow5 hw) hE (by decide) (by decide)) (by simp) rfl (lenOf opd31 rfl) rfl (Nat.le_of_eq rfl) (by decide) (by decide) rfl fun _ _ _ Lz Eq L0 _ L1 => ?_
    obtain ⟨rfl, rfl, L2⟩ := L1
    show Go K _ _ _ _ []
    have L3 : Arv Z Lz D Ae .char 4 (tx2 (vv b0 b1 0)) (.int 0) := L2
    refine wNewO Eq at_117 (ow13 hw) (ow14 hw) (ow15 hw) (by decide) (by decide) rfl fun _ Df R Cx Er Es L4 Et => ?_
    have L5 : Fld Z Df R "java/lang/String" "value" "[B" .null := Et (Or.inr (ow40 hw)) (ty := .array .byte) (by decide)
    have L6 : Fld Z Df R "java/lang/String" "coder" "B" (.int 0) := Et (Or.inr (ow38 hw)) (ty := .byte) (by decide)
    refine gDup Cx at_120 rfl rfl ?_
    refine gAload Cx at_121 rfl rfl rfl ?_
    have L7 := L3.ext Er
    refine wSpecial (y := mN9) (Wd := 1) (a := R) (argsL := [.ref D]) (rest := [.ref R]) Cx at_123 rfl (ow16 hw) (ow17 hw) (ow18 hw) (by decide) (Cb.ct (ob_i14 hw hE R D Ae z (symN (sx0 (vv b0 b1 0))) (symN (sx1 (vv b0 b1 0))) (symN (sx2 (vv b0 b1 0))) 61 Df Cx.old SC hz L4 L5 L6 L7 (symN_le _) (symN_le _) (symN_le _) (by decide) (Nat.le_trans Eq.old.2.1 (Nat.le_of_eq Es.symm))) (ow18 hw) (ow15 hw) hE (by decide) (by decide)) (by simp) rfl (lenOf opd32 rfl) rfl (Nat.le_of_eq rfl) (by decide) (by decide) rfl fun _ _ _ L8 Cy L9 _ Ma => ?_
    obtain ⟨Eu, Ev, rfl, rfl, _, Mb, Mc, Md, Me, Mf⟩ := Ma
    show Go K _ _ _ _ [.ref R]
    have Mg : Arv Z L8 Eu Ev .byte 4 (tx2 (vv b0 b1 0)) (.int 0) := Me
    refine gAstore (ls' := #[aI x0, aI y0, aI m0, aI 2, aR A, aR D, aR B, aR R, aU]) Cy at_126 rfl rfl rfl ?_
    refine gGoto (pc' := 200) Cy at_128 (by decide) rfl ?_
    refine gAload Cy at_200 rfl rfl rfl ?_
    refine wLdcS (vs := [.int 99, .int 105, .int 112, .int 104, .int 101, .int 114, .int 116, .int 101, .int 120, .int 116]) (z := 10) (n := 40) Cy at_202 (ow41 hw) (owS hw) hE (by decide) (by decide) (by decide) (by decide) (by decide) (by decide) (by decide) (by decide) rfl fun _ Mh Ew _ _ Ex Bu _ _ _ _ _ => ?_
    have Mi := Mb.ext Bu
    have Mj := Md.ext Bu
    have Mk := Mc.ext Bu
    have Ml := Mg.ext Bu
    have Mm := Mf.ext Bu
    refine wStaticW (y := mN41) (Wd := 0) (argsL := [.ref R, .ref Ew]) (rest := []) Ex at_204 (ow44 hw) (ow45 hw) (ow46 hw) (ow47 hw) (by decide) (Cb.ctW (ob_ds2 hw hE dd R Eu Ev Ew z fm iso u8 tb ktb (vv b0 b1 0) Mh Ex.old SC hz SF rf SI SU niu SD DE DU DM TS TA Mi Mj Mk Ml Mm (vv_lt hb0 hb1 (by decide)) (by unfold vv; omega)) (ow47 hw) (ow46 hw) hE (by decide) (by decide)) (by simp) rfl (lenOf opd29 rfl) rfl (Nat.le_of_eq rfl) (by decide) (by decide) rfl fun _ _ _ Mn S Mo _ Mp => ?_
    obtain ⟨H, Ey, rfl, rfl, _, Dg⟩ := Mp
    show Go K _ _ _ _ [.ref H]
    refine gAstore (ls' := #[aI x0, aI y0, aI m0, aI 2, aR A, aR D, aR B, aR R, aR H]) S at_207 rfl rfl rfl ?_
    refine gAload S at_209 rfl rfl rfl ?_
    refine wLen S at_211 Dg rfl ?_
    refine gIloadN S at_212 rfl rfl ?_
    refine gIcmpNo S at_213 (teq (by decide)).2 rfl ?_
    refine gAload S at_216 rfl rfl rfl ?_
    refine gAload S at_218 rfl rfl rfl ?_
    refine gIloadN S at_220 rfl rfl ?_
    refine gIconst (z := 0) S at_221 rfl rfl ?_
    have Mq := En.keep Eo nin0
    have Mr := Mq.keep Ep nin0
    have Ms : A ≠ D := Nat.ne_of_lt (Nat.lt_of_lt_of_le Af.lt (Nat.le_of_eq Bs.symm))
    have Ez := Mr.keep L0 (ninS Ms nin0)
    have Mt := Ez.ext Er
    have Mu : A ≠ R := Nat.ne_of_lt (Nat.lt_of_lt_of_le Ez.lt (Nat.le_of_eq Es.symm))
    have Mv := Mt.keep L9 (ninS Mu nin0)
    have Mw := Mv.ext Bu
    have E0 := Mw.keep Mo nin0
    refine wStatic (y := mN2) (Wd := 0) (argsL := [.ref H, .ref A, .int 2, .int 0]) (rest := []) S at_222 (ow193 hw) (ow194 hw) (ow5 hw) (ow195 hw) (by decide) (Cb.ct (ob_sm0 hw hE H Ey [.int (sb ((vv b0 b1 0) / 65536)), .int (sb ((vv b0 b1 0) / 256))] A E [.int (sb b0), .int (sb b1), .int (sb b2), .int (sb b3), .int (sb b4), .int (sb b5)] 2 (sb b0) Mn S.old Dg E0 (by decide) (by decide) (congrArg Value.int (sb_mod (by unfold vv; omega) (by unfold vv; omega) (by omega))) rfl) (ow195 hw) (ow5 hw) hE (by decide) (by decide)) (by simp) rfl (lenOf opd30 rfl) rfl (Nat.le_of_eq rfl) (by decide) (by decide) rfl fun _ _ _ Mx Ay E1 _ My => ?_
    obtain ⟨rfl, rfl⟩ := My
    show Go K _ _ _ _ [.int 1]
    refine gIfNo Ay at_225 ((if0 _ _).trans (feq (by decide)).1) rfl ?_
    refine gAload Ay at_228 rfl rfl rfl ?_
    refine gAload Ay at_230 rfl rfl rfl ?_
    refine gIloadN Ay at_232 rfl rfl ?_
    refine gIconst (z := 1) Ay at_233 rfl rfl ?_
    have Mz := Dg.keep E1 nin0
    have M0 := E0.keep E1 nin0
    refine wStatic (y := mN2) (Wd := 0) (argsL := [.ref H, .ref A, .int 2, .int 1]) (rest := []) Ay at_234 (ow193 hw) (ow194 hw) (ow5 hw) (ow195 hw) (by decide) (Cb.ct (ob_sm1 hw hE H Ey [.int (sb ((vv b0 b1 0) / 65536)), .int (sb ((vv b0 b1 0) / 256))] A E [.int (sb b0), .int (sb b1), .int (sb b2), .int (sb b3), .int (sb b4), .int (sb b5)] 2 (sb b1) Mx Ay.old Mz M0 (by decide) (by decide) (congrArg Value.int (sb_mod (by unfold vv; omega) (by unfold vv; omega) (by omega))) rfl) (ow195 hw) (ow5 hw) hE (by decide) (by decide)) (by simp) rfl (lenOf opd30 rfl) rfl (Nat.le_of_eq rfl) (by decide) (by decide) rfl fun _ _ _ M1 Az _ _ M2 => ?_
    obtain ⟨rfl, rfl⟩ := M2
    show Go K _ _ _ _ [.int 1]
    refine gIfNo Az at_237 ((if0 _ _).trans (feq (by decide)).1) rfl ?_
    refine gAload Az at_240 rfl rfl rfl ?_
    refine gAload Az at_242 rfl rfl rfl ?_
    refine gIloadN Az at_244 rfl rfl ?_
    refine gIconst (z := 2) Az at_245 rfl rfl ?_
    refine wStatic (y := mN2) (Wd := 0) (argsL := [.ref H, .ref A, .int 2, .int 2]) (rest := []) Az at_246 (ow193 hw) (ow194 hw) (ow5 hw) (ow195 hw) (by decide) (Cb.ct (ob_sn2 hw hE H A 2 M1 Az.old (by decide)) (ow195 hw) (ow5 hw) hE (by decide) (by decide)) (by simp) rfl (lenOf opd30 rfl) rfl (Nat.le_of_eq rfl) (by decide) (by decide) rfl fun _ _ _ M3 A0 _ _ M4 => ?_
    obtain ⟨rfl, rfl⟩ := M4
    show Go K _ _ _ _ [.int 1]
    refine gIfNo A0 at_249 ((if0 _ _).trans (feq (by decide)).1) rfl ?_
    refine gAload A0 at_252 rfl rfl rfl ?_
    refine gAload A0 at_254 rfl rfl rfl ?_
    refine gIloadN A0 at_256 rfl rfl ?_
    refine gIconst (z := 3) A0 at_257 rfl rfl ?_
    refine wStatic (y := mN2) (Wd := 0) (argsL := [.ref H, .ref A, .int 2, .int 3]) (rest := []) A0 at_258 (ow193 hw) (ow194 hw) (ow5 hw) (ow195 hw) (by decide) (Cb.ct (ob_sn3 hw hE H A 2 M3 A0.old (by decide)) (ow195 hw) (ow5 hw) hE (by decide) (by decide)) (by simp) rfl (lenOf opd30 rfl) rfl (Nat.le_of_eq rfl) (by decide) (by decide) rfl fun _ _ _ M5 A1 _ _ M6 => ?_
    obtain ⟨rfl, rfl⟩ := M6
    show Go K _ _ _ _ [.int 1]
    refine gIfNo A1 at_261 ((if0 _ _).trans (feq (by decide)).1) rfl ?_
    refine gAload A1 at_264 rfl rfl rfl ?_
    refine gAload A1 at_266 rfl rfl rfl ?_
    refine gIloadN A1 at_268 rfl rfl ?_
    refine gIconst (z := 4) A1 at_269 rfl rfl ?_
    refine wStatic (y := mN2) (Wd := 0) (argsL := [.ref H, .ref A, .int 2, .int 4]) (rest := []) A1 at_270 (ow193 hw) (ow194 hw) (ow5 hw) (ow195 hw) (by decide) (Cb.ct (ob_sn4 hw hE H A 2 M5 A1.old (by decide)) (ow195 hw) (ow5 hw) hE (by decide) (by decide)) (by simp) rfl (lenOf opd30 rfl) rfl (Nat.le_of_eq rfl) (by decide) (by decide) rfl fun _ _ _ M7 A2 _ _ M8 => ?_
    obtain ⟨rfl, rfl⟩ := M8
    show Go K _ _ _ _ [.int 1]
    refine gIfNo A2 at_273 ((if0 _ _).trans (feq (by decide)).1) rfl ?_
    refine gAload A2 at_276 rfl rfl rfl ?_
    refine gAload A2 at_278 rfl rfl rfl ?_
    refine gIloadN A2 at_280 rfl rfl ?_
    refine gIconst (z := 5) A2 at_281 rfl rfl ?_
    refine wStatic (y := mN2) (Wd := 0) (argsL := [.ref H, .ref A, .int 2, .int 5]) (rest := []) A2 at_282 (ow193 hw) (ow194 hw) (ow5 hw) (ow195 hw) (by decide) (Cb.ct (ob_sn5 hw hE H A 2 M7 A2.old (by decide)) (ow195 hw) (ow5 hw) hE (by decide) (by decide)) (by simp) rfl (lenOf opd30 rfl) rfl (Nat.le_of_eq rfl) (by decide) (by decide) rfl fun _ _ _ _ Cz _ _ M9 => ?_
    obtain ⟨rfl, rfl⟩ := M9
    show Go K _ _ _ _ [.int 1]
    refine gIfNo Cz at_285 ((if0 _ _).trans (feq (by decide)).1) rfl ?_
    refine gIconst (z := 1) Cz at_288 rfl rfl ?_
    refine gGoto (pc' := 293) Cz at_289 (by decide) rfl ?_
    exact wRetI (so := []) (t := .boolean) Cz at_293 (by simp) rfl (by decide) (by decide) (fun _ q => nomatch q) ⟨rfl, rfl⟩
  · show Go K _ _ _ _ [.int 3]
    refine gIfYes (pc' := 84) C at_74 ((if0 _ _).trans (feq (by decide)).2) (by decide) rfl ?_
    refine gIloadN C at_84 rfl rfl ?_
    refine gIconst (z := 3) C at_85 rfl rfl ?_
    refine gIcmpNo C at_86 (flt (by decide)).2.2.1 rfl ?_
    refine gAload C at_89 rfl rfl rfl ?_
    refine gIconst (z := 0) C at_91 rfl rfl ?_
    refine gAload C at_92 rfl rfl rfl ?_
    refine gIloadN C at_94 rfl rfl ?_
    refine gIconst (z := 0) C at_95 rfl rfl ?_
    have Na := Af.ext Br
    have E2 := Na.ext Ah
    refine wStatic (y := mN1) (Wd := 2) (argsL := [.ref A, .int 3, .int 0]) (rest := [.int 0, .ref D]) C at_96 (ow3 hw) (ow4 hw) (ow5 hw) (ow6 hw) (by decide) (Cb.ct (ob_at0 hw hE A E [.int (sb b0), .int (sb b1), .int (sb b2), .int (sb b3), .int (sb b4), .int (sb b5)] 3 b0 An C.old E2 (by decide) (by decide) hb0 rfl) (ow6 hw) (ow5 hw) hE (by decide) (by decide)) (by simp) rfl (lenOf opd9 rfl) rfl (Nat.le_of_eq rfl) (by decide) (by decide) rfl fun _ _ _ Nb B7 E3 _ Nc => ?_
    obtain ⟨rfl, rfl⟩ := Nc
    show Go K _ _ _ _ [.int (Int32.ofNat b0), .int 0, .ref D]
    refine gAload B7 at_99 rfl rfl rfl ?_
    refine gIloadN B7 at_101 rfl rfl ?_
    refine gIconst (z := 1) B7 at_102 rfl rfl ?_
    have E4 := E2.keep E3 nin0
    refine wStatic (y := mN1) (Wd := 3) (argsL := [.ref A, .int 3, .int 1]) (rest := [.int (Int32.ofNat b0), .int 0, .ref D]) B7 at_103 (ow3 hw) (ow4 hw) (ow5 hw) (ow6 hw) (by decide) (Cb.ct (ob_at1 hw hE A E [.int (sb b0), .int (sb b1), .int (sb b2), .int (sb b3), .int (sb b4), .int (sb b5)] 3 b1 Nb B7.old E4 (by decide) (by decide) hb1 rfl) (ow6 hw) (ow5 hw) hE (by decide) (by decide)) (by simp) rfl (lenOf opd9 rfl) rfl (Nat.le_of_eq rfl) (by decide) (by decide) rfl fun _ _ _ Nd B8 E5 _ Ne => ?_
    obtain ⟨rfl, rfl⟩ := Ne
    show Go K _ _ _ _ [.int (Int32.ofNat b1), .int (Int32.ofNat b0), .int 0, .ref D]
    refine gAload B8 at_106 rfl rfl rfl ?_
    refine gIloadN B8 at_108 rfl rfl ?_
    refine gIconst (z := 2) B8 at_109 rfl rfl ?_
    have E6 := E4.keep E5 nin0
    refine wStatic (y := mN1) (Wd := 4) (argsL := [.ref A, .int 3, .int 2]) (rest := [.int (Int32.ofNat b1), .int (Int32.ofNat b0), .int 0, .ref D]) B8 at_110 (ow3 hw) (ow4 hw) (ow5 hw) (ow6 hw) (by decide) (Cb.ct (ob_at2 hw hE A E [.int (sb b0), .int (sb b1), .int (sb b2), .int (sb b3), .int (sb b4), .int (sb b5)] 3 b2 Nd B8.old E6 (by decide) (by decide) hb2 rfl) (ow6 hw) (ow5 hw) hE (by decide) (by decide)) (by simp) rfl (lenOf opd9 rfl) rfl (Nat.le_of_eq rfl) (by decide) (by decide) rfl fun _ _ _ Nf Dh E7 _ Ng => ?_
    obtain ⟨rfl, rfl⟩ := Ng
    show Go K _ _ _ _ [.int (Int32.ofNat b2), .int (Int32.ofNat b1), .int (Int32.ofNat b0), .int 0, .ref D]
    refine gIloadN Dh at_113 rfl rfl ?_
    have Nh := Da.ext Ah
    have Ni := Nh.keep E3 nin0
    have Nj := Ni.keep E5 nin0
    have Nk := Nj.keep E7 nin0
    refine wStatic (y := mN3) (Wd := 0) (argsL := [.ref D, .int 0, .int (Int32.ofNat b0), .int (Int32.ofNat b1), .int (Int32.ofNat b2), .int 3]) (rest := []) Dh at_114 (ow7 hw) (ow8 hw) (ow5 hw) (ow9 hw) (by decide) (Cb.ct (ob_gr403 hw hE D Ae b0 b1 b2 Nf Dh.old Nk hb0 hb1 hb2 (Nat.le_trans B1.old.2.1 (Nat.le_of_eq Bs.symm))) (ow9 hw) (ow5 hw) hE (by decide) (by decide)) (by simp) rfl (lenOf opd31 rfl) rfl (Nat.le_of_eq rfl) (by decide) (by decide) rfl fun _ _ _ Nl E8 Nm _ Nn => ?_
    obtain ⟨rfl, rfl, No⟩ := Nn
    show Go K _ _ _ _ []
    have Np : Arv Z Nl D Ae .char 4 (tx3 (vv b0 b1 b2)) (.int 0) := No
    refine wNewO E8 at_117 (ow13 hw) (ow14 hw) (ow15 hw) (by decide) (by decide) rfl fun _ Di U C0 E9 Fa Nq Fb => ?_
    have Nr : Fld Z Di U "java/lang/String" "value" "[B" .null := Fb (Or.inr (ow40 hw)) (ty := .array .byte) (by decide)
    have Ns : Fld Z Di U "java/lang/String" "coder" "B" (.int 0) := Fb (Or.inr (ow38 hw)) (ty := .byte) (by decide)
    refine gDup C0 at_120 rfl rfl ?_
    refine gAload C0 at_121 rfl rfl rfl ?_
    have Nt := Np.ext E9
    refine wSpecial (y := mN9) (Wd := 1) (a := U) (argsL := [.ref D]) (rest := [.ref U]) C0 at_123 rfl (ow16 hw) (ow17 hw) (ow18 hw) (by decide) (Cb.ct (ob_i14 hw hE U D Ae z (symN (sx0 (vv b0 b1 b2))) (symN (sx1 (vv b0 b1 b2))) (symN (sx2 (vv b0 b1 b2))) (symN (sx3 (vv b0 b1 b2))) Di C0.old SC hz Nq Nr Ns Nt (symN_le _) (symN_le _) (symN_le _) (symN_le _) (Nat.le_trans E8.old.2.1 (Nat.le_of_eq Fa.symm))) (ow18 hw) (ow15 hw) hE (by decide) (by decide)) (by simp) rfl (lenOf opd32 rfl) rfl (Nat.le_of_eq rfl) (by decide) (by decide) rfl fun _ _ _ Nu C1 Nv _ Nw => ?_
    obtain ⟨Fc, Fd, rfl, rfl, _, Nx, Ny, Nz, N0, N1⟩ := Nw
    show Go K _ _ _ _ [.ref U]
    have N2 : Arv Z Nu Fc Fd .byte 4 (tx3 (vv b0 b1 b2)) (.int 0) := N0
    refine gAstore (ls' := #[aI x0, aI y0, aI m0, aI 3, aR A, aR D, aR B, aR U, aU]) C1 at_126 rfl rfl rfl ?_
    refine gGoto (pc' := 200) C1 at_128 (by decide) rfl ?_
    refine gAload C1 at_200 rfl rfl rfl ?_
    refine wLdcS (vs := [.int 99, .int 105, .int 112, .int 104, .int 101, .int 114, .int 116, .int 101, .int 120, .int 116]) (z := 10) (n := 40) C1 at_202 (ow41 hw) (owS hw) hE (by decide) (by decide) (by decide) (by decide) (by decide) (by decide) (by decide) (by decide) rfl fun _ N3 Fe _ _ Ff Bv _ _ _ _ _ => ?_
    have N4 := Nx.ext Bv
    have N5 := Nz.ext Bv
    have N6 := Ny.ext Bv
    have N7 := N2.ext Bv
    have N8 := N1.ext Bv
    refine wStaticW (y := mN41) (Wd := 0) (argsL := [.ref U, .ref Fe]) (rest := []) Ff at_204 (ow44 hw) (ow45 hw) (ow46 hw) (ow47 hw) (by decide) (Cb.ctW (ob_ds3 hw hE dd U Fc Fd Fe z fm iso u8 tb ktb (vv b0 b1 b2) N3 Ff.old SC hz SF rf SI SU niu SD DE DU DM TS TA N4 N5 N6 N7 N8 (vv_lt hb0 hb1 hb2)) (ow47 hw) (ow46 hw) hE (by decide) (by decide)) (by simp) rfl (lenOf opd29 rfl) rfl (Nat.le_of_eq rfl) (by decide) (by decide) rfl fun _ _ _ N9 V Oa _ Ob => ?_
    obtain ⟨I, Dj, rfl, rfl, _, Dk⟩ := Ob
    show Go K _ _ _ _ [.ref I]
    refine gAstore (ls' := #[aI x0, aI y0, aI m0, aI 3, aR A, aR D, aR B, aR U, aR I]) V at_207 rfl rfl rfl ?_
    refine gAload V at_209 rfl rfl rfl ?_
    refine wLen V at_211 Dk rfl ?_
    refine gIloadN V at_212 rfl rfl ?_
    refine gIcmpNo V at_213 (teq (by decide)).2 rfl ?_
    refine gAload V at_216 rfl rfl rfl ?_
    refine gAload V at_218 rfl rfl rfl ?_
    refine gIloadN V at_220 rfl rfl ?_
    refine gIconst (z := 0) V at_221 rfl rfl ?_
    have Oc := E6.keep E7 nin0
    have Od : A ≠ D := Nat.ne_of_lt (Nat.lt_of_lt_of_le Af.lt (Nat.le_of_eq Bs.symm))
    have Fg := Oc.keep Nm (ninS Od nin0)
    have Oe := Fg.ext E9
    have Of : A ≠ U := Nat.ne_of_lt (Nat.lt_of_lt_of_le Fg.lt (Nat.le_of_eq Fa.symm))
    have Og := Oe.keep Nv (ninS Of nin0)
    have Oh := Og.ext Bv
    have Fh := Oh.keep Oa nin0
    refine wStatic (y := mN2) (Wd := 0) (argsL := [.ref I, .ref A, .int 3, .int 0]) (rest := []) V at_222 (ow193 hw) (ow194 hw) (ow5 hw) (ow195 hw) (by decide) (Cb.ct (ob_sm0 hw hE I Dj [.int (sb ((vv b0 b1 b2) / 65536)), .int (sb ((vv b0 b1 b2) / 256)), .int (sb (vv b0 b1 b2))] A E [.int (sb b0), .int (sb b1), .int (sb b2), .int (sb b3), .int (sb b4), .int (sb b5)] 3 (sb b0) N9 V.old Dk Fh (by decide) (by decide) (congrArg Value.int (sb_mod (by unfold vv; omega) (by unfold vv; omega) (by omega))) rfl) (ow195 hw) (ow5 hw) hE (by decide) (by decide)) (by simp) rfl (lenOf opd30 rfl) rfl (Nat.le_of_eq rfl) (by decide) (by decide) rfl fun _ _ _ Oi A3 Fi _ Oj => ?_
    obtain ⟨rfl, rfl⟩ := Oj
    show Go K _ _ _ _ [.int 1]
    refine gIfNo A3 at_225 ((if0 _ _).trans (feq (by decide)).1) rfl ?_
    refine gAload A3 at_228 rfl rfl rfl ?_
    refine gAload A3 at_230 rfl rfl rfl ?_
    refine gIloadN A3 at_232 rfl rfl ?_
    refine gIconst (z := 1) A3 at_233 rfl rfl ?_
    have Fj := Dk.keep Fi nin0
    have Fk := Fh.keep Fi nin0
    refine wStatic (y := mN2) (Wd := 0) (argsL := [.ref I, .ref A, .int 3, .int 1]) (rest := []) A3 at_234 (ow193 hw) (ow194 hw) (ow5 hw) (ow195 hw) (by decide) (Cb.ct (ob_sm1 hw hE I Dj [.int (sb ((vv b0 b1 b2) / 65536)), .int (sb ((vv b0 b1 b2) / 256)), .int (sb (vv b0 b1 b2))] A E [.int (sb b0), .int (sb b1), .int (sb b2), .int (sb b3), .int (sb b4), .int (sb b5)] 3 (sb b1) Oi A3.old Fj Fk (by decide) (by decide) (congrArg Value.int (sb_mod (by unfold vv; omega) (by unfold vv; omega) (by omega))) rfl) (ow195 hw) (ow5 hw) hE (by decide) (by decide)) (by simp) rfl (lenOf opd30 rfl) rfl (Nat.le_of_eq rfl) (by decide) (by decide) rfl fun _ _ _ Ok A4 Fl _ Om => ?_
    obtain ⟨rfl, rfl⟩ := Om
    show Go K _ _ _ _ [.int 1]
    refine gIfNo A4 at_237 ((if0 _ _).trans (feq (by decide)).1) rfl ?_
    refine gAload A4 at_240 rfl rfl rfl ?_
    refine gAload A4 at_242 rfl rfl rfl ?_
    refine gIloadN A4 at_244 rfl rfl ?_
    refine gIconst (z := 2) A4 at_245 rfl rfl ?_
    have On := Fj.keep Fl nin0
    have Oo := Fk.keep Fl nin0
    refine wStatic (y := mN2) (Wd := 0) (argsL := [.ref I, .ref A, .int 3, .int 2]) (rest := []) A4 at_246 (ow193 hw) (ow194 hw) (ow5 hw) (ow195 hw) (by decide) (Cb.ct (ob_sm2 hw hE I Dj [.int (sb ((vv b0 b1 b2) / 65536)), .int (sb ((vv b0 b1 b2) / 256)), .int (sb (vv b0 b1 b2))] A E [.int (sb b0), .int (sb b1), .int (sb b2), .int (sb b3), .int (sb b4), .int (sb b5)] 3 (sb b2) Ok A4.old On Oo (by decide) (by decide) (congrArg Value.int (sb_mod (by unfold vv; omega) (by unfold vv; omega) (by omega))) rfl) (ow195 hw) (ow5 hw) hE (by decide) (by decide)) (by simp) rfl (lenOf opd30 rfl) rfl (Nat.le_of_eq rfl) (by decide) (by decide) rfl fun _ _ _ Op A5 _ _ Oq => ?_
    obtain ⟨rfl, rfl⟩ := Oq
    show Go K _ _ _ _ [.int 1]
    refine gIfNo A5 at_249 ((if0 _ _).trans (feq (by decide)).1) rfl ?_
    refine gAload A5 at_252 rfl rfl rfl ?_
    refine gAload A5 at_254 rfl rfl rfl ?_
    refine gIloadN A5 at_256 rfl rfl ?_
    refine gIconst (z := 3) A5 at_257 rfl rfl ?_
    refine wStatic (y := mN2) (Wd := 0) (argsL := [.ref I, .ref A, .int 3, .int 3]) (rest := []) A5 at_258 (ow193 hw) (ow194 hw) (ow5 hw) (ow195 hw) (by decide) (Cb.ct (ob_sn3 hw hE I A 3 Op A5.old (by decide)) (ow195 hw) (ow5 hw) hE (by decide) (by decide)) (by simp) rfl (lenOf opd30 rfl) rfl (Nat.le_of_eq rfl) (by decide) (by decide) rfl fun _ _ _ Os A6 _ _ Ot => ?_
    obtain ⟨rfl, rfl⟩ := Ot
    show Go K _ _ _ _ [.int 1]
    refine gIfNo A6 at_261 ((if0 _ _).trans (feq (by decide)).1) rfl ?_
    refine gAload A6 at_264 rfl rfl rfl ?_
    refine gAload A6 at_266 rfl rfl rfl ?_
    refine gIloadN A6 at_268 rfl rfl ?_
    refine gIconst (z := 4) A6 at_269 rfl rfl ?_
    refine wStatic (y := mN2) (Wd := 0) (argsL := [.ref I, .ref A, .int 3, .int 4]) (rest := []) A6 at_270 (ow193 hw) (ow194 hw) (ow5 hw) (ow195 hw) (by decide) (Cb.ct (ob_sn4 hw hE I A 3 Os A6.old (by decide)) (ow195 hw) (ow5 hw) hE (by decide) (by decide)) (by simp) rfl (lenOf opd30 rfl) rfl (Nat.le_of_eq rfl) (by decide) (by decide) rfl fun _ _ _ Ou A7 _ _ Ov => ?_
    obtain ⟨rfl, rfl⟩ := Ov
    show Go K _ _ _ _ [.int 1]
    refine gIfNo A7 at_273 ((if0 _ _).trans (feq (by decide)).1) rfl ?_
    refine gAload A7 at_276 rfl rfl rfl ?_
    refine gAload A7 at_278 rfl rfl rfl ?_
    refine gIloadN A7 at_280 rfl rfl ?_
    refine gIconst (z := 5) A7 at_281 rfl rfl ?_
    refine wStatic (y := mN2) (Wd := 0) (argsL := [.ref I, .ref A, .int 3, .int 5]) (rest := []) A7 at_282 (ow193 hw) (ow194 hw) (ow5 hw) (ow195 hw) (by decide) (Cb.ct (ob_sn5 hw hE I A 3 Ou A7.old (by decide)) (ow195 hw) (ow5 hw) hE (by decide) (by decide)) (by simp) rfl (lenOf opd30 rfl) rfl (Nat.le_of_eq rfl) (by decide) (by decide) rfl fun _ _ _ _ C2 _ _ Ow => ?_
    obtain ⟨rfl, rfl⟩ := Ow
    show Go K _ _ _ _ [.int 1]
    refine gIfNo C2 at_285 ((if0 _ _).trans (feq (by decide)).1) rfl ?_
    refine gIconst (z := 1) C2 at_288 rfl rfl ?_
    refine gGoto (pc' := 293) C2 at_289 (by decide) rfl ?_
    exact wRetI (so := []) (t := .boolean) C2 at_293 (by simp) rfl (by decide) (by decide) (fun _ q => nomatch q) ⟨rfl, rfl⟩
  · show Go K _ _ _ _ [.int 4]
    refine gIfYes (pc' := 84) C at_74 ((if0 _ _).trans (feq (by decide)).2) (by decide) rfl ?_
    refine gIloadN C at_84 rfl rfl ?_
    refine gIconst (z := 3) C at_85 rfl rfl ?_
    refine gIcmpYes (pc' := 131) C at_86 (tlt (by decide)).2.2.1 (by decide) rfl ?_
    refine gAload C at_131 rfl rfl rfl ?_
    refine gIconst (z := 0) C at_133 rfl rfl ?_
    refine gAload C at_134 rfl rfl rfl ?_
    refine gIloadN C at_136 rfl rfl ?_
    refine gIconst (z := 0) C at_137 rfl rfl ?_
    have Fm := Af.ext Br
    have Fn := Fm.ext Ah
    refine wStatic (y := mN1) (Wd := 2) (argsL := [.ref A, .int 4, .int 0]) (rest := [.int 0, .ref B]) C at_138 (ow3 hw) (ow4 hw) (ow5 hw) (ow6 hw) (by decide) (Cb.ct (ob_at0 hw hE A E [.int (sb b0), .int (sb b1), .int (sb b2), .int (sb b3), .int (sb b4), .int (sb b5)] 4 b0 An C.old Fn (by decide) (by decide) hb0 rfl) (ow6 hw) (ow5 hw) hE (by decide) (by decide)) (by simp) rfl (lenOf opd9 rfl) rfl (Nat.le_of_eq rfl) (by decide) (by decide) rfl fun _ _ _ Ox B9 Fo _ Oy => ?_
    obtain ⟨rfl, rfl⟩ := Oy
    show Go K _ _ _ _ [.int (Int32.ofNat b0), .int 0, .ref B]
    refine gAload B9 at_141 rfl rfl rfl ?_
    refine gIloadN B9 at_143 rfl rfl ?_
    refine gIconst (z := 1) B9 at_144 rfl rfl ?_
    have Fp := Fn.keep Fo nin0
    refine wStatic (y := mN1) (Wd := 3) (argsL := [.ref A, .int 4, .int 1]) (rest := [.int (Int32.ofNat b0), .int 0, .ref B]) B9 at_145 (ow3 hw) (ow4 hw) (ow5 hw) (ow6 hw) (by decide) (Cb.ct (ob_at1 hw hE A E [.int (sb b0), .int (sb b1), .int (sb b2), .int (sb b3), .int (sb b4), .int (sb b5)] 4 b1 Ox B9.old Fp (by decide) (by decide) hb1 rfl) (ow6 hw) (ow5 hw) hE (by decide) (by decide)) (by simp) rfl (lenOf opd9 rfl) rfl (Nat.le_of_eq rfl) (by decide) (by decide) rfl fun _ _ _ Oz Ca Fq _ O0 => ?_
    obtain ⟨rfl, rfl⟩ := O0
    show Go K _ _ _ _ [.int (Int32.ofNat b1), .int (Int32.ofNat b0), .int 0, .ref B]
    refine gAload Ca at_148 rfl rfl rfl ?_
    refine gIloadN Ca at_150 rfl rfl ?_
    refine gIconst (z := 2) Ca at_151 rfl rfl ?_
    have Fr := Fp.keep Fq nin0
    refine wStatic (y := mN1) (Wd := 4) (argsL := [.ref A, .int 4, .int 2]) (rest := [.int (Int32.ofNat b1), .int (Int32.ofNat b0), .int 0, .ref B]) Ca at_152 (ow3 hw) (ow4 hw) (ow5 hw) (ow6 hw) (by decide) (Cb.ct (ob_at2 hw hE A E [.int (sb b0), .int (sb b1), .int (sb b2), .int (sb b3), .int (sb b4), .int (sb b5)] 4 b2 Oz Ca.old Fr (by decide) (by decide) hb2 rfl) (ow6 hw) (ow5 hw) hE (by decide) (by decide)) (by simp) rfl (lenOf opd9 rfl) rfl (Nat.le_of_eq rfl) (by decide) (by decide) rfl fun _ _ _ O1 Dl Fs _ O2 => ?_
    obtain ⟨rfl, rfl⟩ := O2
    show Go K _ _ _ _ [.int (Int32.ofNat b2), .int (Int32.ofNat b1), .int (Int32.ofNat b0), .int 0, .ref B]
    refine gIconst (z := 3) Dl at_155 rfl rfl ?_
    have O3 := Db.keep Fo nin0
    have O4 := O3.keep Fq nin0
    have O5 := O4.keep Fs nin0
    refine wStatic (y := mN3) (Wd := 0) (argsL := [.ref B, .int 0, .int (Int32.ofNat b0), .int (Int32.ofNat b1), .int (Int32.ofNat b2), .int 3]) (rest := []) Dl at_156 (ow7 hw) (ow8 hw) (ow5 hw) (ow9 hw) (by decide) (Cb.ct (ob_gr803 hw hE B N b0 b1 b2 O1 Dl.old O5 hb0 hb1 hb2 (Nat.le_trans Ag.old.2.1 (Nat.le_of_eq Ai.symm))) (ow9 hw) (ow5 hw) hE (by decide) (by decide)) (by simp) rfl (lenOf opd31 rfl) rfl (Nat.le_of_eq rfl) (by decide) (by decide) rfl fun _ _ _ O6 A8 O7 _ O8 => ?_
    obtain ⟨rfl, rfl, O9⟩ := O8
    show Go K _ _ _ _ []
    refine gAload A8 at_159 rfl rfl rfl ?_
    refine gIconst (z := 4) A8 at_161 rfl rfl ?_
    refine gAload A8 at_162 rfl rfl rfl ?_
    refine gIloadN A8 at_164 rfl rfl ?_
    refine gIconst (z := 3) A8 at_165 rfl rfl ?_
    have Pa := Fr.keep Fs nin0
    have Ft : A ≠ B := Nat.ne_of_lt (Nat.lt_of_lt_of_le Fm.lt (Nat.le_of_eq Ai.symm))
    have Fu := Pa.keep O7 (ninS Ft nin0)
    refine wStatic (y := mN1) (Wd := 2) (argsL := [.ref A, .int 4, .int 3]) (rest := [.int 4, .ref B]) A8 at_166 (ow3 hw) (ow4 hw) (ow5 hw) (ow6 hw) (by decide) (Cb.ct (ob_at3 hw hE A E [.int (sb b0), .int (sb b1), .int (sb b2), .int (sb b3), .int (sb b4), .int (sb b5)] 4 b3 O6 A8.old Fu (by decide) (by decide) hb3 rfl) (ow6 hw) (ow5 hw) hE (by decide) (by decide)) (by simp) rfl (lenOf opd9 rfl) rfl (Nat.le_of_eq rfl) (by decide) (by decide) rfl fun _ _ _ Pb Cc Fv _ Pc => ?_
    obtain ⟨rfl, rfl⟩ := Pc
    show Go K _ _ _ _ [.int (Int32.ofNat b3), .int 4, .ref B]
    refine gAload Cc at_169 rfl rfl rfl ?_
    refine gIloadN Cc at_171 rfl rfl ?_
    refine gIconst (z := 4) Cc at_172 rfl rfl ?_
    refine wStatic (y := mN1) (Wd := 3) (argsL := [.ref A, .int 4, .int 4]) (rest := [.int (Int32.ofNat b3), .int 4, .ref B]) Cc at_173 (ow3 hw) (ow4 hw) (ow5 hw) (ow6 hw) (by decide) (Cb.ct (ob_an4 hw hE A 4 Pb Cc.old (by decide)) (ow6 hw) (ow5 hw) hE (by decide) (by decide)) (by simp) rfl (lenOf opd9 rfl) rfl (Nat.le_of_eq rfl) (by decide) (by decide) rfl fun _ _ _ Pd Cd Fw _ Pe => ?_
    obtain ⟨rfl, rfl⟩ := Pe
    show Go K _ _ _ _ [.int 0, .int (Int32.ofNat b3), .int 4, .ref B]
    show Go K _ _ _ _ [.int (Int32.ofNat 0), .int (Int32.ofNat b3), .int 4, .ref B]
    refine gAload Cd at_176 rfl rfl rfl ?_
    refine gIloadN Cd at_178 rfl rfl ?_
    refine gIconst (z := 5) Cd at_179 rfl rfl ?_
    refine wStatic (y := mN1) (Wd := 4) (argsL := [.ref A, .int 4, .int 5]) (rest := [.int (Int32.ofNat 0), .int (Int32.ofNat b3), .int 4, .ref B]) Cd at_180 (ow3 hw) (ow4 hw) (ow5 hw) (ow6 hw) (by decide) (Cb.ct (ob_an5 hw hE A 4 Pd Cd.old (by decide)) (ow6 hw) (ow5 hw) hE (by decide) (by decide)) (by simp) rfl (lenOf opd9 rfl) rfl (Nat.le_of_eq rfl) (by decide) (by decide) rfl fun _ _ _ Pf Ce Fx _ Pg => ?_
    obtain ⟨rfl, rfl⟩ := Pg
    show Go K _ _ _ _ [.int 0, .int (Int32.ofNat 0), .int (Int32.ofNat b3), .int 4, .ref B]
    show Go K _ _ _ _ [.int (Int32.ofNat 0), .int (Int32.ofNat 0), .int (Int32.ofNat b3), .int 4, .ref B]
    refine gIloadN Ce at_183 rfl rfl ?_
    refine gIconst (z := 3) Ce at_184 rfl rfl ?_
    refine gIsub (z := 1) Ce at_185 (by decide) rfl ?_
    have Ph := O9.keep Fv nin0
    have Pi := Ph.keep Fw nin0
    have Pj := Pi.keep Fx nin0
    refine wStatic (y := mN3) (Wd := 0) (argsL := [.ref B, .int 4, .int (Int32.ofNat b3), .int (Int32.ofNat 0), .int (Int32.ofNat 0), .int 1]) (rest := []) Ce at_186 (ow7 hw) (ow8 hw) (ow5 hw) (ow9 hw) (by decide) (Cb.ct (ob_gr841 hw hE B N b3 0 0 (symN (sx0 (vv b0 b1 b2))) (symN (sx1 (vv b0 b1 b2))) (symN (sx2 (vv b0 b1 b2))) (symN (sx3 (vv b0 b1 b2))) Pf Ce.old Pj hb3 (by decide) (by decide) (Nat.le_trans Ag.old.2.1 (Nat.le_of_eq Ai.symm))) (ow9 hw) (ow5 hw) hE (by decide) (by decide)) (by simp) rfl (lenOf opd31 rfl) rfl (Nat.le_of_eq rfl) (by decide) (by decide) rfl fun _ _ _ Pk Fy Pl _ Pm => ?_
    obtain ⟨rfl, rfl, Pn⟩ := Pm
    show Go K _ _ _ _ []
    have Po : Arv Z Pk B N .char 8 (tx4 (vv b0 b1 b2) (vv b3 0 0)) (.int 0) := Pn
    refine wNewO Fy at_189 (ow13 hw) (ow14 hw) (ow15 hw) (by decide) (by decide) rfl fun _ Dm X C3 Fz F0 Pp F1 => ?_
    have Pq : Fld Z Dm X "java/lang/String" "value" "[B" .null := F1 (Or.inr (ow40 hw)) (ty := .array .byte) (by decide)
    have Pr : Fld Z Dm X "java/lang/String" "coder" "B" (.int 0) := F1 (Or.inr (ow38 hw)) (ty := .byte) (by decide)
    refine gDup C3 at_192 rfl rfl ?_
    refine gAload C3 at_193 rfl rfl rfl ?_
    have Ps := Po.ext Fz
    refine wSpecial (y := mN9) (Wd := 1) (a := X) (argsL := [.ref B]) (rest := [.ref X]) C3 at_195 rfl (ow16 hw) (ow17 hw) (ow18 hw) (by decide) (Cb.ct (ob_i18 hw hE X B N z (symN (sx0 (vv b0 b1 b2))) (symN (sx1 (vv b0 b1 b2))) (symN (sx2 (vv b0 b1 b2))) (symN (sx3 (vv b0 b1 b2))) (symN (sx0 (vv b3 0 0))) (symN (sx1 (vv b3 0 0))) 61 61 Dm C3.old SC hz Pp Pq Pr Ps (symN_le _) (symN_le _) (symN_le _) (symN_le _) (symN_le _) (symN_le _) (by decide) (by decide) (Nat.le_trans Fy.old.2.1 (Nat.le_of_eq F0.symm))) (ow18 hw) (ow15 hw) hE (by decide) (by decide)) (by simp) rfl (lenOf opd32 rfl) rfl (Nat.le_of_eq rfl) (by decide) (by decide) rfl fun _ _ _ Pt Dn Pu _ Pv => ?_
    obtain ⟨F2, F3, rfl, rfl, _, Pw, Px, Py, Pz, P0⟩ := Pv
    show Go K _ _ _ _ [.ref X]
    have P1 : Arv Z Pt F2 F3 .byte 8 (tx4 (vv b0 b1 b2) (vv b3 0 0)) (.int 0) := Pz
    refine gAstore (ls' := #[aI x0, aI y0, aI m0, aI 4, aR A, aR D, aR B, aR X, aU]) Dn at_198 rfl rfl rfl ?_
    refine gAload Dn at_200 rfl rfl rfl ?_
    refine wLdcS (vs := [.int 99, .int 105, .int 112, .int 104, .int 101, .int 114, .int 116, .int 101, .int 120, .int 116]) (z := 10) (n := 40) Dn at_202 (ow41 hw) (owS hw) hE (by decide) (by decide) (by decide) (by decide) (by decide) (by decide) (by decide) (by decide) rfl fun _ P2 F4 _ _ F5 Bw _ _ _ _ _ => ?_
    have P3 := Pw.ext Bw
    have P4 := Py.ext Bw
    have P5 := Px.ext Bw
    have P6 := P1.ext Bw
    have P7 := P0.ext Bw
    refine wStaticW (y := mN41) (Wd := 0) (argsL := [.ref X, .ref F4]) (rest := []) F5 at_204 (ow44 hw) (ow45 hw) (ow46 hw) (ow47 hw) (by decide) (Cb.ctW (ob_ds4 hw hE dd X F2 F3 F4 z fm iso u8 tb ktb (vv b0 b1 b2) (vv b3 0 0) P2 F5.old SC hz SF rf SI SU niu SD DE DU DM TS TA P3 P4 P5 P6 P7 (vv_lt hb0 hb1 hb2) (vv_lt hb3 (by decide) (by decide)) (by unfold vv; omega)) (ow47 hw) (ow46 hw) hE (by decide) (by decide)) (by simp) rfl (lenOf opd29 rfl) rfl (Nat.le_of_eq rfl) (by decide) (by decide) rfl fun _ _ _ P8 Y P9 _ Qa => ?_
    obtain ⟨J, C4, rfl, rfl, _, Do⟩ := Qa
    show Go K _ _ _ _ [.ref J]
    refine gAstore (ls' := #[aI x0, aI y0, aI m0, aI 4, aR A, aR D, aR B, aR X, aR J]) Y at_207 rfl rfl rfl ?_
    refine gAload Y at_209 rfl rfl rfl ?_
    refine wLen Y at_211 Do rfl ?_
    refine gIloadN Y at_212 rfl rfl ?_
    refine gIcmpNo Y at_213 (teq (by decide)).2 rfl ?_
    refine gAload Y at_216 rfl rfl rfl ?_
    refine gAload Y at_218 rfl rfl rfl ?_
    refine gIloadN Y at_220 rfl rfl ?_
    refine gIconst (z := 0) Y at_221 rfl rfl ?_
    have Qb := Fu.keep Fv nin0
    have Qc := Qb.keep Fw nin0
    have Qd := Qc.keep Fx nin0
    have F6 := Qd.keep Pl (ninS Ft nin0)
    have Qe := F6.ext Fz
    have Qf : A ≠ X := Nat.ne_of_lt (Nat.lt_of_lt_of_le F6.lt (Nat.le_of_eq F0.symm))
    have Qg := Qe.keep Pu (ninS Qf nin0)
    have Qh := Qg.ext Bw
    have F7 := Qh.keep P9 nin0
    refine wStatic (y := mN2) (Wd := 0) (argsL := [.ref J, .ref A, .int 4, .int 0]) (rest := []) Y at_222 (ow193 hw) (ow194 hw) (ow5 hw) (ow195 hw) (by decide) (Cb.ct (ob_sm0 hw hE J C4 [.int (sb ((vv b0 b1 b2) / 65536)), .int (sb ((vv b0 b1 b2) / 256)), .int (sb (vv b0 b1 b2)), .int (sb ((vv b3 0 0) / 65536))] A E [.int (sb b0), .int (sb b1), .int (sb b2), .int (sb b3), .int (sb b4), .int (sb b5)] 4 (sb b0) P8 Y.old Do F7 (by decide) (by decide) (congrArg Value.int (sb_mod (by unfold vv; omega) (by unfold vv; omega) (by omega))) rfl) (ow195 hw) (ow5 hw) hE (by decide) (by decide)) (by simp) rfl (lenOf opd30 rfl) rfl (Nat.le_of_eq rfl) (by decide) (by decide) rfl fun _ _ _ Qi A9 F8 _ Qj => ?_
    obtain ⟨rfl, rfl⟩ := Qj
    show Go K _ _ _ _ [.int 1]
    refine gIfNo A9 at_225 ((if0 _ _).trans (feq (by decide)).1) rfl ?_
    refine gAload A9 at_228 rfl rfl rfl ?_
    refine gAload A9 at_230 rfl rfl rfl ?_
    refine gIloadN A9 at_232 rfl rfl ?_
    refine gIconst (z := 1) A9 at_233 rfl rfl ?_
    have F9 := Do.keep F8 nin0
    have Ga := F7.keep F8 nin0
    refine wStatic (y := mN2) (Wd := 0) (argsL := [.ref J, .ref A, .int 4, .int 1]) (rest := []) A9 at_234 (ow193 hw) (ow194 hw) (ow5 hw) (ow195 hw) (by decide) (Cb.ct (ob_sm1 hw hE J C4 [.int (sb ((vv b0 b1 b2) / 65536)), .int (sb ((vv b0 b1 b2) / 256)), .int (sb (vv b0 b1 b2)), .int (sb ((vv b3 0 0) / 65536))] A E [.int (sb b0), .int (sb b1), .int (sb b2), .int (sb b3), .int (sb b4), .int (sb b5)] 4 (sb b1) Qi A9.old F9 Ga (by decide) (by decide) (congrArg Value.int (sb_mod (by unfold vv; omega) (by unfold vv; omega) (by omega))) rfl) (ow195 hw) (ow5 hw) hE (by decide) (by decide)) (by simp) rfl (lenOf opd30 rfl) rfl (Nat.le_of_eq rfl) (by decide) (by decide) rfl fun _ _ _ Qk Ba Gb _ Ql => ?_
    obtain ⟨rfl, rfl⟩ := Ql
    show Go K _ _ _ _ [.int 1]
    refine gIfNo Ba at_237 ((if0 _ _).trans (feq (by decide)).1) rfl ?_
    refine gAload Ba at_240 rfl rfl rfl ?_
    refine gAload Ba at_242 rfl rfl rfl ?_
    refine gIloadN Ba at_244 rfl rfl ?_
    refine gIconst (z := 2) Ba at_245 rfl rfl ?_
    have Gc := F9.keep Gb nin0
    have Gd := Ga.keep Gb nin0
    refine wStatic (y := mN2) (Wd := 0) (argsL := [.ref J, .ref A, .int 4, .int 2]) (rest := []) Ba at_246 (ow193 hw) (ow194 hw) (ow5 hw) (ow195 hw) (by decide) (Cb.ct (ob_sm2 hw hE J C4 [.int (sb ((vv b0 b1 b2) / 65536)), .int (sb ((vv b0 b1 b2) / 256)), .int (sb (vv b0 b1 b2)), .int (sb ((vv b3 0 0) / 65536))] A E [.int (sb b0), .int (sb b1), .int (sb b2), .int (sb b3), .int (sb b4), .int (sb b5)] 4 (sb b2) Qk Ba.old Gc Gd (by decide) (by decide) (congrArg Value.int (sb_mod (by unfold vv; omega) (by unfold vv; omega) (by omega))) rfl) (ow195 hw) (ow5 hw) hE (by decide) (by decide)) (by simp) rfl (lenOf opd30 rfl) rfl (Nat.le_of_eq rfl) (by decide) (by decide) rfl fun _ _ _ Qm Bb Ge _ Qn => ?_
    obtain ⟨rfl, rfl⟩ := Qn
    show Go K _ _ _ _ [.int 1]
    refine gIfNo Bb at_249 ((if0 _ _).trans (feq (by decide)).1) rfl ?_
    refine gAload Bb at_252 rfl rfl rfl ?_
    refine gAload Bb at_254 rfl rfl rfl ?_
    refine gIloadN Bb at_256 rfl rfl ?_
    refine gIconst (z := 3) Bb at_257 rfl rfl ?_
    have Qo := Gc.keep Ge nin0
    have Qp := Gd.keep Ge nin0
    refine wStatic (y := mN2) (Wd := 0) (argsL := [.ref J, .ref A, .int 4, .int 3]) (rest := []) Bb at_258 (ow193 hw) (ow194 hw) (ow5 hw) (ow195 hw) (by decide) (Cb.ct (ob_sm3 hw hE J C4 [.int (sb ((vv b0 b1 b2) / 65536)), .int (sb ((vv b0 b1 b2) / 256)), .int (sb (vv b0 b1 b2)), .int (sb ((vv b3 0 0) / 65536))] A E [.int (sb b0), .int (sb b1), .int (sb b2), .int (sb b3), .int (sb b4), .int (sb b5)] 4 (sb b3) Qm Bb.old Qo Qp (by decide) (by decide) (congrArg Value.int (sb_mod (by unfold vv; omega) (by unfold vv; omega) (by omega))) rfl) (ow195 hw) (ow5 hw) hE (by decide) (by decide)) (by simp) rfl (lenOf opd30 rfl) rfl (Nat.le_of_eq rfl) (by decide) (by decide) rfl fun _ _ _ Qq Bc _ _ Qr => ?_
    obtain ⟨rfl, rfl⟩ := Qr
    show Go K _ _ _ _ [.int 1]
    refine gIfNo Bc at_261 ((if0 _ _).trans (feq (by decide)).1) rfl ?_
    refine gAload Bc at_264 rfl rfl rfl ?_
    refine gAload Bc at_266 rfl rfl rfl ?_
    refine gIloadN Bc at_268 rfl rfl ?_
    refine gIconst (z := 4) Bc at_269 rfl rfl ?_
    refine wStatic (y := mN2) (Wd := 0) (argsL := [.ref J, .ref A, .int 4, .int 4]) (rest := []) Bc at_270 (ow193 hw) (ow194 hw) (ow5 hw) (ow195 hw) (by decide) (Cb.ct (ob_sn4 hw hE J A 4 Qq Bc.old (by decide)) (ow195 hw) (ow5 hw) hE (by decide) (by decide)) (by simp) rfl (lenOf opd30 rfl) rfl (Nat.le_of_eq rfl) (by decide) (by decide) rfl fun _ _ _ Qs Bd _ _ Qt => ?_
    obtain ⟨rfl, rfl⟩ := Qt
    show Go K _ _ _ _ [.int 1]
    refine gIfNo Bd at_273 ((if0 _ _).trans (feq (by decide)).1) rfl ?_
    refine gAload Bd at_276 rfl rfl rfl ?_
    refine gAload Bd at_278 rfl rfl rfl ?_
    refine gIloadN Bd at_280 rfl rfl ?_
    refine gIconst (z := 5) Bd at_281 rfl rfl ?_
    refine wStatic (y := mN2) (Wd := 0) (argsL := [.ref J, .ref A, .int 4, .int 5]) (rest := []) Bd at_282 (ow193 hw) (ow194 hw) (ow5 hw) (ow195 hw) (by decide) (Cb.ct (ob_sn5 hw hE J A 4 Qs Bd.old (by decide)) (ow195 hw) (ow5 hw) hE (by decide) (by decide)) (by simp) rfl (lenOf opd30 rfl) rfl (Nat.le_of_eq rfl) (by decide) (by decide) rfl fun _ _ _ _ C5 _ _ Qu => ?_
    obtain ⟨rfl, rfl⟩ := Qu
    show Go K _ _ _ _ [.int 1]
    refine gIfNo C5 at_285 ((if0 _ _).trans (feq (by decide)).1) rfl ?_
    refine gIconst (z := 1) C5 at_288 rfl rfl ?_
    refine gGoto (pc' := 293) C5 at_289 (by decide) rfl ?_
    exact wRetI (so := []) (t := .boolean) C5 at_293 (by simp) rfl (by decide) (by decide) (fun _ q => nomatch q) ⟨rfl, rfl⟩
  · show Go K _ _ _ _ [.int 5]
    refine gIfYes (pc' := 84) C at_74 ((if0 _ _).trans (feq (by decide)).2) (by decide) rfl ?_
    refine gIloadN C at_84 rfl rfl ?_
    refine gIconst (z := 3) C at_85 rfl rfl ?_
    refine gIcmpYes (pc' := 131) C at_86 (tlt (by decide)).2.2.1 (by decide) rfl ?_
    refine gAload C at_131 rfl rfl rfl ?_
    refine gIconst (z := 0) C at_133 rfl rfl ?_
    refine gAload C at_134 rfl rfl rfl ?_
    refine gIloadN C at_136 rfl rfl ?_
    refine gIconst (z := 0) C at_137 rfl rfl ?_
    have Gf := Af.ext Br
    have Gg := Gf.ext Ah
    refine wStatic (y := mN1) (Wd := 2) (argsL := [.ref A, .int 5, .int 0]) (rest := [.int 0, .ref B]) C at_138 (ow3 hw) (ow4 hw) (ow5 hw) (ow6 hw) (by decide) (Cb.ct (ob_at0 hw hE A E [.int (sb b0), .int (sb b1), .int (sb b2), .int (sb b3), .int (sb b4), .int (sb b5)] 5 b0 An C.old Gg (by decide) (by decide) hb0 rfl) (ow6 hw) (ow5 hw) hE (by decide) (by decide)) (by simp) rfl (lenOf opd9 rfl) rfl (Nat.le_of_eq rfl) (by decide) (by decide) rfl fun _ _ _ Qv Cf Gh _ Qw => ?_
    obtain ⟨rfl, rfl⟩ := Qw
    show Go K _ _ _ _ [.int (Int32.ofNat b0), .int 0, .ref B]
    refine gAload Cf at_141 rfl rfl rfl ?_
    refine gIloadN Cf at_143 rfl rfl ?_
    refine gIconst (z := 1) Cf at_144 rfl rfl ?_
    have Gi := Gg.keep Gh nin0
    refine wStatic (y := mN1) (Wd := 3) (argsL := [.ref A, .int 5, .int 1]) (rest := [.int (Int32.ofNat b0), .int 0, .ref B]) Cf at_145 (ow3 hw) (ow4 hw) (ow5 hw) (ow6 hw) (by decide) (Cb.ct (ob_at1 hw hE A E [.int (sb b0), .int (sb b1), .int (sb b2), .int (sb b3), .int (sb b4), .int (sb b5)] 5 b1 Qv Cf.old Gi (by decide) (by decide) hb1 rfl) (ow6 hw) (ow5 hw) hE (by decide) (by decide)) (by simp) rfl (lenOf opd9 rfl) rfl (Nat.le_of_eq rfl) (by decide) (by decide) rfl fun _ _ _ Qx Cg Gj _ Qy => ?_
    obtain ⟨rfl, rfl⟩ := Qy
    show Go K _ _ _ _ [.int (Int32.ofNat b1), .int (Int32.ofNat b0), .int 0, .ref B]
    refine gAload Cg at_148 rfl rfl rfl ?_
    refine gIloadN Cg at_150 rfl rfl ?_
    refine gIconst (z := 2) Cg at_151 rfl rfl ?_
    have Gk := Gi.keep Gj nin0
    refine wStatic (y := mN1) (Wd := 4) (argsL := [.ref A, .int 5, .int 2]) (rest := [.int (Int32.ofNat b1), .int (Int32.ofNat b0), .int 0, .ref B]) Cg at_152 (ow3 hw) (ow4 hw) (ow5 hw) (ow6 hw) (by decide) (Cb.ct (ob_at2 hw hE A E [.int (sb b0), .int (sb b1), .int (sb b2), .int (sb b3), .int (sb b4), .int (sb b5)] 5 b2 Qx Cg.old Gk (by decide) (by decide) hb2 rfl) (ow6 hw) (ow5 hw) hE (by decide) (by decide)) (by simp) rfl (lenOf opd9 rfl) rfl (Nat.le_of_eq rfl) (by decide) (by decide) rfl fun _ _ _ Qz Dp Gl _ Q0 => ?_
    obtain ⟨rfl, rfl⟩ := Q0
    show Go K _ _ _ _ [.int (Int32.ofNat b2), .int (Int32.ofNat b1), .int (Int32.ofNat b0), .int 0, .ref B]
    refine gIconst (z := 3) Dp at_155 rfl rfl ?_
    have Q1 := Db.keep Gh nin0
    have Q2 := Q1.keep Gj nin0
    have Q3 := Q2.keep Gl nin0
    refine wStatic (y := mN3) (Wd := 0) (argsL := [.ref B, .int 0, .int (Int32.ofNat b0), .int (Int32.ofNat b1), .int (Int32.ofNat b2), .int 3]) (rest := []) Dp at_156 (ow7 hw) (ow8 hw) (ow5 hw) (ow9 hw) (by decide) (Cb.ct (ob_gr803 hw hE B N b0 b1 b2 Qz Dp.old Q3 hb0 hb1 hb2 (Nat.le_trans Ag.old.2.1 (Nat.le_of_eq Ai.symm))) (ow9 hw) (ow5 hw) hE (by decide) (by decide)) (by simp) rfl (lenOf opd31 rfl) rfl (Nat.le_of_eq rfl) (by decide) (by decide) rfl fun _ _ _ Q4 Be Q5 _ Q6 => ?_
    obtain ⟨rfl, rfl, Q7⟩ := Q6
    show Go K _ _ _ _ []
    refine gAload Be at_159 rfl rfl rfl ?_
    refine gIconst (z := 4) Be at_161 rfl rfl ?_
    refine gAload Be at_162 rfl rfl rfl ?_
    refine gIloadN Be at_164 rfl rfl ?_
    refine gIconst (z := 3) Be at_165 rfl rfl ?_
    have Q8 := Gk.keep Gl nin0
    have Gm : A ≠ B := Nat.ne_of_lt (Nat.lt_of_lt_of_le Gf.lt (Nat.le_of_eq Ai.symm))
    have Gn := Q8.keep Q5 (ninS Gm nin0)
    refine wStatic (y := mN1) (Wd := 2) (argsL := [.ref A, .int 5, .int 3]) (rest := [.int 4, .ref B]) Be at_166 (ow3 hw) (ow4 hw) (ow5 hw) (ow6 hw) (by decide) (Cb.ct (ob_at3 hw hE A E [.int (sb b0), .int (sb b1), .int (sb b2), .int (sb b3), .int (sb b4), .int (sb b5)] 5 b3 Q4 Be.old Gn (by decide) (by decide) hb3 rfl) (ow6 hw) (ow5 hw) hE (by decide) (by decide)) (by simp) rfl (lenOf opd9 rfl) rfl (Nat.le_of_eq rfl) (by decide) (by decide) rfl fun _ _ _ Q9 Ch Gp _ Ra => ?_
    obtain ⟨rfl, rfl⟩ := Ra
    show Go K _ _ _ _ [.int (Int32.ofNat b3), .int 4, .ref B]
    refine gAload Ch at_169 rfl rfl rfl ?_
    refine gIloadN Ch at_171 rfl rfl ?_
    refine gIconst (z := 4) Ch at_172 rfl rfl ?_
    have Gq := Gn.keep Gp nin0
    refine wStatic (y := mN1) (Wd := 3) (argsL := [.ref A, .int 5, .int 4]) (rest := [.int (Int32.ofNat b3), .int 4, .ref B]) Ch at_173 (ow3 hw) (ow4 hw) (ow5 hw) (ow6 hw) (by decide) (Cb.ct (ob_at4 hw hE A E [.int (sb b0), .int (sb b1), .int (sb b2), .int (sb b3), .int (sb b4), .int (sb b5)] 5 b4 Q9 Ch.old Gq (by decide) (by decide) hb4 rfl) (ow6 hw) (ow5 hw) hE (by decide) (by decide)) (by simp) rfl (lenOf opd9 rfl) rfl (Nat.le_of_eq rfl) (by decide) (by decide) rfl fun _ _ _ Rb Ci Gr _ Rc => ?_
    obtain ⟨rfl, rfl⟩ := Rc
    show Go K _ _ _ _ [.int (Int32.ofNat b4), .int (Int32.ofNat b3), .int 4, .ref B]
    refine gAload Ci at_176 rfl rfl rfl ?_
    refine gIloadN Ci at_178 rfl rfl ?_
    refine gIconst (z := 5) Ci at_179 rfl rfl ?_
    refine wStatic (y := mN1) (Wd := 4) (argsL := [.ref A, .int 5, .int 5]) (rest := [.int (Int32.ofNat b4), .int (Int32.ofNat b3), .int 4, .ref B]) Ci at_180 (ow3 hw) (ow4 hw) (ow5 hw) (ow6 hw) (by decide) (Cb.ct (ob_an5 hw hE A 5 Rb Ci.old (by decide)) (ow6 hw) (ow5 hw) hE (by decide) (by decide)) (by simp) rfl (lenOf opd9 rfl) rfl (Nat.le_of_eq rfl) (by decide) (by decide) rfl fun _ _ _ Rd Cj Gs _ Re => ?_
    obtain ⟨rfl, rfl⟩ := Re
    show Go K _ _ _ _ [.int 0, .int (Int32.ofNat b4), .int (Int32.ofNat b3), .int 4, .ref B]
    show Go K _ _ _ _ [.int (Int32.ofNat 0), .int (Int32.ofNat b4), .int (Int32.ofNat b3), .int 4, .ref B]
    refine gIloadN Cj at_183 rfl rfl ?_
    refine gIconst (z := 3) Cj at_184 rfl rfl ?_
    refine gIsub (z := 2) Cj at_185 (by decide) rfl ?_
    have Rf := Q7.keep Gp nin0
    have Rg := Rf.keep Gr nin0
    have Rh := Rg.keep Gs nin0
    refine wStatic (y := mN3) (Wd := 0) (argsL := [.ref B, .int 4, .int (Int32.ofNat b3), .int (Int32.ofNat b4), .int (Int32.ofNat 0), .int 2]) (rest := []) Cj at_186 (ow7 hw) (ow8 hw) (ow5 hw) (ow9 hw) (by decide) (Cb.ct (ob_gr842 hw hE B N b3 b4 0 (symN (sx0 (vv b0 b1 b2))) (symN (sx1 (vv b0 b1 b2))) (symN (sx2 (vv b0 b1 b2))) (symN (sx3 (vv b0 b1 b2))) Rd Cj.old Rh hb3 hb4 (by decide) (Nat.le_trans Ag.old.2.1 (Nat.le_of_eq Ai.symm))) (ow9 hw) (ow5 hw) hE (by decide) (by decide)) (by simp) rfl (lenOf opd31 rfl) rfl (Nat.le_of_eq rfl) (by decide) (by decide) rfl fun _ _ _ Ri Gt Rj _ Rk => ?_
    obtain ⟨rfl, rfl, Rl⟩ := Rk
    show Go K _ _ _ _ []
    have Rm : Arv Z Ri B N .char 8 (tx5 (vv b0 b1 b2) (vv b3 b4 0)) (.int 0) := Rl
    refine wNewO Gt at_189 (ow13 hw) (ow14 hw) (ow15 hw) (by decide) (by decide) rfl fun _ Dq Aa C6 Gu Gv Rn Gw => ?_
    have Ro : Fld Z Dq Aa "java/lang/String" "value" "[B" .null := Gw (Or.inr (ow40 hw)) (ty := .array .byte) (by decide)
    have Rp : Fld Z Dq Aa "java/lang/String" "coder" "B" (.int 0) := Gw (Or.inr (ow38 hw)) (ty := .byte) (by decide)
    refine gDup C6 at_192 rfl rfl ?_
    refine gAload C6 at_193 rfl rfl rfl ?_
    have Rq := Rm.ext Gu
    refine wSpecial (y := mN9) (Wd := 1) (a := Aa) (argsL := [.ref B]) (rest := [.ref Aa]) C6 at_195 rfl (ow16 hw) (ow17 hw) (ow18 hw) (by decide) (Cb.ct (ob_i18 hw hE Aa B N z (symN (sx0 (vv b0 b1 b2))) (symN (sx1 (vv b0 b1 b2))) (symN (sx2 (vv b0 b1 b2))) (symN (sx3 (vv b0 b1 b2))) (symN (sx0 (vv b3 b4 0))) (symN (sx1 (vv b3 b4 0))) (symN (sx2 (vv b3 b4 0))) 61 Dq C6.old SC hz Rn Ro Rp Rq (symN_le _) (symN_le _) (symN_le _) (symN_le _) (symN_le _) (symN_le _) (symN_le _) (by decide) (Nat.le_trans Gt.old.2.1 (Nat.le_of_eq Gv.symm))) (ow18 hw) (ow15 hw) hE (by decide) (by decide)) (by simp) rfl (lenOf opd32 rfl) rfl (Nat.le_of_eq rfl) (by decide) (by decide) rfl fun _ _ _ Rr Dr Rs _ Rt => ?_
    obtain ⟨Gx, Gy, rfl, rfl, _, Ru, Rv, Rw, Rx, Ry⟩ := Rt
    show Go K _ _ _ _ [.ref Aa]
    have Rz : Arv Z Rr Gx Gy .byte 8 (tx5 (vv b0 b1 b2) (vv b3 b4 0)) (.int 0) := Rx
    refine gAstore (ls' := #[aI x0, aI y0, aI m0, aI 5, aR A, aR D, aR B, aR Aa, aU]) Dr at_198 rfl rfl rfl ?_
    refine gAload Dr at_200 rfl rfl rfl ?_
    refine wLdcS (vs := [.int 99, .int 105, .int 112, .int 104, .int 101, .int 114, .int 116, .int 101, .int 120, .int 116]) (z := 10) (n := 40) Dr at_202 (ow41 hw) (owS hw) hE (by decide) (by decide) (by decide) (by decide) (by decide) (by decide) (by decide) (by decide) rfl fun _ R0 Gz _ _ G0 Bx _ _ _ _ _ => ?_
    have R1 := Ru.ext Bx
    have R2 := Rw.ext Bx
    have R3 := Rv.ext Bx
    have R4 := Rz.ext Bx
    have R5 := Ry.ext Bx
    refine wStaticW (y := mN41) (Wd := 0) (argsL := [.ref Aa, .ref Gz]) (rest := []) G0 at_204 (ow44 hw) (ow45 hw) (ow46 hw) (ow47 hw) (by decide) (Cb.ctW (ob_ds5 hw hE dd Aa Gx Gy Gz z fm iso u8 tb ktb (vv b0 b1 b2) (vv b3 b4 0) R0 G0.old SC hz SF rf SI SU niu SD DE DU DM TS TA R1 R2 R3 R4 R5 (vv_lt hb0 hb1 hb2) (vv_lt hb3 hb4 (by decide)) (by unfold vv; omega)) (ow47 hw) (ow46 hw) hE (by decide) (by decide)) (by simp) rfl (lenOf opd29 rfl) rfl (Nat.le_of_eq rfl) (by decide) (by decide) rfl fun _ _ _ R6 Ab R7 _ R8 => ?_
    obtain ⟨L, Ck, rfl, rfl, _, Ds⟩ := R8
    show Go K _ _ _ _ [.ref L]
    refine gAstore (ls' := #[aI x0, aI y0, aI m0, aI 5, aR A, aR D, aR B, aR Aa, aR L]) Ab at_207 rfl rfl rfl ?_
    refine gAload Ab at_209 rfl rfl rfl ?_
    refine wLen Ab at_211 Ds rfl ?_
    refine gIloadN Ab at_212 rfl rfl ?_
    refine gIcmpNo Ab at_213 (teq (by decide)).2 rfl ?_
    refine gAload Ab at_216 rfl rfl rfl ?_
    refine gAload Ab at_218 rfl rfl rfl ?_
    refine gIloadN Ab at_220 rfl rfl ?_
    refine gIconst (z := 0) Ab at_221 rfl rfl ?_
    have R9 := Gq.keep Gr nin0
    have Sa := R9.keep Gs nin0
    have G1 := Sa.keep Rj (ninS Gm nin0)
    have Sb := G1.ext Gu
    have Sc : A ≠ Aa := Nat.ne_of_lt (Nat.lt_of_lt_of_le G1.lt (Nat.le_of_eq Gv.symm))
    have Sd := Sb.keep Rs (ninS Sc nin0)
    have Se := Sd.ext Bx
    have G2 := Se.keep R7 nin0
    refine wStatic (y := mN2) (Wd := 0) (argsL := [.ref L, .ref A, .int 5, .int 0]) (rest := []) Ab at_222 (ow193 hw) (ow194 hw) (ow5 hw) (ow195 hw) (by decide) (Cb.ct (ob_sm0 hw hE L Ck [.int (sb ((vv b0 b1 b2) / 65536)), .int (sb ((vv b0 b1 b2) / 256)), .int (sb (vv b0 b1 b2)), .int (sb ((vv b3 b4 0) / 65536)), .int (sb ((vv b3 b4 0) / 256))] A E [.int (sb b0), .int (sb b1), .int (sb b2), .int (sb b3), .int (sb b4), .int (sb b5)] 5 (sb b0) R6 Ab.old Ds G2 (by decide) (by decide) (congrArg Value.int (sb_mod (by unfold vv; omega) (by unfold vv; omega) (by omega))) rfl) (ow195 hw) (ow5 hw) hE (by decide) (by decide)) (by simp) rfl (lenOf opd30 rfl) rfl (Nat.le_of_eq rfl) (by decide) (by decide) rfl fun _ _ _ Sf Bf G3 _ Sg => ?_
    obtain ⟨rfl, rfl⟩ := Sg
    show Go K _ _ _ _ [.int 1]
    refine gIfNo Bf at_225 ((if0 _ _).trans (feq (by decide)).1) rfl ?_
    refine gAload Bf at_228 rfl rfl rfl ?_
    refine gAload Bf at_230 rfl rfl rfl ?_
    refine gIloadN Bf at_232 rfl rfl ?_
    refine gIconst (z := 1) Bf at_233 rfl rfl ?_
    have G4 := Ds.keep G3 nin0
    have G5 := G2.keep G3 nin0
    refine wStatic (y := mN2) (Wd := 0) (argsL := [.ref L, .ref A, .int 5, .int 1]) (rest := []) Bf at_234 (ow193 hw) (ow194 hw) (ow5 hw) (ow195 hw) (by decide) (Cb.ct (ob_sm1 hw hE L Ck [.int (sb ((vv b0 b1 b2) / 65536)), .int (sb ((vv b0 b1 b2) / 256)), .int (sb (vv b0 b1 b2)), .int (sb ((vv b3 b4 0) / 65536)), .int (sb ((vv b3 b4 0) / 256))] A E [.int (sb b0), .int (sb b1), .int (sb b2), .int (sb b3), .int (sb b4), .int (sb b5)] 5 (sb b1) Sf Bf.old G4 G5 (by decide) (by decide) (congrArg Value.int (sb_mod (by unfold vv; omega) (by unfold vv; omega) (by omega))) rfl) (ow195 hw) (ow5 hw) hE (by decide) (by decide)) (by simp) rfl (lenOf opd30 rfl) rfl (Nat.le_of_eq rfl) (by decide) (by decide) rfl fun _ _ _ Sh Bg G6 _ Si => ?_
    obtain ⟨rfl, rfl⟩ := Si
    show Go K _ _ _ _ [.int 1]
    refine gIfNo Bg at_237 ((if0 _ _).trans (feq (by decide)).1) rfl ?_
    refine gAload Bg at_240 rfl rfl rfl ?_
    refine gAload Bg at_242 rfl rfl rfl ?_
    refine gIloadN Bg at_244 rfl rfl ?_
    refine gIconst (z := 2) Bg at_245 rfl rfl ?_
    have G7 := G4.keep G6 nin0
    have G8 := G5.keep G6 nin0
    refine wStatic (y := mN2) (Wd := 0) (argsL := [.ref L, .ref A, .int 5, .int 2]) (rest := []) Bg at_246 (ow193 hw) (ow194 hw) (ow5 hw) (ow195 hw) (by decide) (Cb.ct (ob_sm2 hw hE L Ck [.int (sb ((vv b0 b1 b2) / 65536)), .int (sb ((vv b0 b1 b2) / 256)), .int (sb (vv b0 b1 b2)), .int (sb ((vv b3 b4 0) / 65536)), .int (sb ((vv b3 b4 0) / 256))] A E [.int (sb b0), .int (sb b1), .int (sb b2), .int (sb b3), .int (sb b4), .int (sb b5)] 5 (sb b2) Sh Bg.old G7 G8 (by decide) (by decide) (congrArg Value.int (sb_mod (by unfold vv; omega) (by unfold vv; omega) (by omega))) rfl) (ow195 hw) (ow5 hw) hE (by decide) (by decide)) (by simp) rfl (lenOf opd30 rfl) rfl (Nat.le_of_eq rfl) (by decide) (by decide) rfl fun _ _ _ Sj Bh G9 _ Sk => ?_
    obtain ⟨rfl, rfl⟩ := Sk
    show Go K _ _ _ _ [.int 1]
    refine gIfNo Bh at_249 ((if0 _ _).trans (feq (by decide)).1) rfl ?_
    refine gAload Bh at_252 rfl rfl rfl ?_
    refine gAload Bh at_254 rfl rfl rfl ?_
    refine gIloadN Bh at_256 rfl rfl ?_
    refine gIconst (z := 3) Bh at_257 rfl rfl ?_
    have Ha := G7.keep G9 nin0
    have Hb := G8.keep G9 nin0
    refine wStatic (y := mN2) (Wd := 0) (argsL := [.ref L, .ref A, .int 5, .int 3]) (rest := []) Bh at_258 (ow193 hw) (ow194 hw) (ow5 hw) (ow195 hw) (by decide) (Cb.ct (ob_sm3 hw hE L Ck [.int (sb ((vv b0 b1 b2) / 65536)), .int (sb ((vv b0 b1 b2) / 256)), .int (sb (vv b0 b1 b2)), .int (sb ((vv b3 b4 0) / 65536)), .int (sb ((vv b3 b4 0) / 256))] A E [.int (sb b0), .int (sb b1), .int (sb b2), .int (sb b3), .int (sb b4), .int (sb b5)] 5 (sb b3) Sj Bh.old Ha Hb (by decide) (by decide) (congrArg Value.int (sb_mod (by unfold vv; omega) (by unfold vv; omega) (by omega))) rfl) (ow195 hw) (ow5 hw) hE (by decide) (by decide)) (by simp) rfl (lenOf opd30 rfl) rfl (Nat.le_of_eq rfl) (by decide) (by decide) rfl fun _ _ _ Sl Bi Hc _ Sm => ?_
    obtain ⟨rfl, rfl⟩ := Sm
    show Go K _ _ _ _ [.int 1]
    refine gIfNo Bi at_261 ((if0 _ _).trans (feq (by decide)).1) rfl ?_
    refine gAload Bi at_264 rfl rfl rfl ?_
    refine gAload Bi at_266 rfl rfl rfl ?_
    refine gIloadN Bi at_268 rfl rfl ?_
    refine gIconst (z := 4) Bi at_269 rfl rfl ?_
    have Sn := Ha.keep Hc nin0
    have So := Hb.keep Hc nin0
    refine wStatic (y := mN2) (Wd := 0) (argsL := [.ref L, .ref A, .int 5, .int 4]) (rest := []) Bi at_270 (ow193 hw) (ow194 hw) (ow5 hw) (ow195 hw) (by decide) (Cb.ct (ob_sm4 hw hE L Ck [.int (sb ((vv b0 b1 b2) / 65536)), .int (sb ((vv b0 b1 b2) / 256)), .int (sb (vv b0 b1 b2)), .int (sb ((vv b3 b4 0) / 65536)), .int (sb ((vv b3 b4 0) / 256))] A E [.int (sb b0), .int (sb b1), .int (sb b2), .int (sb b3), .int (sb b4), .int (sb b5)] 5 (sb b4) Sl Bi.old Sn So (by decide) (by decide) (congrArg Value.int (sb_mod (by unfold vv; omega) (by unfold vv; omega) (by omega))) rfl) (ow195 hw) (ow5 hw) hE (by decide) (by decide)) (by simp) rfl (lenOf opd30 rfl) rfl (Nat.le_of_eq rfl) (by decide) (by decide) rfl fun _ _ _ Sp Bj _ _ Sq => ?_
    obtain ⟨rfl, rfl⟩ := Sq
    show Go K _ _ _ _ [.int 1]
    refine gIfNo Bj at_273 ((if0 _ _).trans (feq (by decide)).1) rfl ?_
    refine gAload Bj at_276 rfl rfl rfl ?_
    refine gAload Bj at_278 rfl rfl rfl ?_
    refine gIloadN Bj at_280 rfl rfl ?_
    refine gIconst (z := 5) Bj at_281 rfl rfl ?_
    refine wStatic (y := mN2) (Wd := 0) (argsL := [.ref L, .ref A, .int 5, .int 5]) (rest := []) Bj at_282 (ow193 hw) (ow194 hw) (ow5 hw) (ow195 hw) (by decide) (Cb.ct (ob_sn5 hw hE L A 5 Sp Bj.old (by decide)) (ow195 hw) (ow5 hw) hE (by decide) (by decide)) (by simp) rfl (lenOf opd30 rfl) rfl (Nat.le_of_eq rfl) (by decide) (by decide) rfl fun _ _ _ _ C7 _ _ Sr => ?_
    obtain ⟨rfl, rfl⟩ := Sr
    show Go K _ _ _ _ [.int 1]
    refine gIfNo C7 at_285 ((if0 _ _).trans (feq (by decide)).1) rfl ?_
    refine gIconst (z := 1) C7 at_288 rfl rfl ?_
    refine gGoto (pc' := 293) C7 at_289 (by decide) rfl ?_
    exact wRetI (so := []) (t := .boolean) C7 at_293 (by simp) rfl (by decide) (by decide) (fun _ q => nomatch q) ⟨rfl, rfl⟩
  · show Go K _ _ _ _ [.int 6]
    refine gIfYes (pc' := 84) C at_74 ((if0 _ _).trans (feq (by decide)).2) (by decide) rfl ?_
    refine gIloadN C at_84 rfl rfl ?_
    refine gIconst (z := 3) C at_85 rfl rfl ?_
    refine gIcmpYes (pc' := 131) C at_86 (tlt (by decide)).2.2.1 (by decide) rfl ?_
    refine gAload C at_131 rfl rfl rfl ?_
    refine gIconst (z := 0) C at_133 rfl rfl ?_
    refine gAload C at_134 rfl rfl rfl ?_
    refine gIloadN C at_136 rfl rfl ?_
    refine gIconst (z := 0) C at_137 rfl rfl ?_
    have Hd := Af.ext Br
    have He := Hd.ext Ah
    refine wStatic (y := mN1) (Wd := 2) (argsL := [.ref A, .int 6, .int 0]) (rest := [.int 0, .ref B]) C at_138 (ow3 hw) (ow4 hw) (ow5 hw) (ow6 hw) (by decide) (Cb.ct (ob_at0 hw hE A E [.int (sb b0), .int (sb b1), .int (sb b2), .int (sb b3), .int (sb b4), .int (sb b5)] 6 b0 An C.old He (by decide) (by decide) hb0 rfl) (ow6 hw) (ow5 hw) hE (by decide) (by decide)) (by simp) rfl (lenOf opd9 rfl) rfl (Nat.le_of_eq rfl) (by decide) (by decide) rfl fun _ _ _ Ss Cl Hf _ St => ?_
    obtain ⟨rfl, rfl⟩ := St
    show Go K _ _ _ _ [.int (Int32.ofNat b0), .int 0, .ref B]
    refine gAload Cl at_141 rfl rfl rfl ?_
    refine gIloadN Cl at_143 rfl rfl ?_
    refine gIconst (z := 1) Cl at_144 rfl rfl ?_
    have Hg := He.keep Hf nin0
    refine wStatic (y := mN1) (Wd := 3) (argsL := [.ref A, .int 6, .int 1]) (rest := [.int (Int32.ofNat b0), .int 0, .ref B]) Cl at_145 (ow3 hw) (ow4 hw) (ow5 hw) (ow6 hw) (by decide) (Cb.ct (ob_at1 hw hE A E [.int (sb b0), .int (sb b1), .int (sb b2), .int (sb b3), .int (sb b4), .int (sb b5)] 6 b1 Ss Cl.old Hg (by decide) (by decide) hb1 rfl) (ow6 hw) (ow5 hw) hE (by decide) (by decide)) (by simp) rfl (lenOf opd9 rfl) rfl (Nat.le_of_eq rfl) (by decide) (by decide) rfl fun _ _ _ Su Cm Hh _ Sv => ?_
    obtain ⟨rfl, rfl⟩ := Sv
    show Go K _ _ _ _ [.int (Int32.ofNat b1), .int (Int32.ofNat b0), .int 0, .ref B]
    refine gAload Cm at_148 rfl rfl rfl ?_
    refine gIloadN Cm at_150 rfl rfl ?_
    refine gIconst (z := 2) Cm at_151 rfl rfl ?_
    have Hi := Hg.keep Hh nin0
    refine wStatic (y := mN1) (Wd := 4) (argsL := [.ref A, .int 6, .int 2]) (rest := [.int (Int32.ofNat b1), .int (Int32.ofNat b0), .int 0, .ref B]) Cm at_152 (ow3 hw) (ow4 hw) (ow5 hw) (ow6 hw) (by decide) (Cb.ct (ob_at2 hw hE A E [.int (sb b0), .int (sb b1), .int (sb b2), .int (sb b3), .int (sb b4), .int (sb b5)] 6 b2 Su Cm.old Hi (by decide) (by decide) hb2 rfl) (ow6 hw) (ow5 hw) hE (by decide) (by decide)) (by simp) rfl (lenOf opd9 rfl) rfl (Nat.le_of_eq rfl) (by decide) (by decide) rfl fun _ _ _ Sw Dt Hj _ Sx => ?_
    obtain ⟨rfl, rfl⟩ := Sx
    show Go K _ _ _ _ [.int (Int32.ofNat b2), .int (Int32.ofNat b1), .int (Int32.ofNat b0), .int 0, .ref B]
    refine gIconst (z := 3) Dt at_155 rfl rfl ?_
    have Sy := Db.keep Hf nin0
    have Sz := Sy.keep Hh nin0
    have S0 := Sz.keep Hj nin0
    refine wStatic (y := mN3) (Wd := 0) (argsL := [.ref B, .int 0, .int (Int32.ofNat b0), .int (Int32.ofNat b1), .int (Int32.ofNat b2), .int 3]) (rest := []) Dt at_156 (ow7 hw) (ow8 hw) (ow5 hw) (ow9 hw) (by decide) (Cb.ct (ob_gr803 hw hE B N b0 b1 b2 Sw Dt.old S0 hb0 hb1 hb2 (Nat.le_trans Ag.old.2.1 (Nat.le_of_eq Ai.symm))) (ow9 hw) (ow5 hw) hE (by decide) (by decide)) (by simp) rfl (lenOf opd31 rfl) rfl (Nat.le_of_eq rfl) (by decide) (by decide) rfl fun _ _ _ S1 Bk S2 _ S3 => ?_
    obtain ⟨rfl, rfl, S4⟩ := S3
    show Go K _ _ _ _ []
    refine gAload Bk at_159 rfl rfl rfl ?_
    refine gIconst (z := 4) Bk at_161 rfl rfl ?_
    refine gAload Bk at_162 rfl rfl rfl ?_
    refine gIloadN Bk at_164 rfl rfl ?_
    refine gIconst (z := 3) Bk at_165 rfl rfl ?_
    have S5 := Hi.keep Hj nin0
    have Hk : A ≠ B := Nat.ne_of_lt (Nat.lt_of_lt_of_le Hd.lt (Nat.le_of_eq Ai.symm))
    have Hl := S5.keep S2 (ninS Hk nin0)
    refine wStatic (y := mN1) (Wd := 2) (argsL := [.ref A, .int 6, .int 3]) (rest := [.int 4, .ref B]) Bk at_166 (ow3 hw) (ow4 hw) (ow5 hw) (ow6 hw) (by decide) (Cb.ct (ob_at3 hw hE A E [.int (sb b0), .int (sb b1), .int (sb b2), .int (sb b3), .int (sb b4), .int (sb b5)] 6 b3 S1 Bk.old Hl (by decide) (by decide) hb3 rfl) (ow6 hw) (ow5 hw) hE (by decide) (by decide)) (by simp) rfl (lenOf opd9 rfl) rfl (Nat.le_of_eq rfl) (by decide) (by decide) rfl fun _ _ _ S6 Cn Hm _ S7 => ?_
    obtain ⟨rfl, rfl⟩ := S7
    show Go K _ _ _ _ [.int (Int32.ofNat b3), .int 4, .ref B]
    refine gAload Cn at_169 rfl rfl rfl ?_
    refine gIloadN Cn at_171 rfl rfl ?_
    refine gIconst (z := 4) Cn at_172 rfl rfl ?_
    have Hn := Hl.keep Hm nin0
    refine wStatic (y := mN1) (Wd := 3) (argsL := [.ref A, .int 6, .int 4]) (rest := [.int (Int32.ofNat b3), .int 4, .ref B]) Cn at_173 (ow3 hw) (ow4 hw) (ow5 hw) (ow6 hw) (by decide) (Cb.ct (ob_at4 hw hE A E [.int (sb b0), .int (sb b1), .int (sb b2), .int (sb b3), .int (sb b4), .int (sb b5)] 6 b4 S6 Cn.old Hn (by decide) (by decide) hb4 rfl) (ow6 hw) (ow5 hw) hE (by decide) (by decide)) (by simp) rfl (lenOf opd9 rfl) rfl (Nat.le_of_eq rfl) (by decide) (by decide) rfl fun _ _ _ S8 Co Ho _ S9 => ?_
    obtain ⟨rfl, rfl⟩ := S9
    show Go K _ _ _ _ [.int (Int32.ofNat b4), .int (Int32.ofNat b3), .int 4, .ref B]
    refine gAload Co at_176 rfl rfl rfl ?_
    refine gIloadN Co at_178 rfl rfl ?_
    refine gIconst (z := 5) Co at_179 rfl rfl ?_
    have Hp := Hn.keep Ho nin0
    refine wStatic (y := mN1) (Wd := 4) (argsL := [.ref A, .int 6, .int 5]) (rest := [.int (Int32.ofNat b4), .int (Int32.ofNat b3), .int 4, .ref B]) Co at_180 (ow3 hw) (ow4 hw) (ow5 hw) (ow6 hw) (by decide) (Cb.ct (ob_at5 hw hE A E [.int (sb b0), .int (sb b1), .int (sb b2), .int (sb b3), .int (sb b4), .int (sb b5)] 6 b5 S8 Co.old Hp (by decide) (by decide) hb5 rfl) (ow6 hw) (ow5 hw) hE (by decide) (by decide)) (by simp) rfl (lenOf opd9 rfl) rfl (Nat.le_of_eq rfl) (by decide) (by decide) rfl fun _ _ _ Ta Cp Hq _ Tb => ?_
    obtain ⟨rfl, rfl⟩ := Tb
    show Go K _ _ _ _ [.int (Int32.ofNat b5), .int (Int32.ofNat b4), .int (Int32.ofNat b3), .int 4, .ref B]
    refine gIloadN Cp at_183 rfl rfl ?_
    refine gIconst (z := 3) Cp at_184 rfl rfl ?_
    refine gIsub (z := 3) Cp at_185 (by decide) rfl ?_
    have Tc := S4.keep Hm nin0
    have Td := Tc.keep Ho nin0
    have Te := Td.keep Hq nin0
    refine wStatic (y := mN3) (Wd := 0) (argsL := [.ref B, .int 4, .int (Int32.ofNat b3), .int (Int32.ofNat b4), .int (Int32.ofNat b5), .int 3]) (rest := []) Cp at_186 (ow7 hw) (ow8 hw) (ow5 hw) (ow9 hw) (by decide) (Cb.ct (ob_gr843 hw hE B N b3 b4 b5 (symN (sx0 (vv b0 b1 b2))) (symN (sx1 (vv b0 b1 b2))) (symN (sx2 (vv b0 b1 b2))) (symN (sx3 (vv b0 b1 b2))) Ta Cp.old Te hb3 hb4 hb5 (Nat.le_trans Ag.old.2.1 (Nat.le_of_eq Ai.symm))) (ow9 hw) (ow5 hw) hE (by decide) (by decide)) (by simp) rfl (lenOf opd31 rfl) rfl (Nat.le_of_eq rfl) (by decide) (by decide) rfl fun _ _ _ Tf Hr Tg _ Th => ?_
    obtain ⟨rfl, rfl, Ti⟩ := Th
    show Go K _ _ _ _ []
    have Tj : Arv Z Tf B N .char 8 (tx6 (vv b0 b1 b2) (vv b3 b4 b5)) (.int 0) := Ti
    refine wNewO Hr at_189 (ow13 hw) (ow14 hw) (ow15 hw) (by decide) (by decide) rfl fun _ Du Ac C8 Hs Ht Tk Hu => ?_
    have Tl : Fld Z Du Ac "java/lang/String" "value" "[B" .null := Hu (Or.inr (ow40 hw)) (ty := .array .byte) (by decide)
    have Tm : Fld Z Du Ac "java/lang/String" "coder" "B" (.int 0) := Hu (Or.inr (ow38 hw)) (ty := .byte) (by decide)
    refine gDup C8 at_192 rfl rfl ?_
    refine gAload C8 at_193 rfl rfl rfl ?_
    have Tn := Tj.ext Hs
    refine wSpecial (y := mN9) (Wd := 1) (a := Ac) (argsL := [.ref B]) (rest := [.ref Ac]) C8 at_195 rfl (ow16 hw) (ow17 hw) (ow18 hw) (by decide) (Cb.ct (ob_i18 hw hE Ac B N z (symN (sx0 (vv b0 b1 b2))) (symN (sx1 (vv b0 b1 b2))) (symN (sx2 (vv b0 b1 b2))) (symN (sx3 (vv b0 b1 b2))) (symN (sx0 (vv b3 b4 b5))) (symN (sx1 (vv b3 b4 b5))) (symN (sx2 (vv b3 b4 b5))) (symN (sx3 (vv b3 b4 b5))) Du C8.old SC hz Tk Tl Tm Tn (symN_le _) (symN_le _) (symN_le _) (symN_le _) (symN_le _) (symN_le _) (symN_le _) (symN_le _) (Nat.le_trans Hr.old.2.1 (Nat.le_of_eq Ht.symm))) (ow18 hw) (ow15 hw) hE (by decide) (by decide)) (by simp) rfl (lenOf opd32 rfl) rfl (Nat.le_of_eq rfl) (by decide) (by decide) rfl fun _ _ _ To Dv Tp _ Tq => ?_
    obtain ⟨Hv, Hw, rfl, rfl, _, Tr, Ts, Tt, Tu, Tv⟩ := Tq
    show Go K _ _ _ _ [.ref Ac]
    have Tw : Arv Z To Hv Hw .byte 8 (tx6 (vv b0 b1 b2) (vv b3 b4 b5)) (.int 0) := Tu
    refine gAstore (ls' := #[aI x0, aI y0, aI m0, aI 6, aR A, aR D, aR B, aR Ac, aU]) Dv at_198 rfl rfl rfl ?_
    refine gAload Dv at_200 rfl rfl rfl ?_
    refine wLdcS (vs := [.int 99, .int 105, .int 112, .int 104, .int 101, .int 114, .int 116, .int 101, .int 120, .int 116]) (z := 10) (n := 40) Dv at_202 (ow41 hw) (owS hw) hE (by decide) (by decide) (by decide) (by decide) (by decide) (by decide) (by decide) (by decide) rfl fun _ Tx Hx _ _ Hy By _ _ _ _ _ => ?_
    have Ty := Tr.ext By
    have Tz := Tt.ext By
    have T0 := Ts.ext By
    have T1 := Tw.ext By
    have T2 := Tv.ext By
    refine wStaticW (y := mN41) (Wd := 0) (argsL := [.ref Ac, .ref Hx]) (rest := []) Hy at_204 (ow44 hw) (ow45 hw) (ow46 hw) (ow47 hw) (by decide) (Cb.ctW (ob_ds6 hw hE dd Ac Hv Hw Hx z fm iso u8 tb ktb (vv b0 b1 b2) (vv b3 b4 b5) Tx Hy.old SC hz SF rf SI SU niu SD DE DU DM TS TA Ty Tz T0 T1 T2 (vv_lt hb0 hb1 hb2) (vv_lt hb3 hb4 hb5)) (ow47 hw) (ow46 hw) hE (by decide) (by decide)) (by simp) rfl (lenOf opd29 rfl) rfl (Nat.le_of_eq rfl) (by decide) (by decide) rfl fun _ _ _ T3 Ad T4 _ T5 => ?_
    obtain ⟨M, Bz, rfl, rfl, _, Dw⟩ := T5
    show Go K _ _ _ _ [.ref M]
    refine gAstore (ls' := #[aI x0, aI y0, aI m0, aI 6, aR A, aR D, aR B, aR Ac, aR M]) Ad at_207 rfl rfl rfl ?_
    refine gAload Ad at_209 rfl rfl rfl ?_
    refine wLen Ad at_211 Dw rfl ?_
    refine gIloadN Ad at_212 rfl rfl ?_
    refine gIcmpNo Ad at_213 (teq (by decide)).2 rfl ?_
    refine gAload Ad at_216 rfl rfl rfl ?_
    refine gAload Ad at_218 rfl rfl rfl ?_
    refine gIloadN Ad at_220 rfl rfl ?_
    refine gIconst (z := 0) Ad at_221 rfl rfl ?_
    have T6 := Hp.keep Hq nin0
    have Hz := T6.keep Tg (ninS Hk nin0)
    have T7 := Hz.ext Hs
    have T8 : A ≠ Ac := Nat.ne_of_lt (Nat.lt_of_lt_of_le Hz.lt (Nat.le_of_eq Ht.symm))
    have T9 := T7.keep Tp (ninS T8 nin0)
    have Ua := T9.ext By
    have H0 := Ua.keep T4 nin0
    refine wStatic (y := mN2) (Wd := 0) (argsL := [.ref M, .ref A, .int 6, .int 0]) (rest := []) Ad at_222 (ow193 hw) (ow194 hw) (ow5 hw) (ow195 hw) (by decide) (Cb.ct (ob_sm0 hw hE M Bz [.int (sb ((vv b0 b1 b2) / 65536)), .int (sb ((vv b0 b1 b2) / 256)), .int (sb (vv b0 b1 b2)), .int (sb ((vv b3 b4 b5) / 65536)), .int (sb ((vv b3 b4 b5) / 256)), .int (sb (vv b3 b4 b5))] A E [.int (sb b0), .int (sb b1), .int (sb b2), .int (sb b3), .int (sb b4), .int (sb b5)] 6 (sb b0) T3 Ad.old Dw H0 (by decide) (by decide) (congrArg Value.int (sb_mod (by unfold vv; omega) (by unfold vv; omega) (by omega))) rfl) (ow195 hw) (ow5 hw) hE (by decide) (by decide)) (by simp) rfl (lenOf opd30 rfl) rfl (Nat.le_of_eq rfl) (by decide) (by decide) rfl fun _ _ _ Ub Bl H1 _ Uc => ?_
    obtain ⟨rfl, rfl⟩ := Uc
    show Go K _ _ _ _ [.int 1]
    refine gIfNo Bl at_225 ((if0 _ _).trans (feq (by decide)).1) rfl ?_
    refine gAload Bl at_228 rfl rfl rfl ?_
    refine gAload Bl at_230 rfl rfl rfl ?_
    refine gIloadN Bl at_232 rfl rfl ?_
    refine gIconst (z := 1) Bl at_233 rfl rfl ?_
    have H2 := Dw.keep H1 nin0
    have H3 := H0.keep H1 nin0
    refine wStatic (y := mN2) (Wd := 0) (argsL := [.ref M, .ref A, .int 6, .int 1]) (rest := []) Bl at_234 (ow193 hw) (ow194 hw) (ow5 hw) (ow195 hw) (by decide) (Cb.ct (ob_sm1 hw hE M Bz [.int (sb ((vv b0 b1 b2) / 65536)), .int (sb ((vv b0 b1 b2) / 256)), .int (sb (vv b0 b1 b2)), .int (sb ((vv b3 b4 b5) / 65536)), .int (sb ((vv b3 b4 b5) / 256)), .int (sb (vv b3 b4 b5))] A E [.int (sb b0), .int (sb b1), .int (sb b2), .int (sb b3), .int (sb b4), .int (sb b5)] 6 (sb b1) Ub Bl.old H2 H3 (by decide) (by decide) (congrArg Value.int (sb_mod (by unfold vv; omega) (by unfold vv; omega) (by omega))) rfl) (ow195 hw) (ow5 hw) hE (by decide) (by decide)) (by simp) rfl (lenOf opd30 rfl) rfl (Nat.le_of_eq rfl) (by decide) (by decide) rfl fun _ _ _ Ud Bm H4 _ Ue => ?_
    obtain ⟨rfl, rfl⟩ := Ue
    show Go K _ _ _ _ [.int 1]
    refine gIfNo Bm at_237 ((if0 _ _).trans (feq (by decide)).1) rfl ?_
    refine gAload Bm at_240 rfl rfl rfl ?_
    refine gAload Bm at_242 rfl rfl rfl ?_
    refine gIloadN Bm at_244 rfl rfl ?_
    refine gIconst (z := 2) Bm at_245 rfl rfl ?_
    have H5 := H2.keep H4 nin0
    have H6 := H3.keep H4 nin0
    refine wStatic (y := mN2) (Wd := 0) (argsL := [.ref M, .ref A, .int 6, .int 2]) (rest := []) Bm at_246 (ow193 hw) (ow194 hw) (ow5 hw) (ow195 hw) (by decide) (Cb.ct (ob_sm2 hw hE M Bz [.int (sb ((vv b0 b1 b2) / 65536)), .int (sb ((vv b0 b1 b2) / 256)), .int (sb (vv b0 b1 b2)), .int (sb ((vv b3 b4 b5) / 65536)), .int (sb ((vv b3 b4 b5) / 256)), .int (sb (vv b3 b4 b5))] A E [.int (sb b0), .int (sb b1), .int (sb b2), .int (sb b3), .int (sb b4), .int (sb b5)] 6 (sb b2) Ud Bm.old H5 H6 (by decide) (by decide) (congrArg Value.int (sb_mod (by unfold vv; omega) (by unfold vv; omega) (by omega))) rfl) (ow195 hw) (ow5 hw) hE (by decide) (by decide)) (by simp) rfl (lenOf opd30 rfl) rfl (Nat.le_of_eq rfl) (by decide) (by decide) rfl fun _ _ _ Uf Bn H7 _ Ug => ?_
    obtain ⟨rfl, rfl⟩ := Ug
    show Go K _ _ _ _ [.int 1]
    refine gIfNo Bn at_249 ((if0 _ _).trans (feq (by decide)).1) rfl ?_
    refine gAload Bn at_252 rfl rfl rfl ?_
    refine gAload Bn at_254 rfl rfl rfl ?_
    refine gIloadN Bn at_256 rfl rfl ?_
    refine gIconst (z := 3) Bn at_257 rfl rfl ?_
    have H8 := H5.keep H7 nin0
    have H9 := H6.keep H7 nin0
    refine wStatic (y := mN2) (Wd := 0) (argsL := [.ref M, .ref A, .int 6, .int 3]) (rest := []) Bn at_258 (ow193 hw) (ow194 hw) (ow5 hw) (ow195 hw) (by decide) (Cb.ct (ob_sm3 hw hE M Bz [.int (sb ((vv b0 b1 b2) / 65536)), .int (sb ((vv b0 b1 b2) / 256)), .int (sb (vv b0 b1 b2)), .int (sb ((vv b3 b4 b5) / 65536)), .int (sb ((vv b3 b4 b5) / 256)), .int (sb (vv b3 b4 b5))] A E [.int (sb b0), .int (sb b1), .int (sb b2), .int (sb b3), .int (sb b4), .int (sb b5)] 6 (sb b3) Uf Bn.old H8 H9 (by decide) (by decide) (congrArg Value.int (sb_mod (by unfold vv; omega) (by unfold vv; omega) (by omega))) rfl) (ow195 hw) (ow5 hw) hE (by decide) (by decide)) (by simp) rfl (lenOf opd30 rfl) rfl (Nat.le_of_eq rfl) (by decide) (by decide) rfl fun _ _ _ Uh Bo Ia _ Ui => ?_
    obtain ⟨rfl, rfl⟩ := Ui
    show Go K _ _ _ _ [.int 1]
    refine gIfNo Bo at_261 ((if0 _ _).trans (feq (by decide)).1) rfl ?_
    refine gAload Bo at_264 rfl rfl rfl ?_
    refine gAload Bo at_266 rfl rfl rfl ?_
    refine gIloadN Bo at_268 rfl rfl ?_
    refine gIconst (z := 4) Bo at_269 rfl rfl ?_
    have Ib := H8.keep Ia nin0
    have Ic := H9.keep Ia nin0
    refine wStatic (y := mN2) (Wd := 0) (argsL := [.ref M, .ref A, .int 6, .int 4]) (rest := []) Bo at_270 (ow193 hw) (ow194 hw) (ow5 hw) (ow195 hw) (by decide) (Cb.ct (ob_sm4 hw hE M Bz [.int (sb ((vv b0 b1 b2) / 65536)), .int (sb ((vv b0 b1 b2) / 256)), .int (sb (vv b0 b1 b2)), .int (sb ((vv b3 b4 b5) / 65536)), .int (sb ((vv b3 b4 b5) / 256)), .int (sb (vv b3 b4 b5))] A E [.int (sb b0), .int (sb b1), .int (sb b2), .int (sb b3), .int (sb b4), .int (sb b5)] 6 (sb b4) Uh Bo.old Ib Ic (by decide) (by decide) (congrArg Value.int (sb_mod (by unfold vv; omega) (by unfold vv; omega) (by omega))) rfl) (ow195 hw) (ow5 hw) hE (by decide) (by decide)) (by simp) rfl (lenOf opd30 rfl) rfl (Nat.le_of_eq rfl) (by decide) (by decide) rfl fun _ _ _ Uj Bp Id _ Uk => ?_
    obtain ⟨rfl, rfl⟩ := Uk
    show Go K _ _ _ _ [.int 1]
    refine gIfNo Bp at_273 ((if0 _ _).trans (feq (by decide)).1) rfl ?_
    refine gAload Bp at_276 rfl rfl rfl ?_
    refine gAload Bp at_278 rfl rfl rfl ?_
    refine gIloadN Bp at_280 rfl rfl ?_
    refine gIconst (z := 5) Bp at_281 rfl rfl ?_
    have Ul := Ib.keep Id nin0
    have Um := Ic.keep Id nin0
    refine wStatic (y := mN2) (Wd := 0) (argsL := [.ref M, .ref A, .int 6, .int 5]) (rest := []) Bp at_282 (ow193 hw) (ow194 hw) (ow5 hw) (ow195 hw) (by decide) (Cb.ct (ob_sm5 hw hE M Bz [.int (sb ((vv b0 b1 b2) / 65536)), .int (sb ((vv b0 b1 b2) / 256)), .int (sb (vv b0 b1 b2)), .int (sb ((vv b3 b4 b5) / 65536)), .int (sb ((vv b3 b4 b5) / 256)), .int (sb (vv b3 b4 b5))] A E [.int (sb b0), .int (sb b1), .int (sb b2), .int (sb b3), .int (sb b4), .int (sb b5)] 6 (sb b5) Uj Bp.old Ul Um (by decide) (by decide) (congrArg Value.int (sb_mod (by unfold vv; omega) (by unfold vv; omega) (by omega))) rfl) (ow195 hw) (ow5 hw) hE (by decide) (by decide)) (by simp) rfl (lenOf opd30 rfl) rfl (Nat.le_of_eq rfl) (by decide) (by decide) rfl fun _ _ _ _ C9 _ _ Un => ?_
    obtain ⟨rfl, rfl⟩ := Un
    show Go K _ _ _ _ [.int 1]
    refine gIfNo C9 at_285 ((if0 _ _).trans (feq (by decide)).1) rfl ?_
    refine gIconst (z := 1) C9 at_288 rfl rfl ?_
    refine gGoto (pc' := 293) C9 at_289 (by decide) rfl ?_
    exact wRetI (so := []) (t := .boolean) C9 at_293 (by simp) rfl (by decide) (by decide) (fun _ q => nomatch q) ⟨rfl, rfl⟩
set_option maxRecDepth 65536 in
set_option maxHeartbeats 40000000 in
theorem comes_1 {Post : Tables → Env → Array Value → State → Outcome → State → Prop} (hpost : ∀ tb e args s v u, (limb_1_1.after args s (.returned v) u = true ∧ limb_1_2.after args s (.returned v) u = true ∧ True) → FramedW s (.returned v) u (Jvm.fieldLocs frame_1_writes args s ++ Jvm.arrayLocs frame_1_arrays args s ++ Jvm.staticLocs frame_1_statics s) 40 6336 → Post tb e args s (.returned v) u) :
    ArmFor flags0 classFile x code maxLocals ret World_1 tables_1 room_1 Calls_1 rest_1 Pre_1 Post := by
  intro l hfl _ _ p e ha hc hk s m args below hf hA hF happ hP
  obtain ⟨hcalls, hrest, hpre⟩ := hP
  obtain ⟨-, -, -, hnamed, -, -, -, hat⟩ := (Spec.applies_iff hf).mp happ
  obtain ⟨hg, hn⟩ := and_e (Cond.before_iff.mp (show (Jvm.Cond.and given_1 narrow_1).before args s = true from hpre))
  obtain ⟨hcount, hg0⟩ := and_e hg
  obtain ⟨hi0, hg1⟩ := and_e hg0
  obtain ⟨hi1, hg2⟩ := and_e hg1
  have hi2 := hg2
  obtain ⟨w0, w1, w2, rfl⟩ : ∃ w0 w1 w2 : Value, args = #[w0, w1, w2] := by
    have hs : args.size = 3 := by simpa [Cond.value, given_1] using hcount
    obtain ⟨L⟩ := args
    match L, hs with
    | [w0, w1, w2], _ => exact ⟨w0, w1, w2, rfl⟩
  have hw := fun d (hd : d ∈ tables_1) => atoms_spec (ws := Jvm.Cond.code x code maxLocals ret :: tables_1) hat d (List.mem_cons_of_mem _ hd)
  obtain ⟨hsets, hown0⟩ := atoms_of _ (rest_1_c_eq ▸ (show rest_1_c.before _ s = true from hrest))
  obtain ⟨i0, ei0⟩ := is_v hi0
  obtain rfl : w0 = (.int i0) := Option.some.inj ei0
  obtain ⟨i1, ei1⟩ := is_v hi1
  obtain rfl : w1 = (.int i1) := Option.some.inj ei1
  obtain ⟨i2, ei2⟩ := is_v hi2
  obtain rfl : w2 = (.int i2) := Option.some.inj ei2
  have n5 := not_v (Cond.before_iff.mp (hsets _ (List.mem_of_getElem? (i := 2) rfl)))
  obtain ⟨iz, ez⟩ := is_v (Cond.before_iff.mp (hsets _ (List.mem_of_getElem? (i := 1) rfl)))
  have SC : Sta s s.heap "java/lang/String" "COMPACT_STRINGS" "Z" (.int iz) := Sta.start ez (Or.inl (hsets _ (List.mem_of_getElem? (i := 0) rfl)))
  have hz : ¬ (iz = 0) := gotF (Cond.eq_ints ez (Term.int_eval (0))) n5
  have hfit : Fit s := fun {y c} hc i hi => by
    obtain ⟨ha, rfl⟩ := Array.getElem?_eq_some_iff.mp hc
    have q := List.all_eq_true.mp ((Array.all_eq_true_iff_forall_mem.mp hF) _ (Array.getElem_mem ha)) i (List.mem_range.mpr hi)
    simpa [Array.getElem?_eq_getElem hi] using q
  obtain ⟨fm, ef, rf⟩ := isR_v (Cond.before_iff.mp (hsets _ (List.mem_of_getElem? (i := 8) rfl)))
  have SF : Sta s s.heap "jdk/internal/util/Preconditions" "SIOOBE_FORMATTER" "Ljava/util/function/BiFunction;" fm := Sta.start ef (Or.inl (hsets _ (List.mem_of_getElem? (i := 7) rfl)))
  obtain ⟨iso, eiso⟩ := exa_v (Cond.before_iff.mp (hsets _ (List.mem_of_getElem? (i := 16) rfl)))
  have EI : Exa s s.heap iso "sun/nio/cs/ISO_8859_1" := Exa.start eiso (Cond.before_iff.mp (hsets _ (List.mem_of_getElem? (i := 16) rfl)))
  have SI : Sta s s.heap "sun/nio/cs/ISO_8859_1" "INSTANCE" "Lsun/nio/cs/ISO_8859_1;" (.ref iso) := Sta.start eiso (Or.inl (hsets _ (List.mem_of_getElem? (i := 15) rfl)))
  obtain ⟨u8, eu8⟩ := exa_v (Cond.before_iff.mp (hsets _ (List.mem_of_getElem? (i := 19) rfl)))
  have EU : Exa s s.heap u8 "sun/nio/cs/UTF_8" := Exa.start eu8 (Cond.before_iff.mp (hsets _ (List.mem_of_getElem? (i := 19) rfl)))
  have SU : Sta s s.heap "sun/nio/cs/UTF_8" "INSTANCE" "Lsun/nio/cs/UTF_8;" (.ref u8) := Sta.start eu8 (Or.inl (hsets _ (List.mem_of_getElem? (i := 18) rfl)))
  have niu : iso ≠ u8 := Exa.ne EI EU (by decide)
  obtain ⟨dd, edd⟩ := exa_v (Cond.before_iff.mp (hsets _ (List.mem_of_getElem? (i := 11) rfl)))
  have DE : Exa s s.heap dd "java/util/Base64$Decoder" := Exa.start edd (Cond.before_iff.mp (hsets _ (List.mem_of_getElem? (i := 11) rfl)))
  have SD : Sta s s.heap "java/util/Base64$Decoder" "RFC4648" "Ljava/util/Base64$Decoder;" (.ref dd) := Sta.start edd (Or.inl (hsets _ (List.mem_of_getElem? (i := 10) rfl)))
  obtain ⟨tb, etb⟩ := exa_v (Cond.before_iff.mp (hsets _ (List.mem_of_getElem? (i := 23) rfl)))
  have TE : Exa s s.heap tb "[I" := Exa.start etb (Cond.before_iff.mp (hsets _ (List.mem_of_getElem? (i := 23) rfl)))
  have TS : Sta s s.heap "java/util/Base64$Decoder" "fromBase64" "[I" (.ref tb) := Sta.start etb (Or.inl (hsets _ (List.mem_of_getElem? (i := 21) rfl)))
  have DU : Fld s s.heap dd "java/util/Base64$Decoder" "isURL" "Z" (.int 0) := Fld.start ((fld_at edd).symm.trans (eqI_v (Cond.before_iff.mp (hsets _ (List.mem_of_getElem? (i := 12) rfl)))))
  have DM : Fld s s.heap dd "java/util/Base64$Decoder" "isMIME" "Z" (.int 0) := Fld.start ((fld_at edd).symm.trans (eqI_v (Cond.before_iff.mp (hsets _ (List.mem_of_getElem? (i := 13) rfl)))))
  obtain ⟨ktb, TA⟩ : ∃ k, Arv s s.heap tb k .int 256 tab (.int 0) := arvStart hfit etb (Cond.before_iff.mp (hsets _ (List.mem_of_getElem? (i := 22) rfl))) (Cond.before_iff.mp (hsets _ (List.mem_of_getElem? (i := 24) rfl))) (by decide) (by decide) (fun cl hcl => by
    have el : ∀ (j v : Int32), (Jvm.Cond.eq (Term.elem (Term.static "java/util/Base64$Decoder" "fromBase64" "[I") (Term.int j)) (Term.int v)).before _ s = true → ∀ i : Nat, j.toNatClampNeg = i → cl.slots[i]? = some (.int v) := fun j v q i hi => elem_h etb (eqI_v (Cond.before_iff.mp q)) hcl i hi
    exact ⟨el _ _ (hsets _ (List.mem_of_getElem? (i := 25) rfl)) 0 (by decide), ⟨el _ _ (hsets _ (List.mem_of_getElem? (i := 26) rfl)) 1 (by decide), ⟨el _ _ (hsets _ (List.mem_of_getElem? (i := 27) rfl)) 2 (by decide), ⟨el _ _ (hsets _ (List.mem_of_getElem? (i := 28) rfl)) 3 (by decide), ⟨el _ _ (hsets _ (List.mem_of_getElem? (i := 29) rfl)) 4 (by decide), ⟨el _ _ (hsets _ (List.mem_of_getElem? (i := 30) rfl)) 5 (by decide), ⟨el _ _ (hsets _ (List.mem_of_getElem? (i := 31) rfl)) 6 (by decide), ⟨el _ _ (hsets _ (List.mem_of_getElem? (i := 32) rfl)) 7 (by decide), ⟨el _ _ (hsets _ (List.mem_of_getElem? (i := 33) rfl)) 8 (by decide), ⟨el _ _ (hsets _ (List.mem_of_getElem? (i := 34) rfl)) 9 (by decide), ⟨el _ _ (hsets _ (List.mem_of_getElem? (i := 35) rfl)) 10 (by decide), ⟨el _ _ (hsets _ (List.mem_of_getElem? (i := 36) rfl)) 11 (by decide), ⟨el _ _ (hsets _ (List.mem_of_getElem? (i := 37) rfl)) 12 (by decide), ⟨el _ _ (hsets _ (List.mem_of_getElem? (i := 38) rfl)) 13 (by decide), ⟨el _ _ (hsets _ (List.mem_of_getElem? (i := 39) rfl)) 14 (by decide), ⟨el _ _ (hsets _ (List.mem_of_getElem? (i := 40) rfl)) 15 (by decide), ⟨el _ _ (hsets _ (List.mem_of_getElem? (i := 41) rfl)) 16 (by decide), ⟨el _ _ (hsets _ (List.mem_of_getElem? (i := 42) rfl)) 17 (by decide), ⟨el _ _ (hsets _ (List.mem_of_getElem? (i := 43) rfl)) 18 (by decide), ⟨el _ _ (hsets _ (List.mem_of_getElem? (i := 44) rfl)) 19 (by decide), ⟨el _ _ (hsets _ (List.mem_of_getElem? (i := 45) rfl)) 20 (by decide), ⟨el _ _ (hsets _ (List.mem_of_getElem? (i := 46) rfl)) 21 (by decide), ⟨el _ _ (hsets _ (List.mem_of_getElem? (i := 47) rfl)) 22 (by decide), ⟨el _ _ (hsets _ (List.mem_of_getElem? (i := 48) rfl)) 23 (by decide), ⟨el _ _ (hsets _ (List.mem_of_getElem? (i := 49) rfl)) 24 (by decide), ⟨el _ _ (hsets _ (List.mem_of_getElem? (i := 50) rfl)) 25 (by decide), ⟨el _ _ (hsets _ (List.mem_of_getElem? (i := 51) rfl)) 26 (by decide), ⟨el _ _ (hsets _ (List.mem_of_getElem? (i := 52) rfl)) 27 (by decide), ⟨el _ _ (hsets _ (List.mem_of_getElem? (i := 53) rfl)) 28 (by decide), ⟨el _ _ (hsets _ (List.mem_of_getElem? (i := 54) rfl)) 29 (by decide), ⟨el _ _ (hsets _ (List.mem_of_getElem? (i := 55) rfl)) 30 (by decide), ⟨el _ _ (hsets _ (List.mem_of_getElem? (i := 56) rfl)) 31 (by decide), ⟨el _ _ (hsets _ (List.mem_of_getElem? (i := 57) rfl)) 32 (by decide), ⟨el _ _ (hsets _ (List.mem_of_getElem? (i := 58) rfl)) 33 (by decide), ⟨el _ _ (hsets _ (List.mem_of_getElem? (i := 59) rfl)) 34 (by decide), ⟨el _ _ (hsets _ (List.mem_of_getElem? (i := 60) rfl)) 35 (by decide), ⟨el _ _ (hsets _ (List.mem_of_getElem? (i := 61) rfl)) 36 (by decide), ⟨el _ _ (hsets _ (List.mem_of_getElem? (i := 62) rfl)) 37 (by decide), ⟨el _ _ (hsets _ (List.mem_of_getElem? (i := 63) rfl)) 38 (by decide), ⟨el _ _ (hsets _ (List.mem_of_getElem? (i := 64) rfl)) 39 (by decide), ⟨el _ _ (hsets _ (List.mem_of_getElem? (i := 65) rfl)) 40 (by decide), ⟨el _ _ (hsets _ (List.mem_of_getElem? (i := 66) rfl)) 41 (by decide), ⟨el _ _ (hsets _ (List.mem_of_getElem? (i := 67) rfl)) 42 (by decide), ⟨el _ _ (hsets _ (List.mem_of_getElem? (i := 68) rfl)) 43 (by decide), ⟨el _ _ (hsets _ (List.mem_of_getElem? (i := 69) rfl)) 44 (by decide), ⟨el _ _ (hsets _ (List.mem_of_getElem? (i := 70) rfl)) 45 (by decide), ⟨el _ _ (hsets _ (List.mem_of_getElem? (i := 71) rfl)) 46 (by decide), ⟨el _ _ (hsets _ (List.mem_of_getElem? (i := 72) rfl)) 47 (by decide), ⟨el _ _ (hsets _ (List.mem_of_getElem? (i := 73) rfl)) 48 (by decide), ⟨el _ _ (hsets _ (List.mem_of_getElem? (i := 74) rfl)) 49 (by decide), ⟨el _ _ (hsets _ (List.mem_of_getElem? (i := 75) rfl)) 50 (by decide), ⟨el _ _ (hsets _ (List.mem_of_getElem? (i := 76) rfl)) 51 (by decide), ⟨el _ _ (hsets _ (List.mem_of_getElem? (i := 77) rfl)) 52 (by decide), ⟨el _ _ (hsets _ (List.mem_of_getElem? (i := 78) rfl)) 53 (by decide), ⟨el _ _ (hsets _ (List.mem_of_getElem? (i := 79) rfl)) 54 (by decide), ⟨el _ _ (hsets _ (List.mem_of_getElem? (i := 80) rfl)) 55 (by decide), ⟨el _ _ (hsets _ (List.mem_of_getElem? (i := 81) rfl)) 56 (by decide), ⟨el _ _ (hsets _ (List.mem_of_getElem? (i := 82) rfl)) 57 (by decide), ⟨el _ _ (hsets _ (List.mem_of_getElem? (i := 83) rfl)) 58 (by decide), ⟨el _ _ (hsets _ (List.mem_of_getElem? (i := 84) rfl)) 59 (by decide), ⟨el _ _ (hsets _ (List.mem_of_getElem? (i := 85) rfl)) 60 (by decide), ⟨el _ _ (hsets _ (List.mem_of_getElem? (i := 86) rfl)) 61 (by decide), ⟨el _ _ (hsets _ (List.mem_of_getElem? (i := 87) rfl)) 62 (by decide), ⟨el _ _ (hsets _ (List.mem_of_getElem? (i := 88) rfl)) 63 (by decide), ⟨el _ _ (hsets _ (List.mem_of_getElem? (i := 89) rfl)) 64 (by decide), ⟨el _ _ (hsets _ (List.mem_of_getElem? (i := 90) rfl)) 65 (by decide), ⟨el _ _ (hsets _ (List.mem_of_getElem? (i := 91) rfl)) 66 (by decide), ⟨el _ _ (hsets _ (List.mem_of_getElem? (i := 92) rfl)) 67 (by decide), ⟨el _ _ (hsets _ (List.mem_of_getElem? (i := 93) rfl)) 68 (by decide), ⟨el _ _ (hsets _ (List.mem_of_getElem? (i := 94) rfl)) 69 (by decide), ⟨el _ _ (hsets _ (List.mem_of_getElem? (i := 95) rfl)) 70 (by decide), ⟨el _ _ (hsets _ (List.mem_of_getElem? (i := 96) rfl)) 71 (by decide), ⟨el _ _ (hsets _ (List.mem_of_getElem? (i := 97) rfl)) 72 (by decide), ⟨el _ _ (hsets _ (List.mem_of_getElem? (i := 98) rfl)) 73 (by decide), ⟨el _ _ (hsets _ (List.mem_of_getElem? (i := 99) rfl)) 74 (by decide), ⟨el _ _ (hsets _ (List.mem_of_getElem? (i := 100) rfl)) 75 (by decide), ⟨el _ _ (hsets _ (List.mem_of_getElem? (i := 101) rfl)) 76 (by decide), ⟨el _ _ (hsets _ (List.mem_of_getElem? (i := 102) rfl)) 77 (by decide), ⟨el _ _ (hsets _ (List.mem_of_getElem? (i := 103) rfl)) 78 (by decide), ⟨el _ _ (hsets _ (List.mem_of_getElem? (i := 104) rfl)) 79 (by decide), ⟨el _ _ (hsets _ (List.mem_of_getElem? (i := 105) rfl)) 80 (by decide), ⟨el _ _ (hsets _ (List.mem_of_getElem? (i := 106) rfl)) 81 (by decide), ⟨el _ _ (hsets _ (List.mem_of_getElem? (i := 107) rfl)) 82 (by decide), ⟨el _ _ (hsets _ (List.mem_of_getElem? (i := 108) rfl)) 83 (by decide), ⟨el _ _ (hsets _ (List.mem_of_getElem? (i := 109) rfl)) 84 (by decide), ⟨el _ _ (hsets _ (List.mem_of_getElem? (i := 110) rfl)) 85 (by decide), ⟨el _ _ (hsets _ (List.mem_of_getElem? (i := 111) rfl)) 86 (by decide), ⟨el _ _ (hsets _ (List.mem_of_getElem? (i := 112) rfl)) 87 (by decide), ⟨el _ _ (hsets _ (List.mem_of_getElem? (i := 113) rfl)) 88 (by decide), ⟨el _ _ (hsets _ (List.mem_of_getElem? (i := 114) rfl)) 89 (by decide), ⟨el _ _ (hsets _ (List.mem_of_getElem? (i := 115) rfl)) 90 (by decide), ⟨el _ _ (hsets _ (List.mem_of_getElem? (i := 116) rfl)) 91 (by decide), ⟨el _ _ (hsets _ (List.mem_of_getElem? (i := 117) rfl)) 92 (by decide), ⟨el _ _ (hsets _ (List.mem_of_getElem? (i := 118) rfl)) 93 (by decide), ⟨el _ _ (hsets _ (List.mem_of_getElem? (i := 119) rfl)) 94 (by decide), ⟨el _ _ (hsets _ (List.mem_of_getElem? (i := 120) rfl)) 95 (by decide), ⟨el _ _ (hsets _ (List.mem_of_getElem? (i := 121) rfl)) 96 (by decide), ⟨el _ _ (hsets _ (List.mem_of_getElem? (i := 122) rfl)) 97 (by decide), ⟨el _ _ (hsets _ (List.mem_of_getElem? (i := 123) rfl)) 98 (by decide), ⟨el _ _ (hsets _ (List.mem_of_getElem? (i := 124) rfl)) 99 (by decide), ⟨el _ _ (hsets _ (List.mem_of_getElem? (i := 125) rfl)) 100 (by decide), ⟨el _ _ (hsets _ (List.mem_of_getElem? (i := 126) rfl)) 101 (by decide), ⟨el _ _ (hsets _ (List.mem_of_getElem? (i := 127) rfl)) 102 (by decide), ⟨el _ _ (hsets _ (List.mem_of_getElem? (i := 128) rfl)) 103 (by decide), ⟨el _ _ (hsets _ (List.mem_of_getElem? (i := 129) rfl)) 104 (by decide), ⟨el _ _ (hsets _ (List.mem_of_getElem? (i := 130) rfl)) 105 (by decide), ⟨el _ _ (hsets _ (List.mem_of_getElem? (i := 131) rfl)) 106 (by decide), ⟨el _ _ (hsets _ (List.mem_of_getElem? (i := 132) rfl)) 107 (by decide), ⟨el _ _ (hsets _ (List.mem_of_getElem? (i := 133) rfl)) 108 (by decide), ⟨el _ _ (hsets _ (List.mem_of_getElem? (i := 134) rfl)) 109 (by decide), ⟨el _ _ (hsets _ (List.mem_of_getElem? (i := 135) rfl)) 110 (by decide), ⟨el _ _ (hsets _ (List.mem_of_getElem? (i := 136) rfl)) 111 (by decide), ⟨el _ _ (hsets _ (List.mem_of_getElem? (i := 137) rfl)) 112 (by decide), ⟨el _ _ (hsets _ (List.mem_of_getElem? (i := 138) rfl)) 113 (by decide), ⟨el _ _ (hsets _ (List.mem_of_getElem? (i := 139) rfl)) 114 (by decide), ⟨el _ _ (hsets _ (List.mem_of_getElem? (i := 140) rfl)) 115 (by decide), ⟨el _ _ (hsets _ (List.mem_of_getElem? (i := 141) rfl)) 116 (by decide), ⟨el _ _ (hsets _ (List.mem_of_getElem? (i := 142) rfl)) 117 (by decide), ⟨el _ _ (hsets _ (List.mem_of_getElem? (i := 143) rfl)) 118 (by decide), ⟨el _ _ (hsets _ (List.mem_of_getElem? (i := 144) rfl)) 119 (by decide), ⟨el _ _ (hsets _ (List.mem_of_getElem? (i := 145) rfl)) 120 (by decide), ⟨el _ _ (hsets _ (List.mem_of_getElem? (i := 146) rfl)) 121 (by decide), ⟨el _ _ (hsets _ (List.mem_of_getElem? (i := 147) rfl)) 122 (by decide), ⟨el _ _ (hsets _ (List.mem_of_getElem? (i := 148) rfl)) 123 (by decide), ⟨el _ _ (hsets _ (List.mem_of_getElem? (i := 149) rfl)) 124 (by decide), ⟨el _ _ (hsets _ (List.mem_of_getElem? (i := 150) rfl)) 125 (by decide), ⟨el _ _ (hsets _ (List.mem_of_getElem? (i := 151) rfl)) 126 (by decide), ⟨el _ _ (hsets _ (List.mem_of_getElem? (i := 152) rfl)) 127 (by decide), ⟨el _ _ (hsets _ (List.mem_of_getElem? (i := 153) rfl)) 128 (by decide), ⟨el _ _ (hsets _ (List.mem_of_getElem? (i := 154) rfl)) 129 (by decide), ⟨el _ _ (hsets _ (List.mem_of_getElem? (i := 155) rfl)) 130 (by decide), ⟨el _ _ (hsets _ (List.mem_of_getElem? (i := 156) rfl)) 131 (by decide), ⟨el _ _ (hsets _ (List.mem_of_getElem? (i := 157) rfl)) 132 (by decide), ⟨el _ _ (hsets _ (List.mem_of_getElem? (i := 158) rfl)) 133 (by decide), ⟨el _ _ (hsets _ (List.mem_of_getElem? (i := 159) rfl)) 134 (by decide), ⟨el _ _ (hsets _ (List.mem_of_getElem? (i := 160) rfl)) 135 (by decide), ⟨el _ _ (hsets _ (List.mem_of_getElem? (i := 161) rfl)) 136 (by decide), ⟨el _ _ (hsets _ (List.mem_of_getElem? (i := 162) rfl)) 137 (by decide), ⟨el _ _ (hsets _ (List.mem_of_getElem? (i := 163) rfl)) 138 (by decide), ⟨el _ _ (hsets _ (List.mem_of_getElem? (i := 164) rfl)) 139 (by decide), ⟨el _ _ (hsets _ (List.mem_of_getElem? (i := 165) rfl)) 140 (by decide), ⟨el _ _ (hsets _ (List.mem_of_getElem? (i := 166) rfl)) 141 (by decide), ⟨el _ _ (hsets _ (List.mem_of_getElem? (i := 167) rfl)) 142 (by decide), ⟨el _ _ (hsets _ (List.mem_of_getElem? (i := 168) rfl)) 143 (by decide), ⟨el _ _ (hsets _ (List.mem_of_getElem? (i := 169) rfl)) 144 (by decide), ⟨el _ _ (hsets _ (List.mem_of_getElem? (i := 170) rfl)) 145 (by decide), ⟨el _ _ (hsets _ (List.mem_of_getElem? (i := 171) rfl)) 146 (by decide), ⟨el _ _ (hsets _ (List.mem_of_getElem? (i := 172) rfl)) 147 (by decide), ⟨el _ _ (hsets _ (List.mem_of_getElem? (i := 173) rfl)) 148 (by decide), ⟨el _ _ (hsets _ (List.mem_of_getElem? (i := 174) rfl)) 149 (by decide), ⟨el _ _ (hsets _ (List.mem_of_getElem? (i := 175) rfl)) 150 (by decide), ⟨el _ _ (hsets _ (List.mem_of_getElem? (i := 176) rfl)) 151 (by decide), ⟨el _ _ (hsets _ (List.mem_of_getElem? (i := 177) rfl)) 152 (by decide), ⟨el _ _ (hsets _ (List.mem_of_getElem? (i := 178) rfl)) 153 (by decide), ⟨el _ _ (hsets _ (List.mem_of_getElem? (i := 179) rfl)) 154 (by decide), ⟨el _ _ (hsets _ (List.mem_of_getElem? (i := 180) rfl)) 155 (by decide), ⟨el _ _ (hsets _ (List.mem_of_getElem? (i := 181) rfl)) 156 (by decide), ⟨el _ _ (hsets _ (List.mem_of_getElem? (i := 182) rfl)) 157 (by decide), ⟨el _ _ (hsets _ (List.mem_of_getElem? (i := 183) rfl)) 158 (by decide), ⟨el _ _ (hsets _ (List.mem_of_getElem? (i := 184) rfl)) 159 (by decide), ⟨el _ _ (hsets _ (List.mem_of_getElem? (i := 185) rfl)) 160 (by decide), ⟨el _ _ (hsets _ (List.mem_of_getElem? (i := 186) rfl)) 161 (by decide), ⟨el _ _ (hsets _ (List.mem_of_getElem? (i := 187) rfl)) 162 (by decide), ⟨el _ _ (hsets _ (List.mem_of_getElem? (i := 188) rfl)) 163 (by decide), ⟨el _ _ (hsets _ (List.mem_of_getElem? (i := 189) rfl)) 164 (by decide), ⟨el _ _ (hsets _ (List.mem_of_getElem? (i := 190) rfl)) 165 (by decide), ⟨el _ _ (hsets _ (List.mem_of_getElem? (i := 191) rfl)) 166 (by decide), ⟨el _ _ (hsets _ (List.mem_of_getElem? (i := 192) rfl)) 167 (by decide), ⟨el _ _ (hsets _ (List.mem_of_getElem? (i := 193) rfl)) 168 (by decide), ⟨el _ _ (hsets _ (List.mem_of_getElem? (i := 194) rfl)) 169 (by decide), ⟨el _ _ (hsets _ (List.mem_of_getElem? (i := 195) rfl)) 170 (by decide), ⟨el _ _ (hsets _ (List.mem_of_getElem? (i := 196) rfl)) 171 (by decide), ⟨el _ _ (hsets _ (List.mem_of_getElem? (i := 197) rfl)) 172 (by decide), ⟨el _ _ (hsets _ (List.mem_of_getElem? (i := 198) rfl)) 173 (by decide), ⟨el _ _ (hsets _ (List.mem_of_getElem? (i := 199) rfl)) 174 (by decide), ⟨el _ _ (hsets _ (List.mem_of_getElem? (i := 200) rfl)) 175 (by decide), ⟨el _ _ (hsets _ (List.mem_of_getElem? (i := 201) rfl)) 176 (by decide), ⟨el _ _ (hsets _ (List.mem_of_getElem? (i := 202) rfl)) 177 (by decide), ⟨el _ _ (hsets _ (List.mem_of_getElem? (i := 203) rfl)) 178 (by decide), ⟨el _ _ (hsets _ (List.mem_of_getElem? (i := 204) rfl)) 179 (by decide), ⟨el _ _ (hsets _ (List.mem_of_getElem? (i := 205) rfl)) 180 (by decide), ⟨el _ _ (hsets _ (List.mem_of_getElem? (i := 206) rfl)) 181 (by decide), ⟨el _ _ (hsets _ (List.mem_of_getElem? (i := 207) rfl)) 182 (by decide), ⟨el _ _ (hsets _ (List.mem_of_getElem? (i := 208) rfl)) 183 (by decide), ⟨el _ _ (hsets _ (List.mem_of_getElem? (i := 209) rfl)) 184 (by decide), ⟨el _ _ (hsets _ (List.mem_of_getElem? (i := 210) rfl)) 185 (by decide), ⟨el _ _ (hsets _ (List.mem_of_getElem? (i := 211) rfl)) 186 (by decide), ⟨el _ _ (hsets _ (List.mem_of_getElem? (i := 212) rfl)) 187 (by decide), ⟨el _ _ (hsets _ (List.mem_of_getElem? (i := 213) rfl)) 188 (by decide), ⟨el _ _ (hsets _ (List.mem_of_getElem? (i := 214) rfl)) 189 (by decide), ⟨el _ _ (hsets _ (List.mem_of_getElem? (i := 215) rfl)) 190 (by decide), ⟨el _ _ (hsets _ (List.mem_of_getElem? (i := 216) rfl)) 191 (by decide), ⟨el _ _ (hsets _ (List.mem_of_getElem? (i := 217) rfl)) 192 (by decide), ⟨el _ _ (hsets _ (List.mem_of_getElem? (i := 218) rfl)) 193 (by decide), ⟨el _ _ (hsets _ (List.mem_of_getElem? (i := 219) rfl)) 194 (by decide), ⟨el _ _ (hsets _ (List.mem_of_getElem? (i := 220) rfl)) 195 (by decide), ⟨el _ _ (hsets _ (List.mem_of_getElem? (i := 221) rfl)) 196 (by decide), ⟨el _ _ (hsets _ (List.mem_of_getElem? (i := 222) rfl)) 197 (by decide), ⟨el _ _ (hsets _ (List.mem_of_getElem? (i := 223) rfl)) 198 (by decide), ⟨el _ _ (hsets _ (List.mem_of_getElem? (i := 224) rfl)) 199 (by decide), ⟨el _ _ (hsets _ (List.mem_of_getElem? (i := 225) rfl)) 200 (by decide), ⟨el _ _ (hsets _ (List.mem_of_getElem? (i := 226) rfl)) 201 (by decide), ⟨el _ _ (hsets _ (List.mem_of_getElem? (i := 227) rfl)) 202 (by decide), ⟨el _ _ (hsets _ (List.mem_of_getElem? (i := 228) rfl)) 203 (by decide), ⟨el _ _ (hsets _ (List.mem_of_getElem? (i := 229) rfl)) 204 (by decide), ⟨el _ _ (hsets _ (List.mem_of_getElem? (i := 230) rfl)) 205 (by decide), ⟨el _ _ (hsets _ (List.mem_of_getElem? (i := 231) rfl)) 206 (by decide), ⟨el _ _ (hsets _ (List.mem_of_getElem? (i := 232) rfl)) 207 (by decide), ⟨el _ _ (hsets _ (List.mem_of_getElem? (i := 233) rfl)) 208 (by decide), ⟨el _ _ (hsets _ (List.mem_of_getElem? (i := 234) rfl)) 209 (by decide), ⟨el _ _ (hsets _ (List.mem_of_getElem? (i := 235) rfl)) 210 (by decide), ⟨el _ _ (hsets _ (List.mem_of_getElem? (i := 236) rfl)) 211 (by decide), ⟨el _ _ (hsets _ (List.mem_of_getElem? (i := 237) rfl)) 212 (by decide), ⟨el _ _ (hsets _ (List.mem_of_getElem? (i := 238) rfl)) 213 (by decide), ⟨el _ _ (hsets _ (List.mem_of_getElem? (i := 239) rfl)) 214 (by decide), ⟨el _ _ (hsets _ (List.mem_of_getElem? (i := 240) rfl)) 215 (by decide), ⟨el _ _ (hsets _ (List.mem_of_getElem? (i := 241) rfl)) 216 (by decide), ⟨el _ _ (hsets _ (List.mem_of_getElem? (i := 242) rfl)) 217 (by decide), ⟨el _ _ (hsets _ (List.mem_of_getElem? (i := 243) rfl)) 218 (by decide), ⟨el _ _ (hsets _ (List.mem_of_getElem? (i := 244) rfl)) 219 (by decide), ⟨el _ _ (hsets _ (List.mem_of_getElem? (i := 245) rfl)) 220 (by decide), ⟨el _ _ (hsets _ (List.mem_of_getElem? (i := 246) rfl)) 221 (by decide), ⟨el _ _ (hsets _ (List.mem_of_getElem? (i := 247) rfl)) 222 (by decide), ⟨el _ _ (hsets _ (List.mem_of_getElem? (i := 248) rfl)) 223 (by decide), ⟨el _ _ (hsets _ (List.mem_of_getElem? (i := 249) rfl)) 224 (by decide), ⟨el _ _ (hsets _ (List.mem_of_getElem? (i := 250) rfl)) 225 (by decide), ⟨el _ _ (hsets _ (List.mem_of_getElem? (i := 251) rfl)) 226 (by decide), ⟨el _ _ (hsets _ (List.mem_of_getElem? (i := 252) rfl)) 227 (by decide), ⟨el _ _ (hsets _ (List.mem_of_getElem? (i := 253) rfl)) 228 (by decide), ⟨el _ _ (hsets _ (List.mem_of_getElem? (i := 254) rfl)) 229 (by decide), ⟨el _ _ (hsets _ (List.mem_of_getElem? (i := 255) rfl)) 230 (by decide), ⟨el _ _ (hsets _ (List.mem_of_getElem? (i := 256) rfl)) 231 (by decide), ⟨el _ _ (hsets _ (List.mem_of_getElem? (i := 257) rfl)) 232 (by decide), ⟨el _ _ (hsets _ (List.mem_of_getElem? (i := 258) rfl)) 233 (by decide), ⟨el _ _ (hsets _ (List.mem_of_getElem? (i := 259) rfl)) 234 (by decide), ⟨el _ _ (hsets _ (List.mem_of_getElem? (i := 260) rfl)) 235 (by decide), ⟨el _ _ (hsets _ (List.mem_of_getElem? (i := 261) rfl)) 236 (by decide), ⟨el _ _ (hsets _ (List.mem_of_getElem? (i := 262) rfl)) 237 (by decide), ⟨el _ _ (hsets _ (List.mem_of_getElem? (i := 263) rfl)) 238 (by decide), ⟨el _ _ (hsets _ (List.mem_of_getElem? (i := 264) rfl)) 239 (by decide), ⟨el _ _ (hsets _ (List.mem_of_getElem? (i := 265) rfl)) 240 (by decide), ⟨el _ _ (hsets _ (List.mem_of_getElem? (i := 266) rfl)) 241 (by decide), ⟨el _ _ (hsets _ (List.mem_of_getElem? (i := 267) rfl)) 242 (by decide), ⟨el _ _ (hsets _ (List.mem_of_getElem? (i := 268) rfl)) 243 (by decide), ⟨el _ _ (hsets _ (List.mem_of_getElem? (i := 269) rfl)) 244 (by decide), ⟨el _ _ (hsets _ (List.mem_of_getElem? (i := 270) rfl)) 245 (by decide), ⟨el _ _ (hsets _ (List.mem_of_getElem? (i := 271) rfl)) 246 (by decide), ⟨el _ _ (hsets _ (List.mem_of_getElem? (i := 272) rfl)) 247 (by decide), ⟨el _ _ (hsets _ (List.mem_of_getElem? (i := 273) rfl)) 248 (by decide), ⟨el _ _ (hsets _ (List.mem_of_getElem? (i := 274) rfl)) 249 (by decide), ⟨el _ _ (hsets _ (List.mem_of_getElem? (i := 275) rfl)) 250 (by decide), ⟨el _ _ (hsets _ (List.mem_of_getElem? (i := 276) rfl)) 251 (by decide), ⟨el _ _ (hsets _ (List.mem_of_getElem? (i := 277) rfl)) 252 (by decide), ⟨el _ _ (hsets _ (List.mem_of_getElem? (i := 278) rfl)) 253 (by decide), ⟨el _ _ (hsets _ (List.mem_of_getElem? (i := 279) rfl)) 254 (by decide), ⟨el _ _ (hsets _ (List.mem_of_getElem? (i := 280) rfl)) 255 (by decide), trivial⟩⟩⟩⟩⟩⟩⟩⟩⟩⟩⟩⟩⟩⟩⟩⟩⟩⟩⟩⟩⟩⟩⟩⟩⟩⟩⟩⟩⟩⟩⟩⟩⟩⟩⟩⟩⟩⟩⟩⟩⟩⟩⟩⟩⟩⟩⟩⟩⟩⟩⟩⟩⟩⟩⟩⟩⟩⟩⟩⟩⟩⟩⟩⟩⟩⟩⟩⟩⟩⟩⟩⟩⟩⟩⟩⟩⟩⟩⟩⟩⟩⟩⟩⟩⟩⟩⟩⟩⟩⟩⟩⟩⟩⟩⟩⟩⟩⟩⟩⟩⟩⟩⟩⟩⟩⟩⟩⟩⟩⟩⟩⟩⟩⟩⟩⟩⟩⟩⟩⟩⟩⟩⟩⟩⟩⟩⟩⟩⟩⟩⟩⟩⟩⟩⟩⟩⟩⟩⟩⟩⟩⟩⟩⟩⟩⟩⟩⟩⟩⟩⟩⟩⟩⟩⟩⟩⟩⟩⟩⟩⟩⟩⟩⟩⟩⟩⟩⟩⟩⟩⟩⟩⟩⟩⟩⟩⟩⟩⟩⟩⟩⟩⟩⟩⟩⟩⟩⟩⟩⟩⟩⟩⟩⟩⟩⟩⟩⟩⟩⟩⟩⟩⟩⟩⟩⟩⟩⟩⟩⟩⟩⟩⟩⟩⟩⟩⟩⟩⟩⟩⟩⟩⟩⟩⟩⟩⟩⟩⟩⟩⟩⟩⟩⟩⟩⟩⟩⟩⟩⟩⟩⟩⟩⟩⟩⟩⟩⟩⟩⟩⟩⟩⟩⟩⟩⟩)
  have hE : EW s #[.int i0, .int i1, .int i2] consts_1 := (EW.cons (ow48 hw) (by decide) (EW.cons (ow127 hw) (by decide) (EW.cons (ow143 hw) (by decide) (EW.cons (ow144 hw) (by decide) (EW.cons (ow201 hw) (by decide) (EW.cons (ow41 hw) (by decide) EW.nil))))))
  have hcw : Jvm.Lit.compactW.before _ s = true := (hsets _ (List.mem_of_getElem? (i := 2) rfl))
  have hCH : CHv s consts_1 s.vm s.heap := CHv.start hE (fun q hq => (hcalls.1 : constsHeld consts_1 s) q hq) hcw (owS hw _ (by simp [Bundle.stringAtoms])) (hws' hw)
  obtain ⟨n, o, h1, h2, h3, v, L, so, rfl, hQ, -, hL, -, hq⟩ := ob_law (l := l) (Z := s) hw hE i0 i1 i2 iz fm iso u8 tb ktb dd s.heap (Old.start s) SC hz SF rf SI SU niu TS TA SD DE DU DM tables_1 p e ha hc hk s m _ below hf ((Spec.applies_iff_loose hf).mp happ).1 ⟨rfl, State.Warmed39.refl s, rfl, hCH, fun _ q => nomatch q⟩ trivial
  obtain ⟨rfl, -⟩ := hQ
  refine ⟨n, _, h1, h2, h3, hpost _ _ _ _ _ _ ⟨Cond.after_iff.mpr rfl, Cond.after_iff.mpr (eq_i res_at (Term.int_eval (1)) rfl), trivial⟩ ⟨hq.1, hq.2.1, hq.2.2.1, (hq.2.2.2.sift fun y hy => Or.inr ?_).mono (by decide) (by decide)⟩⟩
  rcases hL y hy with z | z
  · cases z
  · exact z
theorem main_1_1 : Claimed_1_1 := comes_1 fun _ _ _ _ _ _ h hF => ⟨h.1, hF⟩
theorem main_1_2 : Claimed_1_2 := comes_1 fun _ _ _ _ _ _ h hF => ⟨h.2.1, hF⟩
end Jvm.Pilot.@@N@@
namespace Jvm.Pilot.@@N@@
open Jvm Jvm.ClassFile Sem Op Lib Jvm.Free Jvm.Stand Jvm.Pilot.@@N@@.Jvm.D
/-! MADE BY PROGRAM (witnessworld.py) out of the Statement's table words and the real class files: 29 classes; the members and pool entries that the words name. The judged class is class 1, her method 1. -/
namespace start1
open Jvm.ClassFile
def u (s : String) : CpInfo := .utf8 (stringToUtf16 s)
/-- a pool by its gaps: so many unusable entries, then the entry; so many at the end -/
def gap : Nat → List CpInfo → List CpInfo
  | 0, r => r
  | n + 1, r => .unusable :: gap n r
def poolList (es : List (Nat × CpInfo)) (last : Nat) : List CpInfo := es.foldr (fun e r => gap e.1 (e.2 :: r)) (gap last [])
def pool (es : List (Nat × CpInfo)) (last : Nat) : Array CpInfo := ⟨poolList es last⟩
def fileOf (pool : Array CpInfo) (this : Nat) (attrs : Array Attribute := #[]) (ms : Array MethodInfo := #[]) (fl : Nat := 33) (sup : Nat := 0) (ifs : Array Nat := #[]) (fds : Array FieldInfo := #[]) : ClassFile where
  minorVersion := 0
  majorVersion := 65
  constantPool := pool
  accessFlags := fl
  thisClass := this
  superClass := sup
  interfaces := ifs
  fields := fds
  methods := ms
  attributes := attrs
def plain (name : String) (sup : Option ClassId) : Class where
  name := name
  kind := .ordinary
  loader := none
  accessFlags := 33
  super := sup
  interfaces := #[]
  cf := none
  fields := #[]
  methods := #[]
  instanceTypes := #[]
  staticTypes := #[]
  resolved := #[]
  callSites := []
  init := .initialized
  statics := none
  mirror := none

def pool0 : Array CpInfo := pool [(5, u "<init>"), (0, u "()V"), (1, .class_ 10), (1, u "java/lang/Object"), (85, u "clone"), (0, u "()Ljava/lang/Object;")] 26

def k0c0 : Code := { maxStack := 0, maxLocals := 1, code := object_method_1_code, exceptionTable := #[], attributes := #[] }
def k0m0 : Method := { name := "<init>", desc := "()V", sig := { parameters := [], returnType := none }, accessFlags := 1, code := some k0c0 }
def k0m1 : Method := { name := "clone", desc := "()Ljava/lang/Object;", sig := { parameters := [], returnType := some (.object "java/lang/Object") }, accessFlags := 260, code := none }
/-- java/lang/Object -/
def k0 : Class := { plain "java/lang/Object" none with
  accessFlags := 33
  interfaces := #[]
  cf := some (fileOf pool0 8 #[] #[{ accessFlags := 1, nameIndex := 5, descriptorIndex := 6, attributes := #[] }, { accessFlags := 260, nameIndex := 96, descriptorIndex := 97, attributes := #[] }] 33 0 #[] #[])
  fields := #[]
  methods := #[k0m0, k0m1]
  instanceTypes := #[]
  staticTypes := #[]
  resolved := Array.replicate 124 none
  statics := none }

def pool1 : Array CpInfo := pool [(2, .class_ 4), (1, u "java/lang/Object"), (0, u "<init>"), (0, u "()V"), (0, .integer 2147483647), (0, .string 9), (0, u ""), (0, .methodref 11 12), (0, .class_ 13), (0, .nameAndType 14 15), (0, u "com/example/drafts_under_key/draftsunderkey/crypto/StrictBase64DecodePinLaw"), (0, u "at"), (0, u "([BII)I"), (0, .methodref 11 17), (0, .nameAndType 18 19), (0, u "group"), (0, u "([CIIIII)V"), (0, .class_ 21), (0, u "java/lang/String"), (0, .methodref 20 23), (0, .nameAndType 5 24), (0, u "([C)V"), (0, .string 26), (0, u "ciphertext"), (0, .methodref 28 29), (0, .class_ 30), (0, .nameAndType 31 32), (0, u "com/example/drafts_under_key/draftsunderkey/crypto/StrictBase64"), (0, u "decode"), (0, u "(Ljava/lang/String;Ljava/lang/String;)[B"), (0, .methodref 11 34), (0, .nameAndType 35 36), (0, u "same"), (0, u "([B[BII)Z"), (0, .methodref 11 38), (0, .nameAndType 39 40), (0, u "sym"), (0, u "(I)C"), (2, u "law"), (0, u "(III)Z")] 10

def k1m0 : Method := { name := "<init>", desc := "()V", sig := { parameters := [], returnType := none }, accessFlags := 2, code := none }
def k1c1 : Code := { maxStack := 7, maxLocals := 9, code := code, exceptionTable := #[], attributes := #[] }
def k1m1 : Method := { name := "law", desc := "(III)Z", sig := { parameters := [.int, .int, .int], returnType := some .boolean }, accessFlags := 9, code := some k1c1 }
def k1c2 : Code := { maxStack := 2, maxLocals := 3, code := method_3_code, exceptionTable := #[], attributes := #[] }
def k1m2 : Method := { name := "at", desc := "([BII)I", sig := { parameters := [(.array .byte), .int, .int], returnType := some .int }, accessFlags := 10, code := some k1c2 }
def k1c3 : Code := { maxStack := 4, maxLocals := 7, code := method_4_code, exceptionTable := #[], attributes := #[] }
def k1m3 : Method := { name := "group", desc := "([CIIIII)V", sig := { parameters := [(.array .char), .int, .int, .int, .int, .int], returnType := none }, accessFlags := 10, code := some k1c3 }
def k1c4 : Code := { maxStack := 3, maxLocals := 1, code := method_5_code, exceptionTable := #[], attributes := #[] }
def k1m4 : Method := { name := "sym", desc := "(I)C", sig := { parameters := [.int], returnType := some .char }, accessFlags := 10, code := some k1c4 }
def k1c5 : Code := { maxStack := 3, maxLocals := 4, code := method_6_code, exceptionTable := #[], attributes := #[] }
def k1m5 : Method := { name := "same", desc := "([B[BII)Z", sig := { parameters := [(.array .byte), (.array .byte), .int, .int], returnType := some .boolean }, accessFlags := 10, code := some k1c5 }
/-- com/example/drafts_under_key/draftsunderkey/crypto/StrictBase64DecodePinLaw -/
def k1 : Class := { plain "com/example/drafts_under_key/draftsunderkey/crypto/StrictBase64DecodePinLaw" (some 0) with
  accessFlags := 49
  interfaces := #[]
  cf := some (fileOf pool1 11 #[] #[{ accessFlags := 2, nameIndex := 5, descriptorIndex := 6, attributes := #[] }, { accessFlags := 9, nameIndex := 43, descriptorIndex := 44, attributes := #[] }, { accessFlags := 10, nameIndex := 14, descriptorIndex := 15, attributes := #[] }, { accessFlags := 10, nameIndex := 18, descriptorIndex := 19, attributes := #[] }, { accessFlags := 10, nameIndex := 39, descriptorIndex := 40, attributes := #[] }, { accessFlags := 10, nameIndex := 35, descriptorIndex := 36, attributes := #[] }] 49 2 #[] #[])
  fields := #[]
  methods := #[k1m0, k1m1, k1m2, k1m3, k1m4, k1m5]
  instanceTypes := #[]
  staticTypes := #[]
  resolved := Array.replicate 55 none
  statics := none }

def pool2 : Array CpInfo := pool [(1, .class_ 2), (0, u "java/io/Serializable"), (0, .class_ 4), (0, u "java/lang/Object")] 2

/-- java/io/Serializable -/
def k2 : Class := { plain "java/io/Serializable" (some 0) with
  accessFlags := 1537
  interfaces := #[]
  cf := some (fileOf pool2 1 #[] #[] 1537 3 #[] #[])
  fields := #[]
  methods := #[]
  instanceTypes := #[]
  staticTypes := #[]
  resolved := Array.replicate 7 none
  statics := none }

def pool3 : Array CpInfo := pool [(1, .class_ 2), (0, u "java/lang/Comparable"), (0, .class_ 4), (0, u "java/lang/Object")] 7

/-- java/lang/Comparable -/
def k3 : Class := { plain "java/lang/Comparable" (some 0) with
  accessFlags := 1537
  interfaces := #[]
  cf := some (fileOf pool3 1 #[] #[] 1537 3 #[] #[])
  fields := #[]
  methods := #[]
  instanceTypes := #[]
  staticTypes := #[]
  resolved := Array.replicate 12 none
  statics := none }

def pool4 : Array CpInfo := pool [(2, .class_ 4), (1, u "java/lang/CharSequence"), (42, .class_ 48), (0, u "java/lang/CharSequence$1CodePointIterator"), (10, .class_ 60), (0, u "java/lang/CharSequence$1CharIterator"), (5, .class_ 67), (0, u "java/lang/Object")] 63

/-- java/lang/CharSequence -/
def k4 : Class := { plain "java/lang/CharSequence" (some 0) with
  accessFlags := 1537
  interfaces := #[]
  cf := some (fileOf pool4 2 #[.nestMembers #[47, 59]] #[] 1537 66 #[] #[])
  fields := #[]
  methods := #[]
  instanceTypes := #[]
  staticTypes := #[]
  resolved := Array.replicate 131 none
  statics := none }

def pool5 : Array CpInfo := pool [(1, .class_ 2), (0, u "java/lang/constant/Constable"), (0, .class_ 4), (0, u "java/lang/Object")] 6

/-- java/lang/constant/Constable -/
def k5 : Class := { plain "java/lang/constant/Constable" (some 0) with
  accessFlags := 1537
  interfaces := #[]
  cf := some (fileOf pool5 1 #[] #[] 1537 3 #[] #[])
  fields := #[]
  methods := #[]
  instanceTypes := #[]
  staticTypes := #[]
  resolved := Array.replicate 11 none
  statics := none }

def pool6 : Array CpInfo := pool [(1, .class_ 2), (0, u "java/lang/constant/ConstantDesc"), (0, .class_ 4), (0, u "java/lang/Object")] 32

/-- java/lang/constant/ConstantDesc -/
def k6 : Class := { plain "java/lang/constant/ConstantDesc" (some 0) with
  accessFlags := 1537
  interfaces := #[]
  cf := some (fileOf pool6 1 #[] #[] 1537 3 #[] #[])
  fields := #[]
  methods := #[]
  instanceTypes := #[]
  staticTypes := #[]
  resolved := Array.replicate 37 none
  statics := none }

def pool7 : Array CpInfo := pool [(1, .methodref 2 3), (0, .class_ 4), (0, .nameAndType 5 6), (0, u "java/lang/Object"), (0, u "<init>"), (0, u "()V"), (2, .fieldref 10 11), (0, .class_ 12), (0, .nameAndType 13 14), (0, u "java/lang/String"), (0, u "value"), (0, u "[B"), (0, .fieldref 10 16), (0, .nameAndType 17 18), (0, u "coder"), (0, u "B"), (2, u "hash"), (0, u "I"), (2, u "hashIsZero"), (0, u "Z"), (0, .methodref 10 28), (0, .nameAndType 5 29), (0, u "([CIILjava/lang/Void;)V"), (8, .fieldref 10 39), (0, .nameAndType 40 26), (0, u "COMPACT_STRINGS"), (1, .class_ 44), (1, u "java/lang/StringUTF16"), (0, u "compress"), (1, .methodref 42 48), (0, .nameAndType 49 50), (0, u "coderFromArrayLen"), (0, u "([BI)B"), (35, .fieldref 87 88), (0, .class_ 89), (0, .nameAndType 90 91), (0, u "sun/nio/cs/UTF_8"), (0, u "INSTANCE"), (0, u "Lsun/nio/cs/UTF_8;"), (15, .class_ 109), (1, u "java/lang/StringLatin1"), (6, .fieldref 117 118), (0, .class_ 119), (0, .nameAndType 90 120), (0, u "sun/nio/cs/ISO_8859_1"), (0, u "Lsun/nio/cs/ISO_8859_1;"), (21, u "()Z"), (34, .methodref 42 178), (0, .nameAndType 45 179), (0, u "([CII)[B"), (75, u "(B[BZ)[B"), (0, .methodref 10 257), (0, .nameAndType 258 259), (0, u "encode8859_1"), (0, u "(B[B)[B"), (19, .methodref 280 281), (0, .class_ 14), (0, .nameAndType 282 283), (0, u "clone"), (0, u "()Ljava/lang/Object;"), (33, u "encode"), (16, u "()I"), (0, .methodref 10 336), (0, .nameAndType 17 337), (0, u "()B"), (13, .methodref 10 352), (0, .nameAndType 258 255), (10, u "([BI)C"), (12, u "([BI[BII)I"), (14, u "(II)V"), (35, u "(I)C"), (64, .methodref 10 493), (0, .nameAndType 494 142), (0, u "isLatin1"), (0, .methodref 107 496), (0, .nameAndType 497 363), (0, u "charAt"), (3, u "checkIndex"), (3, .methodref 10 506), (0, .nameAndType 507 334), (0, u "length"), (24, u "getBytes"), (2, .methodref 10 536), (0, .nameAndType 317 537), (0, u "(Ljava/nio/charset/Charset;B[B)[B"), (21, .class_ 561), (1, u "jdk/internal/util/ArraysSupport"), (0, u "mismatch"), (12, .class_ 576), (0, u "java/lang/CharSequence"), (22, u "CASE_INSENSITIVE_ORDER"), (0, u "Ljava/util/Comparator;"), (6, .methodref 559 608), (0, .nameAndType 562 376), (15, .methodref 10 625), (0, .nameAndType 626 627), (0, u "startsWith"), (0, u "(Ljava/lang/String;I)Z"), (5, .methodref 10 634), (0, .nameAndType 635 636), (0, u "indexOf"), (0, u "(II)I"), (0, .methodref 107 638), (0, .nameAndType 635 639), (0, u "([BIII)I"), (125, u "(I)I"), (244, u "([C)V"), (42, .fieldref 1054 1055), (0, .class_ 1056), (0, .nameAndType 1057 1058), (0, u "jdk/internal/util/Preconditions"), (0, u "SIOOBE_FORMATTER"), (0, u "Ljava/util/function/BiFunction;"), (0, .methodref 1054 1060), (0, .nameAndType 501 1061), (0, u "(IILjava/util/function/BiFunction;)I"), (39, u "serialPersistentFields"), (0, u "[Ljava/io/ObjectStreamField;"), (0, .class_ 1104), (0, u "java/lang/String$CaseInsensitiveComparator"), (1, .class_ 1107), (0, u "java/io/Serializable"), (0, .class_ 1109), (0, u "java/lang/Comparable"), (0, .class_ 1111), (0, u "java/lang/constant/Constable"), (0, .class_ 1113), (0, u "java/lang/constant/ConstantDesc"), (2, u "serialVersionUID"), (0, u "J"), (3, u "REPL"), (0, u "C"), (2, u "LATIN1"), (1, u "UTF16"), (117, u "(Ljava/nio/charset/Charset;)[B"), (11, u "(Ljava/lang/String;)Z"), (14, u "endsWith")] 178

def k7m0 : Method := { name := "<init>", desc := "()V", sig := { parameters := [], returnType := none }, accessFlags := 1, code := none }
def k7c1 : Code := { maxStack := 5, maxLocals := 2, code := jdk_42_method_3_code, exceptionTable := #[], attributes := #[] }
def k7m1 : Method := { name := "<init>", desc := "([C)V", sig := { parameters := [(.array .char)], returnType := none }, accessFlags := 1, code := some k7c1 }
def k7c2 : Code := { maxStack := 4, maxLocals := 3, code := jdk_42_method_18_code, exceptionTable := #[], attributes := #[] }
def k7m2 : Method := { name := "encode", desc := "(Ljava/nio/charset/Charset;B[B)[B", sig := { parameters := [(.object "java/nio/charset/Charset"), .byte, (.array .byte)], returnType := some (.array .byte) }, accessFlags := 10, code := some k7c2 }
def k7c3 : Code := { maxStack := 3, maxLocals := 2, code := jdk_42_method_26_code, exceptionTable := #[], attributes := #[] }
def k7m3 : Method := { name := "encode8859_1", desc := "(B[B)[B", sig := { parameters := [.byte, (.array .byte)], returnType := some (.array .byte) }, accessFlags := 10, code := some k7c3 }
def k7c4 : Code := { maxStack := 5, maxLocals := 10, code := jdk_42_method_27_code, exceptionTable := #[], attributes := #[] }
def k7m4 : Method := { name := "encode8859_1", desc := "(B[BZ)[B", sig := { parameters := [.byte, (.array .byte), .boolean], returnType := some (.array .byte) }, accessFlags := 10, code := some k7c4 }
def k7c5 : Code := { maxStack := 2, maxLocals := 1, code := jdk_42_method_54_code, exceptionTable := #[], attributes := #[] }
def k7m5 : Method := { name := "length", desc := "()I", sig := { parameters := [], returnType := some .int }, accessFlags := 1, code := some k7c5 }
def k7c6 : Code := { maxStack := 2, maxLocals := 2, code := jdk_42_method_56_code, exceptionTable := #[], attributes := #[] }
def k7m6 : Method := { name := "charAt", desc := "(I)C", sig := { parameters := [.int], returnType := some .char }, accessFlags := 1, code := some k7c6 }
def k7c7 : Code := { maxStack := 3, maxLocals := 2, code := jdk_42_method_64_code, exceptionTable := #[], attributes := #[] }
def k7m7 : Method := { name := "getBytes", desc := "(Ljava/nio/charset/Charset;)[B", sig := { parameters := [(.object "java/nio/charset/Charset")], returnType := some (.array .byte) }, accessFlags := 1, code := some k7c7 }
def k7c8 : Code := { maxStack := 5, maxLocals := 8, code := jdk_42_method_75_code, exceptionTable := #[], attributes := #[] }
def k7m8 : Method := { name := "startsWith", desc := "(Ljava/lang/String;I)Z", sig := { parameters := [(.object "java/lang/String"), .int], returnType := some .boolean }, accessFlags := 1, code := some k7c8 }
def k7c9 : Code := { maxStack := 4, maxLocals := 2, code := jdk_42_method_77_code, exceptionTable := #[], attributes := #[] }
def k7m9 : Method := { name := "endsWith", desc := "(Ljava/lang/String;)Z", sig := { parameters := [(.object "java/lang/String")], returnType := some .boolean }, accessFlags := 1, code := some k7c9 }
def k7c10 : Code := { maxStack := 3, maxLocals := 2, code := jdk_42_method_79_code, exceptionTable := #[], attributes := #[] }
def k7m10 : Method := { name := "indexOf", desc := "(I)I", sig := { parameters := [.int], returnType := some .int }, accessFlags := 1, code := some k7c10 }
def k7c11 : Code := { maxStack := 4, maxLocals := 3, code := jdk_42_method_80_code, exceptionTable := #[], attributes := #[] }
def k7m11 : Method := { name := "indexOf", desc := "(II)I", sig := { parameters := [.int, .int], returnType := some .int }, accessFlags := 1, code := some k7c11 }
def k7c12 : Code := { maxStack := 4, maxLocals := 6, code := jdk_42_method_149_code, exceptionTable := #[], attributes := #[] }
def k7m12 : Method := { name := "<init>", desc := "([CIILjava/lang/Void;)V", sig := { parameters := [(.array .char), .int, .int, (.object "java/lang/Void")], returnType := none }, accessFlags := 2, code := some k7c12 }
def k7c13 : Code := { maxStack := 1, maxLocals := 1, code := jdk_42_method_152_code, exceptionTable := #[], attributes := #[] }
def k7m13 : Method := { name := "coder", desc := "()B", sig := { parameters := [], returnType := some .byte }, accessFlags := 0, code := some k7c13 }
def k7c14 : Code := { maxStack := 1, maxLocals := 1, code := jdk_42_method_154_code, exceptionTable := #[], attributes := #[] }
def k7m14 : Method := { name := "isLatin1", desc := "()Z", sig := { parameters := [], returnType := some .boolean }, accessFlags := 0, code := some k7c14 }
def k7c15 : Code := { maxStack := 3, maxLocals := 2, code := jdk_42_method_155_code, exceptionTable := #[], attributes := #[] }
def k7m15 : Method := { name := "checkIndex", desc := "(II)V", sig := { parameters := [.int, .int], returnType := none }, accessFlags := 8, code := some k7c15 }
/-- java/lang/String -/
def k7 : Class := { plain "java/lang/String" (some 0) with
  accessFlags := 49
  interfaces := #[2, 3, 4, 5, 6]
  cf := some (fileOf pool7 10 #[.nestMembers #[1103]] #[{ accessFlags := 1, nameIndex := 5, descriptorIndex := 6, attributes := #[] }, { accessFlags := 1, nameIndex := 5, descriptorIndex := 1010, attributes := #[] }, { accessFlags := 10, nameIndex := 317, descriptorIndex := 537, attributes := #[] }, { accessFlags := 10, nameIndex := 258, descriptorIndex := 259, attributes := #[] }, { accessFlags := 10, nameIndex := 258, descriptorIndex := 255, attributes := #[] }, { accessFlags := 1, nameIndex := 507, descriptorIndex := 334, attributes := #[] }, { accessFlags := 1, nameIndex := 497, descriptorIndex := 427, attributes := #[] }, { accessFlags := 1, nameIndex := 532, descriptorIndex := 1245, attributes := #[] }, { accessFlags := 1, nameIndex := 626, descriptorIndex := 627, attributes := #[] }, { accessFlags := 1, nameIndex := 1272, descriptorIndex := 1257, attributes := #[] }, { accessFlags := 1, nameIndex := 635, descriptorIndex := 765, attributes := #[] }, { accessFlags := 1, nameIndex := 635, descriptorIndex := 636, attributes := #[] }, { accessFlags := 2, nameIndex := 5, descriptorIndex := 29, attributes := #[] }, { accessFlags := 0, nameIndex := 17, descriptorIndex := 337, attributes := #[] }, { accessFlags := 0, nameIndex := 494, descriptorIndex := 142, attributes := #[] }, { accessFlags := 8, nameIndex := 501, descriptorIndex := 391, attributes := #[] }] 49 2 #[1106, 1108, 575, 1110, 1112] #[{ accessFlags := 18, nameIndex := 13, descriptorIndex := 14, attributes := #[] }, { accessFlags := 18, nameIndex := 17, descriptorIndex := 18, attributes := #[] }, { accessFlags := 2, nameIndex := 21, descriptorIndex := 22, attributes := #[] }, { accessFlags := 2, nameIndex := 25, descriptorIndex := 26, attributes := #[] }, { accessFlags := 26, nameIndex := 1116, descriptorIndex := 1117, attributes := #[] }, { accessFlags := 24, nameIndex := 40, descriptorIndex := 26, attributes := #[] }, { accessFlags := 26, nameIndex := 1101, descriptorIndex := 1102, attributes := #[] }, { accessFlags := 26, nameIndex := 1121, descriptorIndex := 1122, attributes := #[] }, { accessFlags := 25, nameIndex := 599, descriptorIndex := 600, attributes := #[] }, { accessFlags := 24, nameIndex := 1125, descriptorIndex := 18, attributes := #[] }, { accessFlags := 24, nameIndex := 1127, descriptorIndex := 18, attributes := #[] }])
  fields := #[{ name := "value", type := (.array .byte), accessFlags := 18, slot := 0, constantValue := 0 }, { name := "coder", type := .byte, accessFlags := 18, slot := 1, constantValue := 0 }, { name := "hash", type := .int, accessFlags := 2, slot := 2, constantValue := 0 }, { name := "hashIsZero", type := .boolean, accessFlags := 2, slot := 3, constantValue := 0 }, { name := "serialVersionUID", type := .long, accessFlags := 26, slot := 0, constantValue := 0 }, { name := "COMPACT_STRINGS", type := .boolean, accessFlags := 24, slot := 1, constantValue := 0 }, { name := "serialPersistentFields", type := (.array (.object "java/io/ObjectStreamField")), accessFlags := 26, slot := 2, constantValue := 0 }, { name := "REPL", type := .char, accessFlags := 26, slot := 3, constantValue := 0 }, { name := "CASE_INSENSITIVE_ORDER", type := (.object "java/util/Comparator"), accessFlags := 25, slot := 4, constantValue := 0 }, { name := "LATIN1", type := .byte, accessFlags := 24, slot := 5, constantValue := 0 }, { name := "UTF16", type := .byte, accessFlags := 24, slot := 6, constantValue := 0 }]
  methods := #[k7m0, k7m1, k7m2, k7m3, k7m4, k7m5, k7m6, k7m7, k7m8, k7m9, k7m10, k7m11, k7m12, k7m13, k7m14, k7m15]
  instanceTypes := #[(.array .byte), .byte, .int, .boolean]
  staticTypes := #[.long, .boolean, (.array (.object "java/io/ObjectStreamField")), .char, (.object "java/util/Comparator"), .byte, .byte]
  resolved := Array.replicate 1451 none
  statics := some 0 }

def pool8 : Array CpInfo := pool [(6, .class_ 8), (1, u "java/lang/Object"), (0, u "<init>"), (0, u "()V"), (1, .class_ 14), (1, u "java/lang/StringUTF16"), (31, u "$assertionsDisabled"), (0, u "Z"), (13, u "HI_BYTE_SHIFT"), (0, u "I"), (2, u "LO_BYTE_SHIFT"), (49, .methodref 12 116), (0, .nameAndType 117 118), (0, u "compress"), (0, u "([CI[BII)I"), (3, u "([CII)[B"), (138, u "coderFromArrayLen"), (0, u "([BI)B"), (106, .class_ 371), (1, u "java/lang/StringUTF16$LinesSpliterator"), (58, u "MAX_LENGTH"), (196, .class_ 628), (0, u "java/lang/StringUTF16$CodePointsSpliterator"), (0, .class_ 630), (0, u "java/lang/StringUTF16$CharsSpliterator")] 4

def k8m0 : Method := { name := "<init>", desc := "()V", sig := { parameters := [], returnType := none }, accessFlags := 0, code := none }
def k8c1 : Code := { maxStack := 2, maxLocals := 2, code := jdk_52_method_15_code, exceptionTable := #[], attributes := #[] }
def k8m1 : Method := { name := "coderFromArrayLen", desc := "([BI)B", sig := { parameters := [(.array .byte), .int], returnType := some .byte }, accessFlags := 8, code := some k8c1 }
def k8c2 : Code := { maxStack := 5, maxLocals := 6, code := jdk_52_method_16_code, exceptionTable := #[], attributes := #[] }
def k8m2 : Method := { name := "compress", desc := "([CII)[B", sig := { parameters := [(.array .char), .int, .int], returnType := some (.array .byte) }, accessFlags := 9, code := some k8c2 }
def k8c3 : Code := { maxStack := 3, maxLocals := 7, code := jdk_52_method_21_code, exceptionTable := #[], attributes := #[] }
def k8m3 : Method := { name := "compress", desc := "([CI[BII)I", sig := { parameters := [(.array .char), .int, (.array .byte), .int, .int], returnType := some .int }, accessFlags := 9, code := some k8c3 }
/-- java/lang/StringUTF16 -/
def k8 : Class := { plain "java/lang/StringUTF16" (some 0) with
  accessFlags := 48
  interfaces := #[]
  cf := some (fileOf pool8 12 #[.nestMembers #[627, 629, 369]] #[{ accessFlags := 0, nameIndex := 9, descriptorIndex := 10, attributes := #[] }, { accessFlags := 8, nameIndex := 261, descriptorIndex := 262, attributes := #[] }, { accessFlags := 9, nameIndex := 117, descriptorIndex := 122, attributes := #[] }, { accessFlags := 9, nameIndex := 117, descriptorIndex := 118, attributes := #[] }] 48 6 #[] #[{ accessFlags := 26, nameIndex := 61, descriptorIndex := 62, attributes := #[] }, { accessFlags := 26, nameIndex := 65, descriptorIndex := 62, attributes := #[] }, { accessFlags := 24, nameIndex := 430, descriptorIndex := 62, attributes := #[] }, { accessFlags := 4120, nameIndex := 46, descriptorIndex := 47, attributes := #[] }])
  fields := #[{ name := "HI_BYTE_SHIFT", type := .int, accessFlags := 26, slot := 0, constantValue := 0 }, { name := "LO_BYTE_SHIFT", type := .int, accessFlags := 26, slot := 1, constantValue := 0 }, { name := "MAX_LENGTH", type := .int, accessFlags := 24, slot := 2, constantValue := 0 }, { name := "$assertionsDisabled", type := .boolean, accessFlags := 4120, slot := 3, constantValue := 0 }]
  methods := #[k8m0, k8m1, k8m2, k8m3]
  instanceTypes := #[]
  staticTypes := #[.int, .int, .int, .boolean]
  resolved := Array.replicate 635 none
  statics := none }

def pool9 : Array CpInfo := pool [(2, .class_ 4), (1, u "java/lang/Object"), (0, u "<init>"), (0, u "()V"), (0, .string 8), (0, u "text"), (0, .methodref 10 11), (0, .class_ 12), (0, .nameAndType 13 14), (0, u "java/util/Objects"), (0, u "requireNonNull"), (0, u "(Ljava/lang/Object;Ljava/lang/String;)Ljava/lang/Object;"), (0, .methodref 16 17), (0, .class_ 18), (0, .nameAndType 19 20), (0, u "java/util/Base64"), (0, u "getDecoder"), (0, u "()Ljava/util/Base64$Decoder;"), (0, .methodref 22 23), (0, .class_ 24), (0, .nameAndType 25 26), (0, u "java/util/Base64$Decoder"), (0, u "decode"), (0, u "(Ljava/lang/String;)[B"), (0, .methodref 28 29), (0, .class_ 30), (0, .nameAndType 31 32), (0, u "com/example/drafts_under_key/draftsunderkey/crypto/StrictBase64"), (0, u "isCanonical"), (0, u "(Ljava/lang/String;)Z"), (11, .methodref 45 46), (0, .class_ 47), (0, .nameAndType 48 49), (0, u "java/lang/String"), (0, u "length"), (0, u "()I"), (0, .string 51), (0, u "=="), (0, .methodref 45 53), (0, .nameAndType 54 32), (0, u "endsWith"), (0, .string 56), (0, u "="), (0, .string 58), (0, u "ABCDEFGHIJKLMNOPQRSTUVWXYZabcdefghijklmnopqrstuvwxyz0123456789+/"), (0, .methodref 45 60), (0, .nameAndType 61 62), (0, u "charAt"), (0, u "(I)C"), (0, .methodref 45 64), (0, .nameAndType 65 66), (0, u "indexOf"), (0, u "(I)I"), (0, u "ALPHABET"), (0, u "Ljava/lang/String;"), (3, u "(Ljava/lang/String;Ljava/lang/String;)[B")] 20

def k9m0 : Method := { name := "<init>", desc := "()V", sig := { parameters := [], returnType := none }, accessFlags := 2, code := none }
def k9c1 : Code := { maxStack := 3, maxLocals := 3, code := prog_19_method_2_code, exceptionTable := #[{ startPc := 7, endPc := 23, handlerPc := 27, catchType := 33 }], attributes := #[] }
def k9m1 : Method := { name := "decode", desc := "(Ljava/lang/String;Ljava/lang/String;)[B", sig := { parameters := [(.object "java/lang/String"), (.object "java/lang/String")], returnType := some (.array .byte) }, accessFlags := 9, code := some k9c1 }
def k9c2 : Code := { maxStack := 4, maxLocals := 4, code := prog_19_method_3_code, exceptionTable := #[], attributes := #[] }
def k9m2 : Method := { name := "isCanonical", desc := "(Ljava/lang/String;)Z", sig := { parameters := [(.object "java/lang/String")], returnType := some .boolean }, accessFlags := 10, code := some k9c2 }
/-- com/example/drafts_under_key/draftsunderkey/crypto/StrictBase64 -/
def k9 : Class := { plain "com/example/drafts_under_key/draftsunderkey/crypto/StrictBase64" (some 0) with
  accessFlags := 49
  interfaces := #[]
  cf := some (fileOf pool9 28 #[] #[{ accessFlags := 2, nameIndex := 5, descriptorIndex := 6, attributes := #[] }, { accessFlags := 9, nameIndex := 25, descriptorIndex := 72, attributes := #[] }, { accessFlags := 10, nameIndex := 31, descriptorIndex := 32, attributes := #[] }] 49 2 #[] #[{ accessFlags := 26, nameIndex := 67, descriptorIndex := 68, attributes := #[] }])
  fields := #[{ name := "ALPHABET", type := (.object "java/lang/String"), accessFlags := 26, slot := 0, constantValue := 0 }]
  methods := #[k9m0, k9m1, k9m2]
  instanceTypes := #[]
  staticTypes := #[(.object "java/lang/String")]
  resolved := Array.replicate 93 none
  statics := none }

def pool10 : Array CpInfo := pool [(2, .class_ 4), (1, u "java/lang/Object"), (0, u "<init>"), (0, u "()V"), (35, .class_ 44), (1, u "java/util/Objects"), (0, u "requireNonNull"), (48, u "(Ljava/lang/Object;Ljava/lang/String;)Ljava/lang/Object;")] 89

def k10m0 : Method := { name := "<init>", desc := "()V", sig := { parameters := [], returnType := none }, accessFlags := 2, code := none }
def k10c1 : Code := { maxStack := 3, maxLocals := 2, code := jdk_31_method_11_code, exceptionTable := #[], attributes := #[] }
def k10m1 : Method := { name := "requireNonNull", desc := "(Ljava/lang/Object;Ljava/lang/String;)Ljava/lang/Object;", sig := { parameters := [(.object "java/lang/Object"), (.object "java/lang/String")], returnType := some (.object "java/lang/Object") }, accessFlags := 9, code := some k10c1 }
/-- java/util/Objects -/
def k10 : Class := { plain "java/util/Objects" (some 0) with
  accessFlags := 49
  interfaces := #[]
  cf := some (fileOf pool10 42 #[] #[{ accessFlags := 2, nameIndex := 5, descriptorIndex := 6, attributes := #[] }, { accessFlags := 9, nameIndex := 45, descriptorIndex := 94, attributes := #[] }] 49 2 #[] #[])
  fields := #[]
  methods := #[k10m0, k10m1]
  instanceTypes := #[]
  staticTypes := #[]
  resolved := Array.replicate 184 none
  statics := none }

def pool11 : Array CpInfo := pool [(2, .class_ 4), (1, u "java/lang/Object"), (0, u "<init>"), (0, u "()V"), (1, .class_ 10), (1, u "java/util/Base64$Encoder"), (0, u "RFC4648"), (14, .class_ 28), (1, u "java/util/Base64$Decoder"), (28, .fieldref 26 58), (0, .nameAndType 11 59), (0, u "Ljava/util/Base64$Decoder;"), (4, .class_ 65), (0, u "java/util/Base64"), (20, u "getDecoder"), (0, u "()Ljava/util/Base64$Decoder;"), (5, .class_ 94), (0, u "java/util/Base64$DecInputStream"), (0, .class_ 96), (0, u "java/util/Base64$EncOutputStream")] 5

def k11m0 : Method := { name := "<init>", desc := "()V", sig := { parameters := [], returnType := none }, accessFlags := 2, code := none }
def k11c1 : Code := { maxStack := 1, maxLocals := 0, code := jdk_2448_method_6_code, exceptionTable := #[], attributes := #[] }
def k11m1 : Method := { name := "getDecoder", desc := "()Ljava/util/Base64$Decoder;", sig := { parameters := [], returnType := some (.object "java/util/Base64$Decoder") }, accessFlags := 9, code := some k11c1 }
/-- java/util/Base64 -/
def k11 : Class := { plain "java/util/Base64" (some 0) with
  accessFlags := 33
  interfaces := #[]
  cf := some (fileOf pool11 64 #[.nestMembers #[93, 95, 26, 8]] #[{ accessFlags := 2, nameIndex := 5, descriptorIndex := 6, attributes := #[] }, { accessFlags := 9, nameIndex := 86, descriptorIndex := 87, attributes := #[] }] 33 2 #[] #[])
  fields := #[]
  methods := #[k11m0, k11m1]
  instanceTypes := #[]
  staticTypes := #[]
  resolved := Array.replicate 102 none
  statics := none }

def pool12 : Array CpInfo := pool [(2, .class_ 4), (1, u "java/lang/Object"), (2, .fieldref 8 9), (0, .class_ 10), (0, .nameAndType 11 12), (0, u "java/util/Base64$Decoder"), (0, u "isURL"), (0, u "Z"), (0, .fieldref 8 14), (0, .nameAndType 15 12), (0, u "isMIME"), (0, .methodref 8 17), (0, .nameAndType 18 19), (0, u "decodedOutLength"), (0, u "([BII)I"), (0, .methodref 8 21), (0, .nameAndType 22 23), (0, u "decode0"), (0, u "([BII[B)I"), (6, .fieldref 31 32), (0, .class_ 33), (0, .nameAndType 34 35), (0, u "sun/nio/cs/ISO_8859_1"), (0, u "INSTANCE"), (0, u "Lsun/nio/cs/ISO_8859_1;"), (0, .methodref 37 38), (0, .class_ 39), (0, .nameAndType 40 41), (0, u "java/lang/String"), (0, u "getBytes"), (0, u "(Ljava/nio/charset/Charset;)[B"), (0, .methodref 8 43), (0, .nameAndType 44 45), (0, u "decode"), (0, u "([B)[B"), (51, u "fromBase64URL"), (0, u "[I"), (0, .fieldref 8 100), (0, .nameAndType 101 98), (0, u "fromBase64"), (5, .long 3), (1, .long 4), (1, .methodref 8 112), (0, .nameAndType 113 114), (0, u "decodeBlock"), (0, u "([BII[BIZZ)I"), (45, u "RFC4648"), (0, u "Ljava/util/Base64$Decoder;"), (2, u "RFC4648_URLSAFE"), (2, u "RFC2045"), (11, u "(Ljava/lang/String;)[B"), (40, .class_ 221), (0, u "java/util/Base64")] 4

def k12c0 : Code := { maxStack := 5, maxLocals := 4, code := jdk_2450_method_2_code, exceptionTable := #[], attributes := #[] }
def k12m0 : Method := { name := "decode", desc := "([B)[B", sig := { parameters := [(.array .byte)], returnType := some (.array .byte) }, accessFlags := 1, code := some k12c0 }
def k12c1 : Code := { maxStack := 3, maxLocals := 2, code := jdk_2450_method_3_code, exceptionTable := #[], attributes := #[] }
def k12m1 : Method := { name := "decode", desc := "(Ljava/lang/String;)[B", sig := { parameters := [(.object "java/lang/String")], returnType := some (.array .byte) }, accessFlags := 1, code := some k12c1 }
def k12c2 : Code := { maxStack := 5, maxLocals := 9, code := jdk_2450_method_7_code, exceptionTable := #[], attributes := #[] }
def k12m2 : Method := { name := "decodedOutLength", desc := "([BII)I", sig := { parameters := [(.array .byte), .int, .int], returnType := some .int }, accessFlags := 2, code := some k12c2 }
def k12c3 : Code := { maxStack := 4, maxLocals := 16, code := jdk_2450_method_8_code, exceptionTable := #[], attributes := #[] }
def k12m3 : Method := { name := "decodeBlock", desc := "([BII[BIZZ)I", sig := { parameters := [(.array .byte), .int, .int, (.array .byte), .int, .boolean, .boolean], returnType := some .int }, accessFlags := 2, code := some k12c3 }
def k12c4 : Code := { maxStack := 8, maxLocals := 11, code := jdk_2450_method_9_code, exceptionTable := #[], attributes := #[] }
def k12m4 : Method := { name := "decode0", desc := "([BII[B)I", sig := { parameters := [(.array .byte), .int, .int, (.array .byte)], returnType := some .int }, accessFlags := 2, code := some k12c4 }
/-- java/util/Base64$Decoder -/
def k12 : Class := { plain "java/util/Base64$Decoder" (some 0) with
  accessFlags := 33
  interfaces := #[]
  cf := some (fileOf pool12 8 #[.nestHost 220] #[{ accessFlags := 1, nameIndex := 44, descriptorIndex := 45, attributes := #[] }, { accessFlags := 1, nameIndex := 44, descriptorIndex := 179, attributes := #[] }, { accessFlags := 2, nameIndex := 18, descriptorIndex := 19, attributes := #[] }, { accessFlags := 2, nameIndex := 113, descriptorIndex := 114, attributes := #[] }, { accessFlags := 2, nameIndex := 22, descriptorIndex := 23, attributes := #[] }] 33 2 #[] #[{ accessFlags := 18, nameIndex := 11, descriptorIndex := 12, attributes := #[] }, { accessFlags := 18, nameIndex := 15, descriptorIndex := 12, attributes := #[] }, { accessFlags := 26, nameIndex := 101, descriptorIndex := 98, attributes := #[] }, { accessFlags := 26, nameIndex := 97, descriptorIndex := 98, attributes := #[] }, { accessFlags := 24, nameIndex := 160, descriptorIndex := 161, attributes := #[] }, { accessFlags := 24, nameIndex := 164, descriptorIndex := 161, attributes := #[] }, { accessFlags := 24, nameIndex := 167, descriptorIndex := 161, attributes := #[] }])
  fields := #[{ name := "isURL", type := .boolean, accessFlags := 18, slot := 0, constantValue := 0 }, { name := "isMIME", type := .boolean, accessFlags := 18, slot := 1, constantValue := 0 }, { name := "fromBase64", type := (.array .int), accessFlags := 26, slot := 0, constantValue := 0 }, { name := "fromBase64URL", type := (.array .int), accessFlags := 26, slot := 1, constantValue := 0 }, { name := "RFC4648", type := (.object "java/util/Base64$Decoder"), accessFlags := 24, slot := 2, constantValue := 0 }, { name := "RFC4648_URLSAFE", type := (.object "java/util/Base64$Decoder"), accessFlags := 24, slot := 3, constantValue := 0 }, { name := "RFC2045", type := (.object "java/util/Base64$Decoder"), accessFlags := 24, slot := 4, constantValue := 0 }]
  methods := #[k12m0, k12m1, k12m2, k12m3, k12m4]
  instanceTypes := #[.boolean, .boolean]
  staticTypes := #[(.array .int), (.array .int), (.object "java/util/Base64$Decoder"), (.object "java/util/Base64$Decoder"), (.object "java/util/Base64$Decoder")]
  resolved := Array.replicate 226 none
  statics := some 1 }

def pool13 : Array CpInfo := pool [(18, .class_ 20), (1, u "java/nio/charset/Charset"), (0, u "cache1"), (0, u "[Ljava/lang/Object;"), (2, u "cache2"), (0, .class_ 27), (0, u "java/lang/Object"), (0, .class_ 29), (0, u "java/nio/charset/Charset$1"), (4, .class_ 36), (1, u "java/nio/charset/Charset$ThreadTrackHolder"), (21, .class_ 59), (0, u "java/nio/charset/Charset$2"), (11, .class_ 73), (1, u "java/nio/charset/Charset$ExtendedProviderHolder"), (22, u "standardProvider"), (0, u "Ljava/nio/charset/spi/CharsetProvider;"), (29, u "name"), (7, .class_ 136), (0, u "java/nio/charset/Charset$3"), (5, u "defaultCharset"), (0, u "Ljava/nio/charset/Charset;"), (14, u "zeroAliases"), (0, u "[Ljava/lang/String;"), (29, u "Ljava/lang/String;"), (2, u "aliases"), (2, u "aliasSet"), (0, u "Ljava/util/Set;"), (82, .class_ 280), (0, u "java/lang/Comparable"), (84, .class_ 366), (0, u "java/nio/charset/Charset$ExtendedProviderHolder$1")] 3

/-- java/nio/charset/Charset -/
def k13 : Class := { plain "java/nio/charset/Charset" (some 0) with
  accessFlags := 1057
  interfaces := #[3]
  cf := some (fileOf pool13 18 #[.nestMembers #[71, 365, 34, 135, 58, 28]] #[] 1057 26 #[279] #[{ accessFlags := 26, nameIndex := 96, descriptorIndex := 97, attributes := #[] }, { accessFlags := 26, nameIndex := 158, descriptorIndex := 159, attributes := #[] }, { accessFlags := 74, nameIndex := 21, descriptorIndex := 22, attributes := #[] }, { accessFlags := 74, nameIndex := 25, descriptorIndex := 22, attributes := #[] }, { accessFlags := 10, nameIndex := 142, descriptorIndex := 143, attributes := #[] }, { accessFlags := 18, nameIndex := 127, descriptorIndex := 189, attributes := #[] }, { accessFlags := 18, nameIndex := 192, descriptorIndex := 159, attributes := #[] }, { accessFlags := 2, nameIndex := 195, descriptorIndex := 196, attributes := #[] }])
  fields := #[{ name := "standardProvider", type := (.object "java/nio/charset/spi/CharsetProvider"), accessFlags := 26, slot := 0, constantValue := 0 }, { name := "zeroAliases", type := (.array (.object "java/lang/String")), accessFlags := 26, slot := 1, constantValue := 0 }, { name := "cache1", type := (.array (.object "java/lang/Object")), accessFlags := 74, slot := 2, constantValue := 0 }, { name := "cache2", type := (.array (.object "java/lang/Object")), accessFlags := 74, slot := 3, constantValue := 0 }, { name := "defaultCharset", type := (.object "java/nio/charset/Charset"), accessFlags := 10, slot := 4, constantValue := 0 }, { name := "name", type := (.object "java/lang/String"), accessFlags := 18, slot := 0, constantValue := 0 }, { name := "aliases", type := (.array (.object "java/lang/String")), accessFlags := 18, slot := 1, constantValue := 0 }, { name := "aliasSet", type := (.object "java/util/Set"), accessFlags := 2, slot := 2, constantValue := 0 }]
  methods := #[]
  instanceTypes := #[(.object "java/lang/String"), (.array (.object "java/lang/String")), (.object "java/util/Set")]
  staticTypes := #[(.object "java/nio/charset/spi/CharsetProvider"), (.array (.object "java/lang/String")), (.array (.object "java/lang/Object")), (.array (.object "java/lang/Object")), (.object "java/nio/charset/Charset")]
  resolved := Array.replicate 370 none
  statics := none }

def pool14 : Array CpInfo := pool [(1, .class_ 2), (0, u "sun/nio/cs/HistoricallyNamedCharset"), (0, .class_ 4), (0, u "java/lang/Object")] 4

/-- sun/nio/cs/HistoricallyNamedCharset -/
def k14 : Class := { plain "sun/nio/cs/HistoricallyNamedCharset" (some 0) with
  accessFlags := 1537
  interfaces := #[]
  cf := some (fileOf pool14 1 #[] #[] 1537 3 #[] #[])
  fields := #[]
  methods := #[]
  instanceTypes := #[]
  staticTypes := #[]
  resolved := Array.replicate 9 none
  statics := none }

def pool15 : Array CpInfo := pool [(10, .class_ 12), (1, u "java/nio/charset/Charset"), (0, u "<init>"), (5, .class_ 20), (0, u "sun/nio/cs/ISO_8859_1"), (0, .class_ 22), (0, u "sun/nio/cs/ISO_8859_1$Decoder"), (3, .class_ 27), (0, u "sun/nio/cs/ISO_8859_1$Encoder"), (3, u "()V"), (2, u "INSTANCE"), (0, u "Lsun/nio/cs/ISO_8859_1;"), (0, .class_ 37), (0, u "sun/nio/cs/HistoricallyNamedCharset")] 22

def k15m0 : Method := { name := "<init>", desc := "()V", sig := { parameters := [], returnType := none }, accessFlags := 1, code := none }
/-- sun/nio/cs/ISO_8859_1 -/
def k15 : Class := { plain "sun/nio/cs/ISO_8859_1" (some 13) with
  accessFlags := 33
  interfaces := #[14]
  cf := some (fileOf pool15 19 #[.nestMembers #[26, 21]] #[{ accessFlags := 1, nameIndex := 13, descriptorIndex := 31, attributes := #[] }] 33 10 #[36] #[{ accessFlags := 25, nameIndex := 34, descriptorIndex := 35, attributes := #[] }])
  fields := #[{ name := "INSTANCE", type := (.object "sun/nio/cs/ISO_8859_1"), accessFlags := 25, slot := 0, constantValue := 0 }]
  methods := #[k15m0]
  instanceTypes := #[(.object "java/lang/String"), (.array (.object "java/lang/String")), (.object "java/util/Set")]
  staticTypes := #[(.object "sun/nio/cs/ISO_8859_1")]
  resolved := Array.replicate 60 none
  statics := some 2 }

def pool16 : Array CpInfo := pool [(2, .class_ 4), (1, u "java/nio/charset/Charset"), (130, .class_ 136), (0, u "sun/nio/cs/Unicode"), (0, .class_ 138), (0, u "sun/nio/cs/HistoricallyNamedCharset")] 15

/-- sun/nio/cs/Unicode -/
def k16 : Class := { plain "sun/nio/cs/Unicode" (some 13) with
  accessFlags := 1056
  interfaces := #[14]
  cf := some (fileOf pool16 135 #[] #[] 1056 2 #[137] #[])
  fields := #[]
  methods := #[]
  instanceTypes := #[(.object "java/lang/String"), (.array (.object "java/lang/String")), (.object "java/util/Set")]
  staticTypes := #[]
  resolved := Array.replicate 154 none
  statics := none }

def pool17 : Array CpInfo := pool [(10, .class_ 12), (1, u "sun/nio/cs/Unicode"), (0, u "<init>"), (3, .class_ 18), (0, u "sun/nio/cs/UTF_8$Decoder"), (3, .class_ 23), (0, u "sun/nio/cs/UTF_8$Encoder"), (15, .class_ 40), (0, u "sun/nio/cs/UTF_8"), (2, u "()V"), (2, u "INSTANCE"), (0, u "Lsun/nio/cs/UTF_8;"), (8, u "JLA"), (0, u "Ljdk/internal/access/JavaLangAccess;")] 26

def k17m0 : Method := { name := "<init>", desc := "()V", sig := { parameters := [], returnType := none }, accessFlags := 1, code := none }
/-- sun/nio/cs/UTF_8 -/
def k17 : Class := { plain "sun/nio/cs/UTF_8" (some 16) with
  accessFlags := 49
  interfaces := #[]
  cf := some (fileOf pool17 39 #[.nestMembers #[22, 17]] #[{ accessFlags := 1, nameIndex := 13, descriptorIndex := 43, attributes := #[] }] 49 10 #[] #[{ accessFlags := 25, nameIndex := 46, descriptorIndex := 47, attributes := #[] }, { accessFlags := 26, nameIndex := 56, descriptorIndex := 57, attributes := #[] }])
  fields := #[{ name := "INSTANCE", type := (.object "sun/nio/cs/UTF_8"), accessFlags := 25, slot := 0, constantValue := 0 }, { name := "JLA", type := (.object "jdk/internal/access/JavaLangAccess"), accessFlags := 26, slot := 1, constantValue := 0 }]
  methods := #[k17m0]
  instanceTypes := #[(.object "java/lang/String"), (.array (.object "java/lang/String")), (.object "java/util/Set")]
  staticTypes := #[(.object "sun/nio/cs/UTF_8"), (.object "jdk/internal/access/JavaLangAccess")]
  resolved := Array.replicate 84 none
  statics := some 3 }

def pool18 : Array CpInfo := pool [(1, .class_ 2), (0, u "java/lang/Cloneable"), (0, .class_ 4), (0, u "java/lang/Object")] 2

/-- java/lang/Cloneable -/
def k18 : Class := { plain "java/lang/Cloneable" (some 0) with
  accessFlags := 1537
  interfaces := #[]
  cf := some (fileOf pool18 1 #[] #[] 1537 3 #[] #[])
  fields := #[]
  methods := #[]
  instanceTypes := #[]
  staticTypes := #[]
  resolved := Array.replicate 7 none
  statics := none }

def pool19 : Array CpInfo := pool [(9, u "<init>"), (6, .class_ 18), (1, u "java/lang/Object"), (0, u "()V"), (1, .class_ 23), (1, u "jdk/internal/util/ArraysSupport"), (0, u "LOG2_ARRAY_LONG_INDEX_SCALE"), (0, u "I"), (2, u "U"), (0, u "Ljdk/internal/misc/Unsafe;"), (8, u "BIG_ENDIAN"), (0, u "Z"), (8, u "LOG2_BYTE_BIT_SIZE"), (4, u "LOG2_ARRAY_INT_INDEX_SCALE"), (54, u "JLA"), (0, u "Ljdk/internal/access/JavaLangAccess;"), (11, u "LOG2_ARRAY_BOOLEAN_INDEX_SCALE"), (9, u "LOG2_ARRAY_BYTE_INDEX_SCALE"), (5, u "LOG2_ARRAY_CHAR_INDEX_SCALE"), (5, u "LOG2_ARRAY_SHORT_INDEX_SCALE"), (5, u "mismatch"), (12, u "LOG2_ARRAY_FLOAT_INDEX_SCALE"), (24, u "LOG2_ARRAY_DOUBLE_INDEX_SCALE"), (89, u "T_BOOLEAN"), (2, u "T_CHAR"), (1, u "T_FLOAT"), (1, u "T_DOUBLE"), (1, u "T_BYTE"), (1, u "T_SHORT"), (1, u "T_INT"), (1, u "T_LONG"), (1, u "SOFT_MAX_ARRAY_LENGTH"), (42, u "([BI[BII)I")] 40

def k19m0 : Method := { name := "<init>", desc := "()V", sig := { parameters := [], returnType := none }, accessFlags := 2, code := none }
def k19c1 : Code := { maxStack := 8, maxLocals := 8, code := jdk_48_method_14_code, exceptionTable := #[], attributes := #[] }
def k19m1 : Method := { name := "mismatch", desc := "([BI[BII)I", sig := { parameters := [(.array .byte), .int, (.array .byte), .int, .int], returnType := some .int }, accessFlags := 9, code := some k19c1 }
/-- jdk/internal/util/ArraysSupport -/
def k19 : Class := { plain "jdk/internal/util/ArraysSupport" (some 0) with
  accessFlags := 33
  interfaces := #[]
  cf := some (fileOf pool19 21 #[] #[{ accessFlags := 2, nameIndex := 9, descriptorIndex := 19, attributes := #[] }, { accessFlags := 9, nameIndex := 149, descriptorIndex := 337, attributes := #[] }] 33 16 #[] #[{ accessFlags := 24, nameIndex := 28, descriptorIndex := 29, attributes := #[] }, { accessFlags := 26, nameIndex := 38, descriptorIndex := 39, attributes := #[] }, { accessFlags := 25, nameIndex := 121, descriptorIndex := 25, attributes := #[] }, { accessFlags := 25, nameIndex := 131, descriptorIndex := 25, attributes := #[] }, { accessFlags := 25, nameIndex := 137, descriptorIndex := 25, attributes := #[] }, { accessFlags := 25, nameIndex := 143, descriptorIndex := 25, attributes := #[] }, { accessFlags := 25, nameIndex := 53, descriptorIndex := 25, attributes := #[] }, { accessFlags := 25, nameIndex := 24, descriptorIndex := 25, attributes := #[] }, { accessFlags := 25, nameIndex := 162, descriptorIndex := 25, attributes := #[] }, { accessFlags := 25, nameIndex := 187, descriptorIndex := 25, attributes := #[] }, { accessFlags := 26, nameIndex := 48, descriptorIndex := 25, attributes := #[] }, { accessFlags := 25, nameIndex := 277, descriptorIndex := 25, attributes := #[] }, { accessFlags := 25, nameIndex := 280, descriptorIndex := 25, attributes := #[] }, { accessFlags := 25, nameIndex := 282, descriptorIndex := 25, attributes := #[] }, { accessFlags := 25, nameIndex := 284, descriptorIndex := 25, attributes := #[] }, { accessFlags := 25, nameIndex := 286, descriptorIndex := 25, attributes := #[] }, { accessFlags := 25, nameIndex := 288, descriptorIndex := 25, attributes := #[] }, { accessFlags := 25, nameIndex := 290, descriptorIndex := 25, attributes := #[] }, { accessFlags := 25, nameIndex := 292, descriptorIndex := 25, attributes := #[] }, { accessFlags := 26, nameIndex := 108, descriptorIndex := 109, attributes := #[] }, { accessFlags := 25, nameIndex := 294, descriptorIndex := 25, attributes := #[] }])
  fields := #[{ name := "U", type := (.object "jdk/internal/misc/Unsafe"), accessFlags := 24, slot := 0, constantValue := 0 }, { name := "BIG_ENDIAN", type := .boolean, accessFlags := 26, slot := 1, constantValue := 0 }, { name := "LOG2_ARRAY_BOOLEAN_INDEX_SCALE", type := .int, accessFlags := 25, slot := 2, constantValue := 0 }, { name := "LOG2_ARRAY_BYTE_INDEX_SCALE", type := .int, accessFlags := 25, slot := 3, constantValue := 0 }, { name := "LOG2_ARRAY_CHAR_INDEX_SCALE", type := .int, accessFlags := 25, slot := 4, constantValue := 0 }, { name := "LOG2_ARRAY_SHORT_INDEX_SCALE", type := .int, accessFlags := 25, slot := 5, constantValue := 0 }, { name := "LOG2_ARRAY_INT_INDEX_SCALE", type := .int, accessFlags := 25, slot := 6, constantValue := 0 }, { name := "LOG2_ARRAY_LONG_INDEX_SCALE", type := .int, accessFlags := 25, slot := 7, constantValue := 0 }, { name := "LOG2_ARRAY_FLOAT_INDEX_SCALE", type := .int, accessFlags := 25, slot := 8, constantValue := 0 }, { name := "LOG2_ARRAY_DOUBLE_INDEX_SCALE", type := .int, accessFlags := 25, slot := 9, constantValue := 0 }, { name := "LOG2_BYTE_BIT_SIZE", type := .int, accessFlags := 26, slot := 10, constantValue := 0 }, { name := "T_BOOLEAN", type := .int, accessFlags := 25, slot := 11, constantValue := 0 }, { name := "T_CHAR", type := .int, accessFlags := 25, slot := 12, constantValue := 0 }, { name := "T_FLOAT", type := .int, accessFlags := 25, slot := 13, constantValue := 0 }, { name := "T_DOUBLE", type := .int, accessFlags := 25, slot := 14, constantValue := 0 }, { name := "T_BYTE", type := .int, accessFlags := 25, slot := 15, constantValue := 0 }, { name := "T_SHORT", type := .int, accessFlags := 25, slot := 16, constantValue := 0 }, { name := "T_INT", type := .int, accessFlags := 25, slot := 17, constantValue := 0 }, { name := "T_LONG", type := .int, accessFlags := 25, slot := 18, constantValue := 0 }, { name := "JLA", type := (.object "jdk/internal/access/JavaLangAccess"), accessFlags := 26, slot := 19, constantValue := 0 }, { name := "SOFT_MAX_ARRAY_LENGTH", type := .int, accessFlags := 25, slot := 20, constantValue := 0 }]
  methods := #[k19m0, k19m1]
  instanceTypes := #[]
  staticTypes := #[(.object "jdk/internal/misc/Unsafe"), .boolean, .int, .int, .int, .int, .int, .int, .int, .int, .int, .int, .int, .int, .int, .int, .int, .int, .int, (.object "jdk/internal/access/JavaLangAccess"), .int]
  resolved := Array.replicate 378 none
  statics := none }

def pool20 : Array CpInfo := pool [(1, .class_ 2), (0, u "java/lang/String"), (1, .class_ 6), (1, u "java/lang/Object"), (0, u "<init>"), (0, u "()V"), (0, .methodref 1 10), (0, .nameAndType 11 12), (0, u "checkIndex"), (0, u "(II)V"), (1, .class_ 16), (1, u "java/lang/StringLatin1"), (21, .methodref 39 40), (0, .class_ 41), (0, .nameAndType 42 43), (0, u "java/lang/Math"), (0, u "min"), (0, u "(II)I"), (9, u "([BI)C"), (34, .methodref 14 89), (0, .nameAndType 90 91), (0, u "canEncode"), (0, u "(I)Z"), (0, .methodref 39 93), (0, .nameAndType 94 43), (0, u "max"), (0, .methodref 14 96), (0, .nameAndType 97 98), (0, u "indexOfChar"), (0, u "([BIII)I"), (2, u "indexOf"), (19, u "$assertionsDisabled"), (0, u "Z"), (98, .class_ 223), (1, u "java/lang/StringLatin1$LinesSpliterator"), (28, u "charAt"), (137, .class_ 391), (0, u "java/lang/StringLatin1$CharsSpliterator")] 3

def k20m0 : Method := { name := "<init>", desc := "()V", sig := { parameters := [], returnType := none }, accessFlags := 0, code := none }
def k20c1 : Code := { maxStack := 2, maxLocals := 2, code := jdk_43_method_2_code, exceptionTable := #[], attributes := #[] }
def k20m1 : Method := { name := "charAt", desc := "([BI)C", sig := { parameters := [(.array .byte), .int], returnType := some .char }, accessFlags := 9, code := some k20c1 }
def k20c2 : Code := { maxStack := 2, maxLocals := 1, code := jdk_43_method_4_code, exceptionTable := #[], attributes := #[] }
def k20m2 : Method := { name := "canEncode", desc := "(I)Z", sig := { parameters := [.int], returnType := some .boolean }, accessFlags := 9, code := some k20c2 }
def k20c3 : Code := { maxStack := 4, maxLocals := 4, code := jdk_43_method_22_code, exceptionTable := #[], attributes := #[] }
def k20m3 : Method := { name := "indexOf", desc := "([BIII)I", sig := { parameters := [(.array .byte), .int, .int, .int], returnType := some .int }, accessFlags := 9, code := some k20c3 }
def k20c4 : Code := { maxStack := 2, maxLocals := 6, code := jdk_43_method_23_code, exceptionTable := #[], attributes := #[] }
def k20m4 : Method := { name := "indexOfChar", desc := "([BIII)I", sig := { parameters := [(.array .byte), .int, .int, .int], returnType := some .int }, accessFlags := 10, code := some k20c4 }
/-- java/lang/StringLatin1 -/
def k20 : Class := { plain "java/lang/StringLatin1" (some 0) with
  accessFlags := 48
  interfaces := #[]
  cf := some (fileOf pool20 14 #[.nestMembers #[390, 221]] #[{ accessFlags := 0, nameIndex := 7, descriptorIndex := 8, attributes := #[] }, { accessFlags := 9, nameIndex := 252, descriptorIndex := 53, attributes := #[] }, { accessFlags := 9, nameIndex := 90, descriptorIndex := 91, attributes := #[] }, { accessFlags := 9, nameIndex := 101, descriptorIndex := 98, attributes := #[] }, { accessFlags := 10, nameIndex := 97, descriptorIndex := 98, attributes := #[] }] 48 4 #[] #[{ accessFlags := 4120, nameIndex := 121, descriptorIndex := 122, attributes := #[] }])
  fields := #[{ name := "$assertionsDisabled", type := .boolean, accessFlags := 4120, slot := 0, constantValue := 0 }]
  methods := #[k20m0, k20m1, k20m2, k20m3, k20m4]
  instanceTypes := #[]
  staticTypes := #[.boolean]
  resolved := Array.replicate 395 none
  statics := none }

def pool21 : Array CpInfo := pool [(2, .class_ 4), (1, u "java/lang/Object"), (0, u "<init>"), (0, u "()V"), (17, .class_ 26), (1, u "jdk/internal/util/Preconditions"), (6, u "checkIndex"), (21, .class_ 56), (0, u "jdk/internal/util/Preconditions$4"), (57, .class_ 115), (0, u "jdk/internal/util/Preconditions$1"), (7, u "SIOOBE_FORMATTER"), (0, u "Ljava/util/function/BiFunction;"), (0, .class_ 126), (0, u "jdk/internal/util/Preconditions$2"), (3, u "AIOOBE_FORMATTER"), (0, .class_ 132), (0, u "jdk/internal/util/Preconditions$3"), (3, u "IOOBE_FORMATTER"), (41, u "(IILjava/util/function/BiFunction;)I")] 15

def k21m0 : Method := { name := "<init>", desc := "()V", sig := { parameters := [], returnType := none }, accessFlags := 1, code := none }
def k21c1 : Code := { maxStack := 3, maxLocals := 3, code := jdk_41_method_11_code, exceptionTable := #[], attributes := #[] }
def k21m1 : Method := { name := "checkIndex", desc := "(IILjava/util/function/BiFunction;)I", sig := { parameters := [.int, .int, (.object "java/util/function/BiFunction")], returnType := some .int }, accessFlags := 9, code := some k21c1 }
/-- jdk/internal/util/Preconditions -/
def k21 : Class := { plain "jdk/internal/util/Preconditions" (some 0) with
  accessFlags := 33
  interfaces := #[]
  cf := some (fileOf pool21 24 #[.nestMembers #[55, 131, 125, 114]] #[{ accessFlags := 1, nameIndex := 5, descriptorIndex := 6, attributes := #[] }, { accessFlags := 9, nameIndex := 33, descriptorIndex := 178, attributes := #[] }] 33 2 #[] #[{ accessFlags := 25, nameIndex := 123, descriptorIndex := 124, attributes := #[] }, { accessFlags := 25, nameIndex := 130, descriptorIndex := 124, attributes := #[] }, { accessFlags := 25, nameIndex := 136, descriptorIndex := 124, attributes := #[] }])
  fields := #[{ name := "SIOOBE_FORMATTER", type := (.object "java/util/function/BiFunction"), accessFlags := 25, slot := 0, constantValue := 0 }, { name := "AIOOBE_FORMATTER", type := (.object "java/util/function/BiFunction"), accessFlags := 25, slot := 1, constantValue := 0 }, { name := "IOOBE_FORMATTER", type := (.object "java/util/function/BiFunction"), accessFlags := 25, slot := 2, constantValue := 0 }]
  methods := #[k21m0, k21m1]
  instanceTypes := #[]
  staticTypes := #[(.object "java/util/function/BiFunction"), (.object "java/util/function/BiFunction"), (.object "java/util/function/BiFunction")]
  resolved := Array.replicate 194 none
  statics := some 4 }

def pool22 : Array CpInfo := pool [(1, .class_ 2), (0, u "java/lang/Math"), (1, .class_ 6), (1, u "java/lang/Object"), (0, u "<init>"), (0, u "()V"), (89, .class_ 100), (1, u "java/lang/Math$RandomNumberGeneratorHolder"), (71, u "negativeZeroFloatBits"), (0, u "J"), (2, u "negativeZeroDoubleBits"), (21, u "max"), (2, u "min"), (43, u "$assertionsDisabled"), (0, u "Z"), (88, u "(II)I"), (2, u "twoToTheDoubleScaleDown"), (0, u "D"), (4, u "twoToTheDoubleScaleUp"), (9, u "E"), (3, u "PI"), (2, u "TAU"), (2, u "DEGREES_TO_RADIANS"), (0, u "RADIANS_TO_DEGREES")] 94

def k22m0 : Method := { name := "<init>", desc := "()V", sig := { parameters := [], returnType := none }, accessFlags := 2, code := none }
def k22c1 : Code := { maxStack := 2, maxLocals := 2, code := jdk_29_method_65_code, exceptionTable := #[], attributes := #[] }
def k22m1 : Method := { name := "max", desc := "(II)I", sig := { parameters := [.int, .int], returnType := some .int }, accessFlags := 9, code := some k22c1 }
def k22c2 : Code := { maxStack := 2, maxLocals := 2, code := jdk_29_method_69_code, exceptionTable := #[], attributes := #[] }
def k22m2 : Method := { name := "min", desc := "(II)I", sig := { parameters := [.int, .int], returnType := some .int }, accessFlags := 9, code := some k22c2 }
/-- java/lang/Math -/
def k22 : Class := { plain "java/lang/Math" (some 0) with
  accessFlags := 49
  interfaces := #[]
  cf := some (fileOf pool22 1 #[.nestMembers #[98]] #[{ accessFlags := 2, nameIndex := 7, descriptorIndex := 8, attributes := #[] }, { accessFlags := 9, nameIndex := 198, descriptorIndex := 335, attributes := #[] }, { accessFlags := 9, nameIndex := 201, descriptorIndex := 335, attributes := #[] }] 49 4 #[] #[{ accessFlags := 25, nameIndex := 354, descriptorIndex := 339, attributes := #[] }, { accessFlags := 25, nameIndex := 358, descriptorIndex := 339, attributes := #[] }, { accessFlags := 25, nameIndex := 361, descriptorIndex := 339, attributes := #[] }, { accessFlags := 26, nameIndex := 364, descriptorIndex := 339, attributes := #[] }, { accessFlags := 26, nameIndex := 365, descriptorIndex := 339, attributes := #[] }, { accessFlags := 26, nameIndex := 172, descriptorIndex := 173, attributes := #[] }, { accessFlags := 26, nameIndex := 176, descriptorIndex := 173, attributes := #[] }, { accessFlags := 8, nameIndex := 344, descriptorIndex := 339, attributes := #[] }, { accessFlags := 8, nameIndex := 338, descriptorIndex := 339, attributes := #[] }, { accessFlags := 4120, nameIndex := 245, descriptorIndex := 246, attributes := #[] }])
  fields := #[{ name := "E", type := .double, accessFlags := 25, slot := 0, constantValue := 0 }, { name := "PI", type := .double, accessFlags := 25, slot := 1, constantValue := 0 }, { name := "TAU", type := .double, accessFlags := 25, slot := 2, constantValue := 0 }, { name := "DEGREES_TO_RADIANS", type := .double, accessFlags := 26, slot := 3, constantValue := 0 }, { name := "RADIANS_TO_DEGREES", type := .double, accessFlags := 26, slot := 4, constantValue := 0 }, { name := "negativeZeroFloatBits", type := .long, accessFlags := 26, slot := 5, constantValue := 0 }, { name := "negativeZeroDoubleBits", type := .long, accessFlags := 26, slot := 6, constantValue := 0 }, { name := "twoToTheDoubleScaleUp", type := .double, accessFlags := 8, slot := 7, constantValue := 0 }, { name := "twoToTheDoubleScaleDown", type := .double, accessFlags := 8, slot := 8, constantValue := 0 }, { name := "$assertionsDisabled", type := .boolean, accessFlags := 4120, slot := 9, constantValue := 0 }]
  methods := #[k22m0, k22m1, k22m2]
  instanceTypes := #[]
  staticTypes := #[.double, .double, .double, .double, .double, .long, .long, .double, .double, .boolean]
  resolved := Array.replicate 460 none
  statics := none }

/-- the primitive byte -/
def k23 : Class := { plain "byte" none with kind := .primitive 'B', accessFlags := 0x411 }
/-- [B -/
def k24 : Class := { plain "[B" (some 0) with kind := .array 23 .byte, interfaces := #[18, 2], accessFlags := 1041 }

/-- the primitive char -/
def k25 : Class := { plain "char" none with kind := .primitive 'C', accessFlags := 0x411 }
/-- [C -/
def k26 : Class := { plain "[C" (some 0) with kind := .array 25 .char, interfaces := #[18, 2], accessFlags := 1041 }

/-- the primitive int -/
def k27 : Class := { plain "int" none with kind := .primitive 'I', accessFlags := 0x411 }
/-- [I -/
def k28 : Class := { plain "[I" (some 0) with kind := .array 27 .int, interfaces := #[18, 2], accessFlags := 1041 }

def heap : Heap := #[{ cls := 7, slots := #[.long 0, .int 1, .null, .int 0, .null, .int 0, .int 0], vm := .statics 7 },
  { cls := 12, slots := #[.ref 8, .null, .ref 5, .null, .null], vm := .statics 12 },
  { cls := 15, slots := #[.ref 6], vm := .statics 15 },
  { cls := 17, slots := #[.ref 7, .null], vm := .statics 17 },
  { cls := 21, slots := #[.null, .null, .null], vm := .statics 21 },
  { cls := 12, slots := #[.int 0, .int 0], vm := .none },
  { cls := 15, slots := #[.null, .null, .null], vm := .none },
  { cls := 17, slots := #[.null, .null, .null], vm := .none },
  { cls := 28, slots := #[.int (-1), .int (-1), .int (-1), .int (-1), .int (-1), .int (-1), .int (-1), .int (-1), .int (-1), .int (-1), .int (-1), .int (-1), .int (-1), .int (-1), .int (-1), .int (-1), .int (-1), .int (-1), .int (-1), .int (-1), .int (-1), .int (-1), .int (-1), .int (-1), .int (-1), .int (-1), .int (-1), .int (-1), .int (-1), .int (-1), .int (-1), .int (-1), .int (-1), .int (-1), .int (-1), .int (-1), .int (-1), .int (-1), .int (-1), .int (-1), .int (-1), .int (-1), .int (-1), .int 62, .int (-1), .int (-1), .int (-1), .int 63, .int 52, .int 53, .int 54, .int 55, .int 56, .int 57, .int 58, .int 59, .int 60, .int 61, .int (-1), .int (-1), .int (-1), .int (-2), .int (-1), .int (-1), .int (-1), .int 0, .int 1, .int 2, .int 3, .int 4, .int 5, .int 6, .int 7, .int 8, .int 9, .int 10, .int 11, .int 12, .int 13, .int 14, .int 15, .int 16, .int 17, .int 18, .int 19, .int 20, .int 21, .int 22, .int 23, .int 24, .int 25, .int (-1), .int (-1), .int (-1), .int (-1), .int (-1), .int (-1), .int 26, .int 27, .int 28, .int 29, .int 30, .int 31, .int 32, .int 33, .int 34, .int 35, .int 36, .int 37, .int 38, .int 39, .int 40, .int 41, .int 42, .int 43, .int 44, .int 45, .int 46, .int 47, .int 48, .int 49, .int 50, .int 51, .int (-1), .int (-1), .int (-1), .int (-1), .int (-1), .int (-1), .int (-1), .int (-1), .int (-1), .int (-1), .int (-1), .int (-1), .int (-1), .int (-1), .int (-1), .int (-1), .int (-1), .int (-1), .int (-1), .int (-1), .int (-1), .int (-1), .int (-1), .int (-1), .int (-1), .int (-1), .int (-1), .int (-1), .int (-1), .int (-1), .int (-1), .int (-1), .int (-1), .int (-1), .int (-1), .int (-1), .int (-1), .int (-1), .int (-1), .int (-1), .int (-1), .int (-1), .int (-1), .int (-1), .int (-1), .int (-1), .int (-1), .int (-1), .int (-1), .int (-1), .int (-1), .int (-1), .int (-1), .int (-1), .int (-1), .int (-1), .int (-1), .int (-1), .int (-1), .int (-1), .int (-1), .int (-1), .int (-1), .int (-1), .int (-1), .int (-1), .int (-1), .int (-1), .int (-1), .int (-1), .int (-1), .int (-1), .int (-1), .int (-1), .int (-1), .int (-1), .int (-1), .int (-1), .int (-1), .int (-1), .int (-1), .int (-1), .int (-1), .int (-1), .int (-1), .int (-1), .int (-1), .int (-1), .int (-1), .int (-1), .int (-1), .int (-1), .int (-1), .int (-1), .int (-1), .int (-1), .int (-1), .int (-1), .int (-1), .int (-1), .int (-1), .int (-1), .int (-1), .int (-1), .int (-1), .int (-1), .int (-1), .int (-1), .int (-1), .int (-1), .int (-1), .int (-1), .int (-1), .int (-1), .int (-1), .int (-1), .int (-1), .int (-1), .int (-1), .int (-1), .int (-1), .int (-1), .int (-1), .int (-1), .int (-1), .int (-1), .int (-1), .int (-1), .int (-1), .int (-1), .int (-1), .int (-1), .int (-1)], vm := .none }]
def classes : Array Class := #[k0, k1, k2, k3, k4, k5, k6, k7, k8, k9, k10, k11, k12, k13, k14, k15, k16, k17, k18, k19, k20, k21, k22, k23, k24, k25, k26, k27, k28]
def interned : List (Array UInt16 × Addr) := []
def slotsUsed : Nat := 282
def theMethod : MethodId := ⟨1, 1⟩
def args0 : Array Value := #[.int 5, .int 5, .int 5]
def aboutOver (below : List Frame) : State where
  vm := { classes := classes, interned := interned.toArray }
  heap := heap
  slotsUsed := slotsUsed
  threads := #[{ frames := .invoking theMethod args0 :: below }]
def below0 : List Frame := [.native { method := ⟨0, 0⟩, args := #[] }]
def about1 : State := aboutOver below0
def p0 : Program := .bare "" "" ""
def e0 : Env := launch0.env 0 0 0
theorem w_frames : about1.frames = Frame.invoking theMethod args0 :: below0 := rfl
set_option maxRecDepth 65536 in
theorem w_args : argsFit about1.vm theMethod args0 = true := by decide +kernel
set_option maxRecDepth 65536 in
theorem w_heap : heapFits about1 = true := by decide +kernel
set_option maxRecDepth 65536 in
theorem w_runnable : about1.curStatus? = some .runnable := by decide +kernel
set_option maxRecDepth 65536 in
theorem w_alone : about1.alone = true := by decide +kernel
set_option maxRecDepth 65536 in
theorem w_named : about1.methodNamed? x = some theMethod := by decide +kernel
set_option maxRecDepth 65536 in
theorem w_hears : about1.hears theMethod below0 = true := by decide +kernel
set_option maxRecDepth 65536 in
theorem w_ripe : about1.ripe theMethod args0 below0 = true := by decide +kernel
theorem w_running : about1.status = .running := rfl
set_option maxRecDepth 65536 in
theorem w_room : about1.hasRoom e0.platform room_1 = true :=
  launch0.hasRoom_least _ room_1 (by decide +kernel) (by decide +kernel) (by decide +kernel) (by decide +kernel) (by decide +kernel) (by decide +kernel)
theorem allAtoms_all (ts : List Jvm.Cond) (a : Array Jvm.Value) (st : Jvm.State) : (allAtoms ts).before a st = ts.all (fun c => c.before a st) := by
  induction ts with
  | nil => rfl
  | cons c t ih =>
    show (Jvm.Cond.and c (allAtoms t)).before a st = _
    rw [Jvm.Cond.before_and, ih, List.all_cons]
def words1 : List Jvm.Cond := Jvm.Cond.code x code maxLocals ret :: tables_1
/-- a 'code' word, met by the world's own term for the bytes: nothing is compared byte by byte -/
theorem code_word {y : MethodName} {bytes : ByteArray} {mx : Nat} {rt : Option FieldType} {a : Array Value} {s : State} {m : MethodId} {meth : Method} {c : Code} (h1 : s.methodNamed? y = some m) (h2 : s.vm.method? m = some meth) (h3 : meth.code = some c) (h4 : c.code = bytes)
    (h5 : (c.maxLocals == mx && c.exceptionTable.isEmpty && decide (c.maxStack ≤ mostOperands) && decide (meth.sig.returnType = rt) && !meth.locks && decide (parseMethodDescriptor y.desc = some meth.sig)) = true) : (Jvm.Cond.code y bytes mx rt).before a s = true := by
  simp only [Bool.and_eq_true, beq_iff_eq, Bool.not_eq_true', decide_eq_true_eq] at h5
  obtain ⟨⟨⟨⟨⟨g1, g2⟩, g3⟩, g4⟩, g5⟩, g6⟩ := h5
  simp [Cond.before, Cond.holds, Cond.value, h1, h2, h3, h4, g1, g2, g3, g4, g5, g6]
def isCode : Jvm.Cond → Bool
  | .code _ _ _ _ => true
  | _ => false
theorem all_split {L : List Jvm.Cond} {P : Jvm.Cond → Bool} (h1 : L.all (fun c => isCode c || P c) = true) (h2 : ∀ c ∈ L.filter isCode, P c = true) : L.all P = true := by
  refine List.all_eq_true.mpr fun c hc => ?_
  have h := List.all_eq_true.mp h1 c hc
  rcases Bool.eq_false_or_eq_true (isCode c) with hi | hi
  · exact h2 c (List.mem_filter.mpr ⟨hc, hi⟩)
  · simpa [hi] using h
set_option maxRecDepth 65536 in
theorem w_c0 : (Jvm.Cond.code x code maxLocals ret).before args0 about1 = true := code_word (m := ⟨1, 1⟩) (meth := k1m1) (c := k1c1) (by decide +kernel) rfl rfl rfl (by decide +kernel)
set_option maxRecDepth 65536 in
theorem w_c1 : (Jvm.Cond.code ({ cls := "com/example/drafts_under_key/draftsunderkey/crypto/StrictBase64DecodePinLaw", name := "at", desc := "([BII)I" } : Jvm.MethodName) method_3_code (3 : Nat) (Option.some Jvm.ClassFile.FieldType.int)).before args0 about1 = true := code_word (m := ⟨1, 2⟩) (meth := k1m2) (c := k1c2) (by decide +kernel) rfl rfl rfl (by decide +kernel)
set_option maxRecDepth 65536 in
theorem w_c2 : (Jvm.Cond.code ({ cls := "com/example/drafts_under_key/draftsunderkey/crypto/StrictBase64DecodePinLaw", name := "group", desc := "([CIIIII)V" } : Jvm.MethodName) method_4_code (7 : Nat) (Option.none : Option Jvm.ClassFile.FieldType)).before args0 about1 = true := code_word (m := ⟨1, 3⟩) (meth := k1m3) (c := k1c3) (by decide +kernel) rfl rfl rfl (by decide +kernel)
set_option maxRecDepth 65536 in
theorem w_c3 : (Jvm.Cond.code ({ cls := "com/example/drafts_under_key/draftsunderkey/crypto/StrictBase64DecodePinLaw", name := "sym", desc := "(I)C" } : Jvm.MethodName) method_5_code (1 : Nat) (Option.some Jvm.ClassFile.FieldType.char)).before args0 about1 = true := code_word (m := ⟨1, 4⟩) (meth := k1m4) (c := k1c4) (by decide +kernel) rfl rfl rfl (by decide +kernel)
set_option maxRecDepth 65536 in
theorem w_c4 : (Jvm.Cond.code ({ cls := "java/lang/String", name := "<init>", desc := "([C)V" } : Jvm.MethodName) jdk_42_method_3_code (2 : Nat) (Option.none : Option Jvm.ClassFile.FieldType)).before args0 about1 = true := code_word (m := ⟨7, 1⟩) (meth := k7m1) (c := k7c1) (by decide +kernel) rfl rfl rfl (by decide +kernel)
set_option maxRecDepth 65536 in
theorem w_c5 : (Jvm.Cond.code ({ cls := "java/lang/String", name := "<init>", desc := "([CIILjava/lang/Void;)V" } : Jvm.MethodName) jdk_42_method_149_code (6 : Nat) (Option.none : Option Jvm.ClassFile.FieldType)).before args0 about1 = true := code_word (m := ⟨7, 12⟩) (meth := k7m12) (c := k7c12) (by decide +kernel) rfl rfl rfl (by decide +kernel)
set_option maxRecDepth 65536 in
theorem w_c6 : (Jvm.Cond.code ({ cls := "java/lang/Object", name := "<init>", desc := "()V" } : Jvm.MethodName) object_method_1_code (1 : Nat) (Option.none : Option Jvm.ClassFile.FieldType)).before args0 about1 = true := code_word (m := ⟨0, 0⟩) (meth := k0m0) (c := k0c0) (by decide +kernel) rfl rfl rfl (by decide +kernel)
set_option maxRecDepth 65536 in
theorem w_c7 : (Jvm.Cond.code ({ cls := "java/lang/StringUTF16", name := "compress", desc := "([CII)[B" } : Jvm.MethodName) jdk_52_method_16_code (6 : Nat) (Option.some (Jvm.ClassFile.FieldType.array Jvm.ClassFile.FieldType.byte))).before args0 about1 = true := code_word (m := ⟨8, 2⟩) (meth := k8m2) (c := k8c2) (by decide +kernel) rfl rfl rfl (by decide +kernel)
set_option maxRecDepth 65536 in
theorem w_c8 : (Jvm.Cond.code ({ cls := "java/lang/StringUTF16", name := "compress", desc := "([CI[BII)I" } : Jvm.MethodName) jdk_52_method_21_code (7 : Nat) (Option.some Jvm.ClassFile.FieldType.int)).before args0 about1 = true := code_word (m := ⟨8, 3⟩) (meth := k8m3) (c := k8c3) (by decide +kernel) rfl rfl rfl (by decide +kernel)
set_option maxRecDepth 65536 in
theorem w_c9 : (Jvm.Cond.code ({ cls := "java/lang/StringUTF16", name := "coderFromArrayLen", desc := "([BI)B" } : Jvm.MethodName) jdk_52_method_15_code (2 : Nat) (Option.some Jvm.ClassFile.FieldType.byte)).before args0 about1 = true := code_word (m := ⟨8, 1⟩) (meth := k8m1) (c := k8c1) (by decide +kernel) rfl rfl rfl (by decide +kernel)
set_option maxRecDepth 65536 in
theorem w_c10 : (Jvm.Cond.code ({ cls := "java/util/Objects", name := "requireNonNull", desc := "(Ljava/lang/Object;Ljava/lang/String;)Ljava/lang/Object;" } : Jvm.MethodName) jdk_31_method_11_code (2 : Nat) (Option.some (Jvm.ClassFile.FieldType.object "java/lang/Object"))).before args0 about1 = true := code_word (m := ⟨10, 1⟩) (meth := k10m1) (c := k10c1) (by decide +kernel) rfl rfl rfl (by decide +kernel)
set_option maxRecDepth 65536 in
theorem w_c11 : (Jvm.Cond.code ({ cls := "java/util/Base64", name := "getDecoder", desc := "()Ljava/util/Base64$Decoder;" } : Jvm.MethodName) jdk_2448_method_6_code (0 : Nat) (Option.some (Jvm.ClassFile.FieldType.object "java/util/Base64$Decoder"))).before args0 about1 = true := code_word (m := ⟨11, 1⟩) (meth := k11m1) (c := k11c1) (by decide +kernel) rfl rfl rfl (by decide +kernel)
set_option maxRecDepth 65536 in
theorem w_c12 : (Jvm.Cond.code ({ cls := "java/util/Base64$Decoder", name := "decode", desc := "(Ljava/lang/String;)[B" } : Jvm.MethodName) jdk_2450_method_3_code (2 : Nat) (Option.some (Jvm.ClassFile.FieldType.array Jvm.ClassFile.FieldType.byte))).before args0 about1 = true := code_word (m := ⟨12, 1⟩) (meth := k12m1) (c := k12c1) (by decide +kernel) rfl rfl rfl (by decide +kernel)
set_option maxRecDepth 65536 in
theorem w_c13 : (Jvm.Cond.code ({ cls := "java/lang/String", name := "getBytes", desc := "(Ljava/nio/charset/Charset;)[B" } : Jvm.MethodName) jdk_42_method_64_code (2 : Nat) (Option.some (Jvm.ClassFile.FieldType.array Jvm.ClassFile.FieldType.byte))).before args0 about1 = true := code_word (m := ⟨7, 7⟩) (meth := k7m7) (c := k7c7) (by decide +kernel) rfl rfl rfl (by decide +kernel)
set_option maxRecDepth 65536 in
theorem w_c14 : (Jvm.Cond.code ({ cls := "java/lang/String", name := "coder", desc := "()B" } : Jvm.MethodName) jdk_42_method_152_code (1 : Nat) (Option.some Jvm.ClassFile.FieldType.byte)).before args0 about1 = true := code_word (m := ⟨7, 13⟩) (meth := k7m13) (c := k7c13) (by decide +kernel) rfl rfl rfl (by decide +kernel)
set_option maxRecDepth 65536 in
theorem w_c15 : (Jvm.Cond.code ({ cls := "java/lang/String", name := "encode", desc := "(Ljava/nio/charset/Charset;B[B)[B" } : Jvm.MethodName) jdk_42_method_18_code (3 : Nat) (Option.some (Jvm.ClassFile.FieldType.array Jvm.ClassFile.FieldType.byte))).before args0 about1 = true := code_word (m := ⟨7, 2⟩) (meth := k7m2) (c := k7c2) (by decide +kernel) rfl rfl rfl (by decide +kernel)
set_option maxRecDepth 65536 in
theorem w_c16 : (Jvm.Cond.code ({ cls := "java/lang/String", name := "encode8859_1", desc := "(B[B)[B" } : Jvm.MethodName) jdk_42_method_26_code (2 : Nat) (Option.some (Jvm.ClassFile.FieldType.array Jvm.ClassFile.FieldType.byte))).before args0 about1 = true := code_word (m := ⟨7, 3⟩) (meth := k7m3) (c := k7c3) (by decide +kernel) rfl rfl rfl (by decide +kernel)
set_option maxRecDepth 65536 in
theorem w_c17 : (Jvm.Cond.code ({ cls := "java/lang/String", name := "encode8859_1", desc := "(B[BZ)[B" } : Jvm.MethodName) jdk_42_method_27_code (10 : Nat) (Option.some (Jvm.ClassFile.FieldType.array Jvm.ClassFile.FieldType.byte))).before args0 about1 = true := code_word (m := ⟨7, 4⟩) (meth := k7m4) (c := k7c4) (by decide +kernel) rfl rfl rfl (by decide +kernel)
set_option maxRecDepth 65536 in
theorem w_c18 : (Jvm.Cond.code ({ cls := "java/util/Base64$Decoder", name := "decode", desc := "([B)[B" } : Jvm.MethodName) jdk_2450_method_2_code (4 : Nat) (Option.some (Jvm.ClassFile.FieldType.array Jvm.ClassFile.FieldType.byte))).before args0 about1 = true := code_word (m := ⟨12, 0⟩) (meth := k12m0) (c := k12c0) (by decide +kernel) rfl rfl rfl (by decide +kernel)
set_option maxRecDepth 65536 in
theorem w_c19 : (Jvm.Cond.code ({ cls := "java/util/Base64$Decoder", name := "decodedOutLength", desc := "([BII)I" } : Jvm.MethodName) jdk_2450_method_7_code (9 : Nat) (Option.some Jvm.ClassFile.FieldType.int)).before args0 about1 = true := code_word (m := ⟨12, 2⟩) (meth := k12m2) (c := k12c2) (by decide +kernel) rfl rfl rfl (by decide +kernel)
set_option maxRecDepth 65536 in
theorem w_c20 : (Jvm.Cond.code ({ cls := "java/util/Base64$Decoder", name := "decode0", desc := "([BII[B)I" } : Jvm.MethodName) jdk_2450_method_9_code (11 : Nat) (Option.some Jvm.ClassFile.FieldType.int)).before args0 about1 = true := code_word (m := ⟨12, 4⟩) (meth := k12m4) (c := k12c4) (by decide +kernel) rfl rfl rfl (by decide +kernel)
set_option maxRecDepth 65536 in
theorem w_c21 : (Jvm.Cond.code ({ cls := "com/example/drafts_under_key/draftsunderkey/crypto/StrictBase64", name := "isCanonical", desc := "(Ljava/lang/String;)Z" } : Jvm.MethodName) prog_19_method_3_code (4 : Nat) (Option.some Jvm.ClassFile.FieldType.boolean)).before args0 about1 = true := code_word (m := ⟨9, 2⟩) (meth := k9m2) (c := k9c2) (by decide +kernel) rfl rfl rfl (by decide +kernel)
set_option maxRecDepth 65536 in
theorem w_c22 : (Jvm.Cond.code ({ cls := "java/lang/String", name := "length", desc := "()I" } : Jvm.MethodName) jdk_42_method_54_code (1 : Nat) (Option.some Jvm.ClassFile.FieldType.int)).before args0 about1 = true := code_word (m := ⟨7, 5⟩) (meth := k7m5) (c := k7c5) (by decide +kernel) rfl rfl rfl (by decide +kernel)
set_option maxRecDepth 65536 in
theorem w_c23 : (Jvm.Cond.code ({ cls := "java/lang/String", name := "endsWith", desc := "(Ljava/lang/String;)Z" } : Jvm.MethodName) jdk_42_method_77_code (2 : Nat) (Option.some Jvm.ClassFile.FieldType.boolean)).before args0 about1 = true := code_word (m := ⟨7, 9⟩) (meth := k7m9) (c := k7c9) (by decide +kernel) rfl rfl rfl (by decide +kernel)
set_option maxRecDepth 65536 in
theorem w_c24 : (Jvm.Cond.code ({ cls := "java/lang/String", name := "startsWith", desc := "(Ljava/lang/String;I)Z" } : Jvm.MethodName) jdk_42_method_75_code (8 : Nat) (Option.some Jvm.ClassFile.FieldType.boolean)).before args0 about1 = true := code_word (m := ⟨7, 8⟩) (meth := k7m8) (c := k7c8) (by decide +kernel) rfl rfl rfl (by decide +kernel)
set_option maxRecDepth 65536 in
theorem w_c25 : (Jvm.Cond.code ({ cls := "jdk/internal/util/ArraysSupport", name := "mismatch", desc := "([BI[BII)I" } : Jvm.MethodName) jdk_48_method_14_code (8 : Nat) (Option.some Jvm.ClassFile.FieldType.int)).before args0 about1 = true := code_word (m := ⟨19, 1⟩) (meth := k19m1) (c := k19c1) (by decide +kernel) rfl rfl rfl (by decide +kernel)
set_option maxRecDepth 65536 in
theorem w_c26 : (Jvm.Cond.code ({ cls := "java/lang/String", name := "charAt", desc := "(I)C" } : Jvm.MethodName) jdk_42_method_56_code (2 : Nat) (Option.some Jvm.ClassFile.FieldType.char)).before args0 about1 = true := code_word (m := ⟨7, 6⟩) (meth := k7m6) (c := k7c6) (by decide +kernel) rfl rfl rfl (by decide +kernel)
set_option maxRecDepth 65536 in
theorem w_c27 : (Jvm.Cond.code ({ cls := "java/lang/String", name := "isLatin1", desc := "()Z" } : Jvm.MethodName) jdk_42_method_154_code (1 : Nat) (Option.some Jvm.ClassFile.FieldType.boolean)).before args0 about1 = true := code_word (m := ⟨7, 14⟩) (meth := k7m14) (c := k7c14) (by decide +kernel) rfl rfl rfl (by decide +kernel)
set_option maxRecDepth 65536 in
theorem w_c28 : (Jvm.Cond.code ({ cls := "java/lang/StringLatin1", name := "charAt", desc := "([BI)C" } : Jvm.MethodName) jdk_43_method_2_code (2 : Nat) (Option.some Jvm.ClassFile.FieldType.char)).before args0 about1 = true := code_word (m := ⟨20, 1⟩) (meth := k20m1) (c := k20c1) (by decide +kernel) rfl rfl rfl (by decide +kernel)
set_option maxRecDepth 65536 in
theorem w_c29 : (Jvm.Cond.code ({ cls := "java/lang/String", name := "checkIndex", desc := "(II)V" } : Jvm.MethodName) jdk_42_method_155_code (2 : Nat) (Option.none : Option Jvm.ClassFile.FieldType)).before args0 about1 = true := code_word (m := ⟨7, 15⟩) (meth := k7m15) (c := k7c15) (by decide +kernel) rfl rfl rfl (by decide +kernel)
set_option maxRecDepth 65536 in
theorem w_c30 : (Jvm.Cond.code ({ cls := "jdk/internal/util/Preconditions", name := "checkIndex", desc := "(IILjava/util/function/BiFunction;)I" } : Jvm.MethodName) jdk_41_method_11_code (3 : Nat) (Option.some Jvm.ClassFile.FieldType.int)).before args0 about1 = true := code_word (m := ⟨21, 1⟩) (meth := k21m1) (c := k21c1) (by decide +kernel) rfl rfl rfl (by decide +kernel)
set_option maxRecDepth 65536 in
theorem w_c31 : (Jvm.Cond.code ({ cls := "java/lang/String", name := "indexOf", desc := "(I)I" } : Jvm.MethodName) jdk_42_method_79_code (2 : Nat) (Option.some Jvm.ClassFile.FieldType.int)).before args0 about1 = true := code_word (m := ⟨7, 10⟩) (meth := k7m10) (c := k7c10) (by decide +kernel) rfl rfl rfl (by decide +kernel)
set_option maxRecDepth 65536 in
theorem w_c32 : (Jvm.Cond.code ({ cls := "java/lang/String", name := "indexOf", desc := "(II)I" } : Jvm.MethodName) jdk_42_method_80_code (3 : Nat) (Option.some Jvm.ClassFile.FieldType.int)).before args0 about1 = true := code_word (m := ⟨7, 11⟩) (meth := k7m11) (c := k7c11) (by decide +kernel) rfl rfl rfl (by decide +kernel)
set_option maxRecDepth 65536 in
theorem w_c33 : (Jvm.Cond.code ({ cls := "java/lang/StringLatin1", name := "indexOf", desc := "([BIII)I" } : Jvm.MethodName) jdk_43_method_22_code (4 : Nat) (Option.some Jvm.ClassFile.FieldType.int)).before args0 about1 = true := code_word (m := ⟨20, 3⟩) (meth := k20m3) (c := k20c3) (by decide +kernel) rfl rfl rfl (by decide +kernel)
set_option maxRecDepth 65536 in
theorem w_c34 : (Jvm.Cond.code ({ cls := "java/lang/StringLatin1", name := "canEncode", desc := "(I)Z" } : Jvm.MethodName) jdk_43_method_4_code (1 : Nat) (Option.some Jvm.ClassFile.FieldType.boolean)).before args0 about1 = true := code_word (m := ⟨20, 2⟩) (meth := k20m2) (c := k20c2) (by decide +kernel) rfl rfl rfl (by decide +kernel)
set_option maxRecDepth 65536 in
theorem w_c35 : (Jvm.Cond.code ({ cls := "java/lang/Math", name := "max", desc := "(II)I" } : Jvm.MethodName) jdk_29_method_65_code (2 : Nat) (Option.some Jvm.ClassFile.FieldType.int)).before args0 about1 = true := code_word (m := ⟨22, 1⟩) (meth := k22m1) (c := k22c1) (by decide +kernel) rfl rfl rfl (by decide +kernel)
set_option maxRecDepth 65536 in
theorem w_c36 : (Jvm.Cond.code ({ cls := "java/lang/Math", name := "min", desc := "(II)I" } : Jvm.MethodName) jdk_29_method_69_code (2 : Nat) (Option.some Jvm.ClassFile.FieldType.int)).before args0 about1 = true := code_word (m := ⟨22, 2⟩) (meth := k22m2) (c := k22c2) (by decide +kernel) rfl rfl rfl (by decide +kernel)
set_option maxRecDepth 65536 in
theorem w_c37 : (Jvm.Cond.code ({ cls := "java/lang/StringLatin1", name := "indexOfChar", desc := "([BIII)I" } : Jvm.MethodName) jdk_43_method_23_code (6 : Nat) (Option.some Jvm.ClassFile.FieldType.int)).before args0 about1 = true := code_word (m := ⟨20, 4⟩) (meth := k20m4) (c := k20c4) (by decide +kernel) rfl rfl rfl (by decide +kernel)
set_option maxRecDepth 65536 in
theorem w_c38 : (Jvm.Cond.code ({ cls := "com/example/drafts_under_key/draftsunderkey/crypto/StrictBase64DecodePinLaw", name := "same", desc := "([B[BII)Z" } : Jvm.MethodName) method_6_code (4 : Nat) (Option.some Jvm.ClassFile.FieldType.boolean)).before args0 about1 = true := code_word (m := ⟨1, 5⟩) (meth := k1m5) (c := k1c5) (by decide +kernel) rfl rfl rfl (by decide +kernel)
set_option maxRecDepth 65536 in
theorem w_c39 : (Jvm.Cond.code ({ cls := "java/util/Base64$Decoder", name := "decodeBlock", desc := "([BII[BIZZ)I" } : Jvm.MethodName) jdk_2450_method_8_code (16 : Nat) (Option.some Jvm.ClassFile.FieldType.int)).before args0 about1 = true := code_word (m := ⟨12, 3⟩) (meth := k12m3) (c := k12c3) (by decide +kernel) rfl rfl rfl (by decide +kernel)
def codes1 : List Jvm.Cond := [Jvm.Cond.code x code maxLocals ret, Jvm.Cond.code ({ cls := "com/example/drafts_under_key/draftsunderkey/crypto/StrictBase64DecodePinLaw", name := "at", desc := "([BII)I" } : Jvm.MethodName) method_3_code (3 : Nat) (Option.some Jvm.ClassFile.FieldType.int), Jvm.Cond.code ({ cls := "com/example/drafts_under_key/draftsunderkey/crypto/StrictBase64DecodePinLaw", name := "group", desc := "([CIIIII)V" } : Jvm.MethodName) method_4_code (7 : Nat) (Option.none : Option Jvm.ClassFile.FieldType), Jvm.Cond.code ({ cls := "com/example/drafts_under_key/draftsunderkey/crypto/StrictBase64DecodePinLaw", name := "sym", desc := "(I)C" } : Jvm.MethodName) method_5_code (1 : Nat) (Option.some Jvm.ClassFile.FieldType.char), Jvm.Cond.code ({ cls := "java/lang/String", name := "<init>", desc := "([C)V" } : Jvm.MethodName) jdk_42_method_3_code (2 : Nat) (Option.none : Option Jvm.ClassFile.FieldType), Jvm.Cond.code ({ cls := "java/lang/String", name := "<init>", desc := "([CIILjava/lang/Void;)V" } : Jvm.MethodName) jdk_42_method_149_code (6 : Nat) (Option.none : Option Jvm.ClassFile.FieldType), Jvm.Cond.code ({ cls := "java/lang/Object", name := "<init>", desc := "()V" } : Jvm.MethodName) object_method_1_code (1 : Nat) (Option.none : Option Jvm.ClassFile.FieldType), Jvm.Cond.code ({ cls := "java/lang/StringUTF16", name := "compress", desc := "([CII)[B" } : Jvm.MethodName) jdk_52_method_16_code (6 : Nat) (Option.some (Jvm.ClassFile.FieldType.array Jvm.ClassFile.FieldType.byte)), Jvm.Cond.code ({ cls := "java/lang/StringUTF16", name := "compress", desc := "([CI[BII)I" } : Jvm.MethodName) jdk_52_method_21_code (7 : Nat) (Option.some Jvm.ClassFile.FieldType.int), Jvm.Cond.code ({ cls := "java/lang/StringUTF16", name := "coderFromArrayLen", desc := "([BI)B" } : Jvm.MethodName) jdk_52_method_15_code (2 : Nat) (Option.some Jvm.ClassFile.FieldType.byte), Jvm.Cond.code ({ cls := "java/util/Objects", name := "requireNonNull", desc := "(Ljava/lang/Object;Ljava/lang/String;)Ljava/lang/Object;" } : Jvm.MethodName) jdk_31_method_11_code (2 : Nat) (Option.some (Jvm.ClassFile.FieldType.object "java/lang/Object")), Jvm.Cond.code ({ cls := "java/util/Base64", name := "getDecoder", desc := "()Ljava/util/Base64$Decoder;" } : Jvm.MethodName) jdk_2448_method_6_code (0 : Nat) (Option.some (Jvm.ClassFile.FieldType.object "java/util/Base64$Decoder")), Jvm.Cond.code ({ cls := "java/util/Base64$Decoder", name := "decode", desc := "(Ljava/lang/String;)[B" } : Jvm.MethodName) jdk_2450_method_3_code (2 : Nat) (Option.some (Jvm.ClassFile.FieldType.array Jvm.ClassFile.FieldType.byte)), Jvm.Cond.code ({ cls := "java/lang/String", name := "getBytes", desc := "(Ljava/nio/charset/Charset;)[B" } : Jvm.MethodName) jdk_42_method_64_code (2 : Nat) (Option.some (Jvm.ClassFile.FieldType.array Jvm.ClassFile.FieldType.byte)), Jvm.Cond.code ({ cls := "java/lang/String", name := "coder", desc := "()B" } : Jvm.MethodName) jdk_42_method_152_code (1 : Nat) (Option.some Jvm.ClassFile.FieldType.byte), Jvm.Cond.code ({ cls := "java/lang/String", name := "encode", desc := "(Ljava/nio/charset/Charset;B[B)[B" } : Jvm.MethodName) jdk_42_method_18_code (3 : Nat) (Option.some (Jvm.ClassFile.FieldType.array Jvm.ClassFile.FieldType.byte)), Jvm.Cond.code ({ cls := "java/lang/String", name := "encode8859_1", desc := "(B[B)[B" } : Jvm.MethodName) jdk_42_method_26_code (2 : Nat) (Option.some (Jvm.ClassFile.FieldType.array Jvm.ClassFile.FieldType.byte)), Jvm.Cond.code ({ cls := "java/lang/String", name := "encode8859_1", desc := "(B[BZ)[B" } : Jvm.MethodName) jdk_42_method_27_code (10 : Nat) (Option.some (Jvm.ClassFile.FieldType.array Jvm.ClassFile.FieldType.byte)), Jvm.Cond.code ({ cls := "java/util/Base64$Decoder", name := "decode", desc := "([B)[B" } : Jvm.MethodName) jdk_2450_method_2_code (4 : Nat) (Option.some (Jvm.ClassFile.FieldType.array Jvm.ClassFile.FieldType.byte)), Jvm.Cond.code ({ cls := "java/util/Base64$Decoder", name := "decodedOutLength", desc := "([BII)I" } : Jvm.MethodName) jdk_2450_method_7_code (9 : Nat) (Option.some Jvm.ClassFile.FieldType.int), Jvm.Cond.code ({ cls := "java/util/Base64$Decoder", name := "decode0", desc := "([BII[B)I" } : Jvm.MethodName) jdk_2450_method_9_code (11 : Nat) (Option.some Jvm.ClassFile.FieldType.int), Jvm.Cond.code ({ cls := "com/example/drafts_under_key/draftsunderkey/crypto/StrictBase64", name := "isCanonical", desc := "(Ljava/lang/String;)Z" } : Jvm.MethodName) prog_19_method_3_code (4 : Nat) (Option.some Jvm.ClassFile.FieldType.boolean), Jvm.Cond.code ({ cls := "java/lang/String", name := "length", desc := "()I" } : Jvm.MethodName) jdk_42_method_54_code (1 : Nat) (Option.some Jvm.ClassFile.FieldType.int), Jvm.Cond.code ({ cls := "java/lang/String", name := "endsWith", desc := "(Ljava/lang/String;)Z" } : Jvm.MethodName) jdk_42_method_77_code (2 : Nat) (Option.some Jvm.ClassFile.FieldType.boolean), Jvm.Cond.code ({ cls := "java/lang/String", name := "startsWith", desc := "(Ljava/lang/String;I)Z" } : Jvm.MethodName) jdk_42_method_75_code (8 : Nat) (Option.some Jvm.ClassFile.FieldType.boolean), Jvm.Cond.code ({ cls := "jdk/internal/util/ArraysSupport", name := "mismatch", desc := "([BI[BII)I" } : Jvm.MethodName) jdk_48_method_14_code (8 : Nat) (Option.some Jvm.ClassFile.FieldType.int), Jvm.Cond.code ({ cls := "java/lang/String", name := "charAt", desc := "(I)C" } : Jvm.MethodName) jdk_42_method_56_code (2 : Nat) (Option.some Jvm.ClassFile.FieldType.char), Jvm.Cond.code ({ cls := "java/lang/String", name := "isLatin1", desc := "()Z" } : Jvm.MethodName) jdk_42_method_154_code (1 : Nat) (Option.some Jvm.ClassFile.FieldType.boolean), Jvm.Cond.code ({ cls := "java/lang/StringLatin1", name := "charAt", desc := "([BI)C" } : Jvm.MethodName) jdk_43_method_2_code (2 : Nat) (Option.some Jvm.ClassFile.FieldType.char), Jvm.Cond.code ({ cls := "java/lang/String", name := "checkIndex", desc := "(II)V" } : Jvm.MethodName) jdk_42_method_155_code (2 : Nat) (Option.none : Option Jvm.ClassFile.FieldType), Jvm.Cond.code ({ cls := "jdk/internal/util/Preconditions", name := "checkIndex", desc := "(IILjava/util/function/BiFunction;)I" } : Jvm.MethodName) jdk_41_method_11_code (3 : Nat) (Option.some Jvm.ClassFile.FieldType.int), Jvm.Cond.code ({ cls := "java/lang/String", name := "indexOf", desc := "(I)I" } : Jvm.MethodName) jdk_42_method_79_code (2 : Nat) (Option.some Jvm.ClassFile.FieldType.int), Jvm.Cond.code ({ cls := "java/lang/String", name := "indexOf", desc := "(II)I" } : Jvm.MethodName) jdk_42_method_80_code (3 : Nat) (Option.some Jvm.ClassFile.FieldType.int), Jvm.Cond.code ({ cls := "java/lang/StringLatin1", name := "indexOf", desc := "([BIII)I" } : Jvm.MethodName) jdk_43_method_22_code (4 : Nat) (Option.some Jvm.ClassFile.FieldType.int), Jvm.Cond.code ({ cls := "java/lang/StringLatin1", name := "canEncode", desc := "(I)Z" } : Jvm.MethodName) jdk_43_method_4_code (1 : Nat) (Option.some Jvm.ClassFile.FieldType.boolean), Jvm.Cond.code ({ cls := "java/lang/Math", name := "max", desc := "(II)I" } : Jvm.MethodName) jdk_29_method_65_code (2 : Nat) (Option.some Jvm.ClassFile.FieldType.int), Jvm.Cond.code ({ cls := "java/lang/Math", name := "min", desc := "(II)I" } : Jvm.MethodName) jdk_29_method_69_code (2 : Nat) (Option.some Jvm.ClassFile.FieldType.int), Jvm.Cond.code ({ cls := "java/lang/StringLatin1", name := "indexOfChar", desc := "([BIII)I" } : Jvm.MethodName) jdk_43_method_23_code (6 : Nat) (Option.some Jvm.ClassFile.FieldType.int), Jvm.Cond.code ({ cls := "com/example/drafts_under_key/draftsunderkey/crypto/StrictBase64DecodePinLaw", name := "same", desc := "([B[BII)Z" } : Jvm.MethodName) method_6_code (4 : Nat) (Option.some Jvm.ClassFile.FieldType.boolean), Jvm.Cond.code ({ cls := "java/util/Base64$Decoder", name := "decodeBlock", desc := "([BII[BIZZ)I" } : Jvm.MethodName) jdk_2450_method_8_code (16 : Nat) (Option.some Jvm.ClassFile.FieldType.int)]
set_option maxRecDepth 65536 in
theorem codes_eq : words1.filter isCode = codes1 := rfl
theorem w_codes : ∀ c ∈ words1.filter isCode, c.before args0 about1 = true := by
  rw [codes_eq]
  intro c hc
  simp only [codes1, List.mem_cons, List.not_mem_nil, or_false] at hc
  rcases hc with rfl | rfl | rfl | rfl | rfl | rfl | rfl | rfl | rfl | rfl | rfl | rfl | rfl | rfl | rfl | rfl | rfl | rfl | rfl | rfl | rfl | rfl | rfl | rfl | rfl | rfl | rfl | rfl | rfl | rfl | rfl | rfl | rfl | rfl | rfl | rfl | rfl | rfl | rfl | rfl
  · exact w_c0
  · exact w_c1
  · exact w_c2
  · exact w_c3
  · exact w_c4
  · exact w_c5
  · exact w_c6
  · exact w_c7
  · exact w_c8
  · exact w_c9
  · exact w_c10
  · exact w_c11
  · exact w_c12
  · exact w_c13
  · exact w_c14
  · exact w_c15
  · exact w_c16
  · exact w_c17
  · exact w_c18
  · exact w_c19
  · exact w_c20
  · exact w_c21
  · exact w_c22
  · exact w_c23
  · exact w_c24
  · exact w_c25
  · exact w_c26
  · exact w_c27
  · exact w_c28
  · exact w_c29
  · exact w_c30
  · exact w_c31
  · exact w_c32
  · exact w_c33
  · exact w_c34
  · exact w_c35
  · exact w_c36
  · exact w_c37
  · exact w_c38
  · exact w_c39
set_option maxRecDepth 65536 in
theorem w_t1 : (words1.take 24).all (fun c => isCode c || c.before args0 about1) = true := by decide +kernel
set_option maxRecDepth 65536 in
theorem w_t2 : ((words1.drop 24).take 24).all (fun c => isCode c || c.before args0 about1) = true := by decide +kernel
set_option maxRecDepth 65536 in
theorem w_t3 : (((words1.drop 24).drop 24).take 24).all (fun c => isCode c || c.before args0 about1) = true := by decide +kernel
set_option maxRecDepth 65536 in
theorem w_t4 : ((((words1.drop 24).drop 24).drop 24).take 24).all (fun c => isCode c || c.before args0 about1) = true := by decide +kernel
set_option maxRecDepth 65536 in
theorem w_t5 : (((((words1.drop 24).drop 24).drop 24).drop 24).take 24).all (fun c => isCode c || c.before args0 about1) = true := by decide +kernel
set_option maxRecDepth 65536 in
theorem w_t6 : ((((((words1.drop 24).drop 24).drop 24).drop 24).drop 24).take 24).all (fun c => isCode c || c.before args0 about1) = true := by decide +kernel
set_option maxRecDepth 65536 in
theorem w_t7 : (((((((words1.drop 24).drop 24).drop 24).drop 24).drop 24).drop 24).take 24).all (fun c => isCode c || c.before args0 about1) = true := by decide +kernel
set_option maxRecDepth 65536 in
theorem w_t8 : ((((((((words1.drop 24).drop 24).drop 24).drop 24).drop 24).drop 24).drop 24).take 24).all (fun c => isCode c || c.before args0 about1) = true := by decide +kernel
set_option maxRecDepth 65536 in
theorem w_t9 : ((((((((words1.drop 24).drop 24).drop 24).drop 24).drop 24).drop 24).drop 24).drop 24).all (fun c => isCode c || c.before args0 about1) = true := by decide +kernel
theorem w_tables : (allAtoms (Jvm.Cond.code x code maxLocals ret :: tables_1)).before args0 about1 = true := by
  rw [allAtoms_all]
  show words1.all (fun c => c.before args0 about1) = true
  refine all_split ?_ w_codes
  rw [← List.take_append_drop 24 words1, List.all_append, w_t1, ← List.take_append_drop 24 (words1.drop 24), List.all_append, w_t2, ← List.take_append_drop 24 ((words1.drop 24).drop 24), List.all_append, w_t3, ← List.take_append_drop 24 (((words1.drop 24).drop 24).drop 24), List.all_append, w_t4, ← List.take_append_drop 24 ((((words1.drop 24).drop 24).drop 24).drop 24), List.all_append, w_t5, ← List.take_append_drop 24 (((((words1.drop 24).drop 24).drop 24).drop 24).drop 24), List.all_append, w_t6, ← List.take_append_drop 24 ((((((words1.drop 24).drop 24).drop 24).drop 24).drop 24).drop 24), List.all_append, w_t7, ← List.take_append_drop 24 (((((((words1.drop 24).drop 24).drop 24).drop 24).drop 24).drop 24).drop 24), List.all_append, w_t8, w_t9]
  rfl
set_option maxRecDepth 65536 in
theorem w_rest : rest_1_c.before args0 about1 = true := by decide +kernel
set_option maxRecDepth 65536 in
theorem w_case : (Jvm.Cond.and given_1 narrow_1).before args0 about1 = true := by decide +kernel
set_option maxRecDepth 65536 in
theorem w_consts : constsHeld consts_1 about1 := Jvm.Lit.constsHeldB_iff.mp (by decide +kernel)
theorem w_applies : (headSpec (Jvm.Cond.code x code maxLocals ret :: tables_1) room_1).applies x e0.platform about1 = true :=
  (Spec.applies_iff w_frames).mpr ⟨w_running, w_runnable, w_alone, w_named, w_hears, w_ripe, w_room, w_tables⟩
theorem atStart : AtStart classFile x code maxLocals ret World_1 tables_1 room_1 Calls_1 rest_1 Pre_1 launch0 p0 e0 about1 theMethod args0 below0 :=
  ⟨lists_1, trivial, launch0.admits_env _ _ _, launch0.least_env, fairChoices_fair.cas, fairChoices_fair.clock, w_frames, w_args, w_heap, w_applies, ⟨w_consts, trivial⟩, w_rest, w_case⟩
end start1
theorem witness_1 : WitnessClaimed_1 := ⟨start1.p0, start1.e0, start1.about1, start1.theMethod, start1.args0, start1.below0, start1.atStart⟩
end Jvm.Pilot.@@N@@
