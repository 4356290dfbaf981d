/- A part of the proof: the SILK decoder of the given program, walked by an executor that is proved sound. No statement of the program is proved in this text. -/
import Derived.Recover
import Derived.Laws.FloatArith
import Derived.Test.YtojdfjohmicopaaGreatDoorL22
set_option linter.all false
set_option maxRecDepth 100000
namespace Go.SX
open Go
inductive Ways where
  | nil
  | node (i : Nat) (sub : Ways) (next : Ways)
def Ways.heads : Ways → List Nat
  | nil => []
  | node i _ n => i :: n.heads
def Ways.depth : Ways → Nat
  | nil => 0
  | node _ s n => max (s.depth + 1) n.depth
def natsEq : List Nat → List Nat → Bool
  | [], [] => true
  | x :: r, y :: s => Nat.beq x y && natsEq r s
  | _, _ => false
theorem natsEq_eq : ∀ {l m : List Nat}, natsEq l m = true → l = m
  | [], [], _ => rfl
  | [], _ :: _, h => by cases h
  | _ :: _, [], h => by cases h
  | x :: r, y :: s, h => by
    simp only [natsEq, Bool.and_eq_true] at h
    rw [Nat.eq_of_beq_eq_true h.1, natsEq_eq h.2]
def Ways.subOk (ops : Array Oper) : Ways → Array Bool → Bool
  | nil, _ => true
  | node i s n, listed => natsEq s.heads (Region.ready .any ops (listed.setIfInBounds i true)) && s.subOk ops (listed.setIfInBounds i true) && n.subOk ops listed
def Ways.ok (ops : Array Oper) (w : Ways) : Bool :=
  natsEq w.heads (Region.ready .any ops (Array.replicate ops.size false)) && w.subOk ops (Array.replicate ops.size false) && Nat.ble w.depth ops.size
def VT (n : Nat) (ops : List Oper) : Ways → (Nat → Option V) → (Nat → Option B) → Nat → ((Nat → Option V) → (Nat → Option B) → Nat → Prop) → Prop
  | .nil, _, _, _, _ => True
  | .node i s r, e, st, nx, K => (match ops[i]? with
    | some ⟨d, op, _, _, _, none⟩ => dstV n d e (anyV op e st nx) fun e st nx => match s with
      | .nil => K e st nx
      | .node .. => VT n ops s e st nx K
    | _ => False) ∧ VT n ops r e st nx K
def VTx (n : Nat) (ops : List Oper) (w : Ways) (e : Nat → Option V) (st : Nat → Option B) (nx : Nat) (K : (Nat → Option V) → (Nat → Option B) → Nat → Prop) : Prop :=
  match w with
  | .nil => K e st nx
  | .node .. => VT n ops w e st nx K
theorem VT.child {n : Nat} {ops : List Oper} {e : Nat → Option V} {st : Nat → Option B} {nx : Nat} {K : (Nat → Option V) → (Nat → Option B) → Nat → Prop} {arr : Array Oper} {listed : Array Bool} {k : Nat} : ∀ {w : Ways} {i : Nat}, i ∈ w.heads → VT n ops w e st nx K → w.subOk arr listed = true → w.depth ≤ k + 1 →
    ∃ s d op ty ps af, ops[i]? = some ⟨d, op, ty, ps, af, none⟩ ∧ dstV n d e (anyV op e st nx) (fun e st nx => VTx n ops s e st nx K) ∧ s.heads = Region.ready .any arr (listed.setIfInBounds i true) ∧ s.subOk arr (listed.setIfInBounds i true) = true ∧ s.depth ≤ k
  | .nil, _, h, _, _, _ => by cases h
  | .node j s r, i, h, hv, ho, hd => by
    simp only [Ways.subOk, Bool.and_eq_true] at ho
    obtain ⟨⟨h1, h2⟩, h3⟩ := ho
    simp only [Ways.depth] at hd
    unfold VT at hv
    rcases List.mem_cons.1 h with rfl | h
    · have hv1 := hv.1
      split at hv1
      · rename_i d op ty ps af hop
        refine ⟨s, d, op, ty, ps, af, hop, ?_, natsEq_eq h1, h2, by omega⟩
        unfold VTx
        exact hv1
      · exact hv1.elim
    · exact VT.child h hv.2 h3 (by omega)
theorem ways_wp {b n : Nat} {ops : Array Oper} {T : S} {H : Hp} {X0 : Ctx} : ∀ (fuel : Nat) (w : Ways) (listed : Array Bool) (e : Nat → Option V) (st : Nat → Option B) (nx : Nat) (a : Act) (X : Ctx), b ≤ nx → Γ H ⟨e, st, nx, n⟩ X a → Step b X0 X → w.heads = Region.ready .any ops listed → w.subOk ops listed = true →
    w.depth ≤ fuel → VTx n ops.toList w e st nx (fun e st nx => Rel b ⟨e, st, nx, n⟩ T) → wpAny P .any ops (fun e' a' w' => e' = .normal ∧ ∃ X', X'.w = w' ∧ Γ H T X' a' ∧ Step b X0 X' ∧ b ≤ T.nx) fuel listed a X.w := by
  have fin : ∀ (w : Ways) (listed : Array Bool) (e : Nat → Option V) (st : Nat → Option B) (nx : Nat) (a : Act) (X : Ctx), b ≤ nx → Γ H ⟨e, st, nx, n⟩ X a → Step b X0 X → w.heads = Region.ready .any ops listed →
      VTx n ops.toList w e st nx (fun e st nx => Rel b ⟨e, st, nx, n⟩ T) → Region.ready .any ops listed = [] → (Exit.normal = Exit.normal ∧ ∃ X', X'.w = X.w ∧ Γ H T X' a ∧ Step b X0 X' ∧ b ≤ T.nx) := by
    intro w listed e st nx a X hb g hs hh hv hr
    rw [hr] at hh
    cases w with
    | node => cases hh
    | nil =>
      obtain ⟨X', h1, h2, h3, h4⟩ := hv H X a hb g
      exact ⟨rfl, X', h1, h2, hs.trans h3 (Nat.le_refl _), h4⟩
  intro fuel
  induction fuel with
  | zero =>
    intro w listed e st nx a X hb g hs hh _ hd hv
    have hr : Region.ready .any ops listed = [] := by
      cases w with
      | nil => exact hh.symm
      | node => simp only [Ways.depth] at hd; omega
    exact ⟨hr, fin w listed e st nx a X hb g hs hh hv hr⟩
  | succ fuel ih =>
    intro w listed e st nx a X hb g hs hh ho hd hv
    refine ⟨fin w listed e st nx a X hb g hs hh hv, fun i hi => ?_⟩
    rw [← hh] at hi
    have hv' : VT n ops.toList w e st nx (fun e st nx => Rel b ⟨e, st, nx, n⟩ T) := by
      cases w with
      | nil => cases hi
      | node => exact hv
    obtain ⟨s, d, op, ty, ps, af, h1, h2, h3, h4, h5⟩ := VT.child hi hv' ho hd
    have hoi : ops[i]? = some ⟨d, op, ty, ps, af, none⟩ := by simpa using h1
    obtain ⟨k1, k2⟩ := dstV_ok h2
    obtain ⟨v, st1, nx1, k3, k4⟩ := anyV_ok (o := ⟨d, op, ty, ps, af, none⟩) k2
    unfold wpOp
    rw [hoi]
    refine stepG_wp (M := fun _=>True) (k := 3) (ops := ops) (st' := st1) (nx' := nx1) (v := v) g k1 (.inl ⟨rfl, k3⟩) fun X' a' m1 m2 m3 => ?_
    exact ih s _ (updO e d v) st1 nx1 a' X' (Nat.le_trans hb m3) m1 (hs.trans (m2.low hb) (Nat.le_refl _)) h3 h4 h5 k4
theorem WpS.ways {b id n nx : Nat} {ops : Array Oper} {e : Nat → Option V} {st : Nat → Option B} {Q : Exit → S → Prop} (w : Ways) (T : S) (hw : w.ok ops = true) (hq : Q .normal T)
    (h : VTx n ops.toList w e st nx fun e st nx => Rel b ⟨e, st, nx, n⟩ T) : WpS b (.region id ops true) ⟨e, st, nx, n⟩ Q := by
  simp only [Ways.ok, Bool.and_eq_true] at hw
  obtain ⟨⟨h1, h2⟩, h3⟩ := hw
  refine ⟨.normal, T, hq, fun H X a hb g => wp_region_any (by rfl) ?_⟩
  obtain ⟨k1, k2⟩ := g.toHs.world { X.w with drawn := X.w.drawn + 1 } rfl
  have g' := g.step k1 k2 (Nat.le_refl _)
  exact ways_wp ops.size w _ e st nx a _ hb g' (k2.low hb) (natsEq_eq h1) h2 (Nat.le_of_ble_eq_true h3) h
theorem OpX.build0 {t n el : Nat} {c ce : C} {r re : List C} (hz : (ty t).z = c :: r) (hd : (ty t).d = .arr n el) (hze : (ty el).z = ce :: re) {o : Oper} (ho : o.op = .build t #[]) {e : Nat → Option V} {st : Nat → Option B} {nx : Nat} : OpX o e st nx (.ag (c :: r)) st nx :=
  .of_ym fun H X a hs hk => by
    obtain ⟨dst, op, type, pos, after, guard⟩ := o
    cases ho
    obtain ⟨v, g1, g2, g3⟩ := run_zeroValue hz
    have hun := ty_arr hd
    obtain ⟨_, ie, _, hie, _⟩ := zero_of hze
    obtain ⟨_, i, v', hi, hv', _, _, _, _⟩ := zero_of hz
    have hvv : v' = v := by have := g1 X.w; simp [zeroValue, typeInfo, hi, hv'] at this; exact this
    subst hvv
    have hbt : P.built t ((#[] : Array (Nat × Operand)).map fun (p : Nat × Operand) => (p.1, a.eval p.2)).toList = some v'.cells := by
      unfold Program.built
      rw [hi, hun]
      simp only [hv', hie]
      simp [Instr.fill]
    refine ⟨.value (.agg v'.cells), .agg v'.cells, X, ?_, .inl rfl, hs, .refl _ _, Nat.le_refl _, .ag g2 (fun j x u hx hu => cIs_den (g3 j x u hx hu)), fun nm h => by
      cases h with | ag hm hc =>
      obtain ⟨j, hj⟩ := List.mem_iff_getElem?.1 hm
      have hlt : j < v'.cells.size := by rw [g2]; exact (List.getElem?_eq_some_iff.1 hj).1
      exact (cIs_no (g3 j _ v'.cells[j] hj (by simp [hlt])) nm hc).elim⟩
    have := run_build (P := P) X.w t _ v'.cells hbt
    simp only [execOp, Sem.run_bind]
    rw [this]
    rfl
theorem Rel.nilO {b n nx i nm : Nat} {e : Nat → Option V} {st : Nat → Option B} {cs : List C} {y : B} (h0 : st nm = some (.st cs)) (hi : cs[i]? = some .nsl) (hy : y.size = 0) (hn : ∀ m, ¬ y.Has m) :
    Rel b ⟨e, st, nx, n⟩ ⟨e, upd (upd st nx y) nm (.st (cs.set i (.osl nx 0))), nx + 1, n⟩ := by
  intro H X a hb g
  obtain ⟨g1, s1⟩ := g.toHs.newNil (x := y) hy fun m hm => (hn m hm).elim
  have hlt := (g.bd nm _ h0).1
  have hbd := (g.bd nm _ h0).2
  have h00 : upd st nx y nm = some (.st cs) := by rw [upd_other _ _ (Nat.ne_of_lt hlt)]; exact h0
  have hil : i < cs.length := (List.getElem?_eq_some_iff.1 hi).1
  have g2 := g1.retell (nm := nm) (x := .st cs) (x' := .st (cs.set i (.osl nx 0))) h00 (fun cur c hc => by
    refine ⟨by simpa [B.size] using hc.le, fun j hj => ?_, fun sz hsz => by cases hsz⟩
    have hj' : j < cs.length := by simpa [B.size] using hj
    obtain ⟨u, hu, hu2⟩ := hc.cell j hj'
    by_cases h1 : j = i
    · subst h1
      cases hu2 with | st hj2 hd =>
      rw [hi] at hj2
      cases hj2
      cases hd
      exact ⟨_, hu, .st (c := .osl nx 0) (by simp [hil]) (.osl0 (by simp [Nat.beq_refl]))⟩
    · cases hu2 with | st hj2 hd =>
      exact ⟨u, hu, .st (by rw [List.getElem?_set_ne (Ne.symm h1)]; exact hj2) hd⟩) (by simp [B.size]) (fun m hm => by
    cases hm with | @st _ c1 _ h5 h6 =>
    rcases List.mem_or_eq_of_mem_set h5 with h7 | h7
    · exact Nat.lt_succ_of_lt (hbd m (.st h7 h6))
    · subst h7; have h8 : nx = m := h6; subst h8; exact Nat.lt_succ_self _)
  refine ⟨⟨fun k => bif Nat.beq k nx then none else X.ν k, X.I, X.w⟩, rfl, { toHs := g2, dn := g.dn, n := g.n, env := fun t v hv => ?_ }, s1.low hb, Nat.le_succ_of_le hb⟩
  obtain ⟨⟨u, h1, h2⟩, h3⟩ := g.env t v hv
  exact ⟨⟨u, h1, h2.step s1 h3⟩, fun m h => Nat.lt_succ_of_lt (h3 m h)⟩
theorem RelM.then_same {b nx : Nat} {v v' : V} {st st' : Nat → Option B} {L : List (Option B)} (r : RelM b v st nx v' st' nx) (h : stEq st' id 0 L) (hl : Nat.beq L.length nx = true) : RelM b v st nx v' (mkS L) L.length := by
  have hl := Nat.eq_of_beq_eq_true hl
  rw [hl]
  have hm : ∀ m x, mkS L m = some x → st' m = some x := fun m x hx => by have := mkS_eq h m x hx; rwa [B.ren_id1, Nat.zero_add] at this
  have hne : ∀ m, mkS L m ≠ none → st' m ≠ none := fun m hm' => by
    obtain ⟨y, hy⟩ := Option.ne_none_iff_exists'.1 hm'
    rw [hm m y hy]; simp
  refine ⟨r.le, r.has, fun H X u g hd => ?_⟩
  obtain ⟨X', h1, g', h3, h4⟩ := r.go H X u g hd
  exact ⟨X', h1, { blk := fun m x hx => g'.blk m x (hm m x hx), inj := fun m m' b c c' h1 h2 => g'.inj m m' b c c' (hne m h1) (hne m' h2), sep := fun m b c h1 => g'.sep m b c (hne m h1), bd := fun m x hx => g'.bd m x (hm m x hx), fr := g'.fr, sz := g'.sz, imm := g'.imm, out := g'.out, gl := g'.gl }, h3, h4⟩
theorem Rel.nilE {b n nx t : Nat} {e : Nat → Option V} {st : Nat → Option B} (y : B) (ht : e t = some (.c .nsl)) (hy : y.size = 0) (hn : ∀ m, ¬ y.Has m) :
    Rel b ⟨e, st, nx, n⟩ ⟨upd e t (.c (.osl nx 0)), upd st nx y, nx + 1, n⟩ := by
  intro H X a hb g
  obtain ⟨g1, s1⟩ := g.toHs.newNil (x := y) hy fun m hm => (hn m hm).elim
  refine ⟨⟨fun k => bif Nat.beq k nx then none else X.ν k, X.I, X.w⟩, rfl, { toHs := g1, dn := g.dn, n := g.n, env := fun t' v hv => ?_ }, s1.low hb, Nat.le_succ_of_le hb⟩
  by_cases h : t' = t
  · subst h
    rw [show (⟨upd e t' (.c (.osl nx 0)), upd st nx y, nx + 1, n⟩ : S).env = upd e t' (.c (.osl nx 0)) from rfl, upd_same] at hv
    cases hv
    obtain ⟨⟨u, h1, h2⟩, _⟩ := g.env t' _ ht
    refine ⟨⟨u, h1, ?_⟩, fun nm h => by cases h with | c h => have : nx = nm := h; subst this; exact Nat.lt_succ_self _⟩
    cases h2 with | c h2 => cases h2; exact .c (.osl0 (by simp [Nat.beq_refl]))
  · have hv' : e t' = some v := by
      have : (⟨upd e t (.c (.osl nx 0)), upd st nx y, nx + 1, n⟩ : S).env t' = e t' := upd_other _ _ h
      rw [← this]; exact hv
    obtain ⟨⟨u, h1, h2⟩, h3⟩ := g.env t' v hv'
    exact ⟨⟨u, h1, h2.step s1 h3⟩, fun nm h => Nat.lt_succ_of_lt (h3 nm h)⟩
theorem RelM.frz0 {b nx : Nat} {c c' : C} {st st' : Nat → Option B} {φ : Prop} (hf : frzC c st = .cond φ c' st') (hφ : φ) (hb : b ≤ nx) : RelM b (.c c) st nx (.c c') st' nx := by
  have hno : ∀ nm, ¬ c'.Has nm := by
    have key : ∀ z : Fz C, z = frzC c st → z = .cond φ c' st' → ∀ nm, ¬ c'.Has nm := by
      intro z hz h nm hn
      unfold frzC at hz
      repeat' split at hz
      all_goals (subst hz; first | (cases h; exact hn) | cases h)
    exact key _ rfl hf
  refine ⟨hb, fun nm h => by cases h with | c hh => exact (hno nm hh).elim, fun H X u g hd => ?_⟩
  cases hd with
  | c h0 =>
    have hz := frzC_ok g h0
    rw [hf] at hz
    obtain ⟨⟨X', k1, k2⟩, _⟩ := hz hφ
    exact ⟨X', k1.w, k1.hs, ⟨fun nm _ => by rw [k1.ν], k1.step.I, k1.step.cell⟩, .c k2⟩
theorem RelM.to {b nx : Nat} {v v' : V} {st st' : Nat → Option B} (L : List (Option B)) (r : RelM b v st nx v' st' nx) (h : stEq st' id 0 L) (hv : v'.lo L.length = true) (hL : allS L.length L = true) (hb : b ≤ L.length) : RelM b v st nx v' (mkS L) L.length := by
  have hm : ∀ m x, mkS L m = some x → st' m = some x := fun m x hx => by have := mkS_eq h m x hx; rwa [B.ren_id1, Nat.zero_add] at this
  have hne : ∀ m, mkS L m ≠ none → st' m ≠ none := fun m hm' => by
    obtain ⟨y, hy⟩ := Option.ne_none_iff_exists'.1 hm'
    rw [hm m y hy]; simp
  refine ⟨hb, V.lo_ok hv, fun H X u g hd => ?_⟩
  obtain ⟨X', h1, g', h3, h4⟩ := r.go H X u g hd
  exact ⟨X', h1, { blk := fun m x hx => g'.blk m x (hm m x hx), inj := fun m m' b c c' h1 h2 => g'.inj m m' b c c' (hne m h1) (hne m' h2), sep := fun m b c h1 => g'.sep m b c (hne m h1), bd := fun m x hx => mkS_all hL m x hx, fr := g'.fr, sz := g'.sz, imm := g'.imm, out := g'.out, gl := g'.gl }, h3, h4⟩
theorem RelM.frzAg {b nx : Nat} {cs cs' : List C} {st st' : Nat → Option B} {φ : Prop} (hf : frzL cs st = .cond φ cs' st') (hφ : φ) (hb : b ≤ nx) (hno : belowL 0 cs' = true) : RelM b (.ag cs) st nx (.ag cs') st' nx := by
  have hno' : ∀ nm, ¬ (V.ag cs').Has nm := fun nm h => by
    cases h with | ag hm hc => exact absurd (C.lo_ok (belowL_ok hno _ hm) nm hc) (Nat.not_lt_zero _)
  refine ⟨hb, fun nm h => (hno' nm h).elim, fun H X u g hd => ?_⟩
  cases hd with
  | @ag _ cells hs h =>
    have hz := frzL_ok (us := cells.toList) g (by simpa using hs) (fun i c w hc hw => h i c w hc (by simpa using hw))
    rw [hf] at hz
    obtain ⟨⟨X', k1, k2⟩, k3, _⟩ := hz hφ
    exact ⟨X', k1.w, k1.hs, ⟨fun nm _ => by rw [k1.ν], k1.step.I, k1.step.cell⟩, .ag (by rw [hs, k3]) fun i c w hc hw => k2 i c w hc (by simpa using hw)⟩
theorem FnS.arg {f : Nat} {vs vs' : List V} {l : List (Option B)} {K : V → List (Option B) → Prop} (h : FnS f vs' l K) (hl : vs.length = vs'.length)
    (ha : ∀ (X : Ctx) (i : Nat) v u, vs[i]? = some v → VDen X v u → ∃ v', vs'[i]? = some v' ∧ VDen X v' u ∧ ∀ nm, v'.Has nm → v.Has nm) : FnS f vs l K := by
  obtain ⟨v, l', h1, h2⟩ := h
  refine ⟨v, l', h1, h2.enter, h2.le, h2.has, fun H X us g hlen hd => h2.run H X us g (by rw [hlen, hl]) fun i v' u hv' hu => ?_⟩
  have hi : i < vs.length := by rw [hl]; exact (List.getElem?_eq_some_iff.1 hv').1
  obtain ⟨k1, k2⟩ := hd i vs[i] u (List.getElem?_eq_getElem hi) hu
  obtain ⟨v2, m1, m2, m3⟩ := ha X i _ u (List.getElem?_eq_getElem hi) k1
  rw [hv'] at m1
  cases m1
  exact ⟨m2, fun nm hn => k2 nm (m3 nm hn)⟩
def Idle (g k : Nat) : Prop := ∀ (args : Array Value) (w : World), args.size = k → CallsD P g args .returning w fun e u' w' => (∃ v, e = .returned v) ∧ u' = .returning ∧ w' = w
theorem idle12 : Idle 12 2 := by
  intro args w hs
  obtain ⟨l⟩ := args
  match l, hs with
  | [p, q], _ =>
  refine callsD_of_wpS (fn := Proofs.Tryz.f12) rfl rfl fun c₀ cs hu => ?_
  apply wpS_seq
  apply wpS_region
  simp [wpOpsS, go_sem, recoverD, hu, Exit.thenS, Proofs.Tryz.f12, Region.wanted]
  refine wpS_cond (t := false) (by simp [Act.eval]) ?_
  refine wpS_of_wp (wp_skip ?_)
  cases c₀
  simp_all [bodyPostS, results, Exit.thenS]
theorem enter12 (args : Array Value) (w : World) : (callFunc 12 args).run P w = .ok (.enter 12 args) w := by
  have : P.funcs[12]? = some Proofs.Tryz.f12 := rfl
  simp [callFunc, this, Proofs.Tryz.f12]
theorem FnS.wpD {f g k : Nat} (fn : Func) {c0 c2 : Code} {id t n b : Nat} {caps : Array Operand} {ty ty' : TypeId} {ps ps' : String} {af af' : Array Edge} {rs : List ResultVar} {vs : List V} {l : List (Option B)} {K : V → List (Option B) → Prop} (hf : P.funcs[f]? = some fn)
    (hb : fn.body = some (.seq c0 (.seq (.region id #[⟨some t, .makeFunc (.func g) #[] caps, ty, ps, af, none⟩, ⟨none, .defer ⟨.value (.tmp t), #[], #[]⟩, ty', ps', af', none⟩] false) c2))) (hn : (fn.name == "runtime.NumGoroutine") = false)
    (hm : fn.ntmps = n) (hr : fn.results.toList = rs) (hl : l.length = b) (hi : Idle g k) (hcf : ∀ (args : Array Value) (w : World), (callFunc g args).run P w = .ok (.enter g args) w) (hk : caps.size = k) (ht : t < n)
    (h : WpN b n c0 (envL vs) (mkS l) b fun x e st nx => x = .normal ∧ WpN b n c2 (del e t) st nx (EndR rs b n K)) : FnS f vs l K := by
  subst hm hr hl
  have he : envL vs = envA vs := funext fun t => envL_eq vs t
  rw [he] at h
  obtain ⟨x0, e0, st0, nx0, ⟨rfl, x, e', st', nx', hx, hrun⟩, hrun0⟩ := h
  have hx' : (x = .normal ∨ x = .ret) ∧ ∃ rv l0 v l', resV ⟨e', st', nx', fn.ntmps⟩ fn.results.toList = some rv ∧ resOf rv = v.ren (al l0) ∧ (renOk l.length l0 [] l' fn.ntmps fn.ntmps && v.lo l'.length) = true ∧ stEq st' (al l0) 0 l' ∧ K v l' := by
    unfold EndR at hx
    have fin : ∀ {q : Prop}, q → (match resV ⟨e', st', nx', fn.ntmps⟩ fn.results.toList with
        | some vs => ∃ l0 v l', resOf vs = v.ren (al l0) ∧ (renOk l.length l0 [] l' fn.ntmps fn.ntmps && v.lo l'.length) = true ∧ stEq st' (al l0) 0 l' ∧ K v l'
        | none => False) → q ∧ ∃ rv l0 v l', resV ⟨e', st', nx', fn.ntmps⟩ fn.results.toList = some rv ∧ resOf rv = v.ren (al l0) ∧ (renOk l.length l0 [] l' fn.ntmps fn.ntmps && v.lo l'.length) = true ∧ stEq st' (al l0) 0 l' ∧ K v l' := fun hq h => by
      split at h
      · rename_i vs hv
        obtain ⟨l0, v, l', k⟩ := h
        exact ⟨hq, vs, l0, v, l', hv, k⟩
      · exact h.elim
    cases x with
    | normal => exact fin (.inl rfl) hx
    | ret => exact fin (.inr rfl) hx
    | _ => exact hx.elim
  obtain ⟨hex, rv, l0, v, l', hres, hv, hchk, hst, hK⟩ := hx'
  simp only [Bool.and_eq_true] at hchk
  obtain ⟨hok, hlo⟩ := hchk
  have hren : Ren l.length (al l0) ⟨e', st', nx', fn.ntmps⟩ (mkSt [] l' fn.ntmps) := Ren.of l0 hok trivial hst
  refine ⟨v, l', hK, ⟨fn, hf, by rw [hb]; rfl, hn⟩, hren.b, V.lo_ok hlo, fun H X us gg hl hd => ?_⟩
  let a : Act := { tmps := us.toArray ++ Array.replicate (fn.ntmps - us.toArray.size) undef, defers := [] }
  have g0 : Γ { H with ds := [] } ⟨envA vs, mkS l, l.length, fn.ntmps⟩ X a := by
    refine { toHs := gg.ds [], dn := rfl, n := by simp [a]; omega, env := fun t v hv => ?_ }
    have hv' : vs[t]? = some v := hv
    have htl : t < us.length := by rw [hl]; exact (List.getElem?_eq_some_iff.1 hv').1
    obtain ⟨h1, h2⟩ := hd t v us[t] hv' (List.getElem?_eq_getElem htl)
    exact ⟨⟨us[t], by simp [a, Array.getElem?_append, htl], h1⟩, h2⟩
  refine calls_of_wp_defers hf hb (wp_seq (wp_mono (hrun0 { H with ds := [] } X a (Nat.le_refl _) g0) fun y a1 w1 ⟨h9, X1, h10, g1, hs1, hb1⟩ => ?_))
  subst h9 h10
  simp only [Exit.then]
  refine wp_seq (wp_region ?_)
  have hdn := g1.dn
  simp [wpOps, Oper.wp, go_sem, Exit.then, Region.wanted, execOp, Act.eval]
  refine .inl (.inl ?_)
  have hts : t < a1.tmps.size := Nat.lt_of_lt_of_le ht g1.n
  simp only [hts, if_true]
  simp [go_sem]
  have hdn' : a1.defers = [] := hdn
  let d : Deferred := { target := .fn (.func g) (caps.map a1.eval), args := #[] }
  let a2 : Act := { tmps := a1.tmps.setIfInBounds t (Value.func (.func g) #[] (caps.map a1.eval)), defers := [d] }
  have g2 : Γ { H with ds := [d] } ⟨del e0 t, st0, nx0, fn.ntmps⟩ X1 a2 := by
    refine { toHs := g1.toHs.nods.ds [d], dn := rfl, n := by show _ ≤ (a1.tmps.setIfInBounds t _).size; rw [Array.size_setIfInBounds]; exact g1.n, env := fun t' v' hv' => ?_ }
    by_cases hq : t' = t
    · subst hq
      have : del e0 t' t' = some v' := hv'
      rw [del_same] at this; cases this
    · have hv2 : e0 t' = some v' := by
        have : del e0 t t' = some v' := hv'
        rwa [del_other _ hq] at this
      obtain ⟨⟨u, k1, k2⟩, k3⟩ := g1.env t' v' hv2
      exact ⟨⟨u, by show (a1.tmps.setIfInBounds t _)[t']? = some u; rw [Array.getElem?_setIfInBounds_ne (Ne.symm hq)]; exact k1, k2⟩, k3⟩
  have hw := hrun { H with ds := [d] } X1 a2 hb1 g2
  have e2 : ({ tmps := a1.tmps.setIfInBounds t (Value.func (.func g) #[] (caps.map a1.eval)), defers := { target := .fn (.func g) (caps.map a1.eval), args := #[] } :: a1.defers } : Act) = a2 := by rw [hdn']
  rw [e2]
  refine wp_mono hw fun y a' w' ⟨h9, X', h10, g', hs, hb'⟩ => ?_
  subst h9 h10
  have fin : Leaves P fn a'.tmps (fun e w' => ∃ u, e = Ending.returned u ∧ ∃ x, x.w = w' ∧ Hs H (mkS l') l'.length x ∧ Step l.length X x ∧ VDen x v u) a'.defers .returning X'.w := by
    obtain ⟨u, k1, k2, k3⟩ := run_results g' fn hres
    obtain ⟨g2, s2⟩ := g'.ren hren
    rw [hv] at k2
    rw [g'.dn]
    refine leaves_cons (f := g) (args := caps.map a1.eval) (by simp) (by simp [invoke, go_sem, hcf]) ?_
    refine (hi _ _ (by simp [hk])).mono ?_
    rintro e u' w'' ⟨⟨v2, rfl⟩, rfl, rfl⟩
    exact ⟨u, k1, u, rfl, X'.ren (al l0), rfl, g2.toHs.nods, (hs1.trans hs (Nat.le_refl _)).trans s2 (Nat.le_refl _), k2.of_ren (fun _ _ => rfl) (fun _ h => h) (fun _ _ _ h => h)⟩
  rcases hex with rfl | rfl
  · exact fin
  · exact fin
def C.val : C → Option Value
  | .kv u => some u
  | .i k n => some (.int k n)
  | .b x => some (.bool x)
  | _ => none
theorem C.val_eq {X : Ctx} {c : C} {u u' : Value} (h : Den X c u) (hv : c.val = some u') : u = u' := by
  cases h <;> first | (cases hv; rfl) | cases hv
theorem C.val_den {X : Ctx} {c : C} {u : Value} (hv : c.val = some u) : Den X c u ∧ ∀ nm, ¬ c.Has nm := by
  cases c <;> first | (cases hv; exact ⟨by constructor, fun _ h => h.elim⟩) | cases hv
theorem OpX.val {o : Oper} {e : Nat → Option V} {st : Nat → Option B} {nx : Nat} {c : C} {r : Value} (hc : c.val = some r) (h : ∀ (X : Ctx) (a : Act), Seen o e a X nx → ∀ w, (execOp a.eval o).run P w = .ok (.value r) w) : OpX o e st nx (.c c) st nx :=
  .of_ym fun H X a hs hk => ⟨.value r, r, X, h X a hk X.w, .inl rfl, hs, .refl _ _, Nat.le_refl _, .c (C.val_den hc).1, fun nm hn => by cases hn with | c hn => exact ((C.val_den (X := X) hc).2 nm hn).elim⟩
theorem Seen.val {o : Oper} {e : Nat → Option V} {a : Act} {X : Ctx} {nx : Nat} (h : Seen o e a X nx) {x : Operand} {c : C} {u : Value} (hx : x ∈ o.op.operands) (he : rd e x = some (.c c)) (hv : c.val = some u) : a.eval x = u := by
  obtain ⟨h1, _⟩ := h x hx _ he
  cases h1 with | c h1 => exact C.val_eq h1 hv
theorem OpX.bin {o : Oper} {e : Nat → Option V} {st : Nat → Option B} {nx t t2 : Nat} {b : BinOp} {x y : Operand} {cx cy c : C} {m n : Nat} {r : Value} (ho : o.op = .binOp b t x y t2) (hx : rd e x = some (.c cx)) (hy : rd e y = some (.c cy)) (hu : cx.val = some (.float .f64 m)) (hv : cy.val = some (.float .f64 n))
    (hc : c.val = some r) (h : ∀ w, (binOp b t (.float .f64 m) (.float .f64 n)).run P w = .ok r w) : OpX o e st nx (.c c) st nx :=
  .val hc fun X a hk w => by
    have e1 := hk.val (by simp [ho, Op.operands]) hx hu
    have e2 := hk.val (by simp [ho, Op.operands]) hy hv
    have e3 : (eqGuard b t x y (.float .f64 m) (.float .f64 n)).run P w = .ok () w := by cases b <;> rfl
    simp [execOp, ho, e1, e2, e3, h]
theorem OpX.conv {o : Oper} {e : Nat → Option V} {st : Nat → Option B} {nx s d : Nat} {x : Operand} {cx c : C} {u r : Value} (ho : o.op = .convert s d x) (hx : rd e x = some (.c cx)) (hu : cx.val = some u) (hc : c.val = some r) (h : ∀ w, (convert s d u).run P w = .ok r w) : OpX o e st nx (.c c) st nx :=
  .val hc fun X a hk w => by
    have e1 := hk.val (by simp [ho, Op.operands]) hx hu
    simp [execOp, ho, e1, h]
theorem OpX.ext {o : Oper} {e : Nat → Option V} {st : Nat → Option B} {nx f : Nat} {x : Operand} {ts : Array TypeId} {fn : Func} {ex : Array Value → Sem Value} {cx c : C} {u r : Value} (ho : o.op = .call ⟨.value (.func f), #[x], ts⟩) (hx : rd e x = some (.c cx)) (hu : cx.val = some u) (hc : c.val = some r)
    (hf : P.funcs[f]? = some fn) (hb : fn.body = none) (hn : (fn.name == "runtime.NumGoroutine") = false) (h1 : (Extern.findNext fn).isNone = true) (h2 : Extern.find fn = some ex) (h : ∀ w, (ex #[u]).run P w = .ok r w) : OpX o e st nx (.c c) st nx :=
  .val hc fun X a hk w => by
    have e1 := hk.val (by simp [ho, Op.operands, Call.operands]) hx hu
    have hn' : fn.name ≠ "runtime.NumGoroutine" := fun hq => by rw [hq] at hn; simp at hn
    have h1' : Extern.findNext fn = none := by simpa using h1
    have e0 : a.eval (.func f) = .func (.func f) #[] #[] := rfl
    simp [execOp, ho, e0, resolve, invoke, Deferred.ofValue, callFunc, hf, hn', hb, h1', h2, e1, h]
@[reducible] def fl (x : Nat) : C := .kv (.float .f64 x)
end Go.SX
