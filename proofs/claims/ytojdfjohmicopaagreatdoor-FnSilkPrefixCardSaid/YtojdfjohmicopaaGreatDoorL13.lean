/- A part of the proof: the SILK decoder of the given program, walked by an executor that is proved sound. No statement of the program is proved in this text. -/
import Derived.Test.YtojdfjohmicopaaGreatDoorL11
import Derived.Test.YtojdfjohmicopaaGreatDoorL12
set_option linter.all false
set_option maxRecDepth 100000
namespace Go.SX
open Go
def mrgF (α : Nat → Nat) : Nat → List (Option B) → List (Option B) → (Nat → Option B) → Nat → Option B
  | _, _, [], st => st
  | i, k, some x :: r, st => mrgF α (i + 1) k.tail r (upd st (α i) (x.ren α))
  | i, some _ :: k, none :: r, st => mrgF α (i + 1) k r (del st (α i))
  | i, k, none :: r, st => mrgF α (i + 1) k.tail r st
theorem mkS_tail (k : List (Option B)) (i : Nat) : mkS k.tail i = mkS k (i + 1) := by cases k <;> rfl
theorem mrgF_spec {α : Nat → Nat} (hα : ∀ i j, α i = α j → i = j) (m : Nat) : ∀ {l k : List (Option B)} {i : Nat} {st : Nat → Option B},
    (∃ j, j < l.length ∧ α (i + j) = m ∧ mrgF α i k l st m = (mkS l j).map (B.ren α)) ∨ ((∀ j, j < l.length → α (i + j) = m → mkS k j = none) ∧ mrgF α i k l st m = st m)
  | [], k, i, st => .inr ⟨fun j h => by simp at h, by unfold mrgF; rfl⟩
  | x :: r, k, i, st => by
    have ih := fun st => mrgF_spec hα m (l := r) (k := k.tail) (i := i + 1) (st := st)
    have fin : ∀ {st' : Nat → Option B}, (∀ m, m ≠ α i → st' m = st m) → st' (α i) = x.map (B.ren α) → mrgF α i k (x :: r) st m = mrgF α (i + 1) k.tail r st' m →
        (∃ j, j < (x :: r).length ∧ α (i + j) = m ∧ mrgF α i k (x :: r) st m = (mkS (x :: r) j).map (B.ren α)) ∨ ((∀ j, j < (x :: r).length → α (i + j) = m → mkS k j = none) ∧ mrgF α i k (x :: r) st m = st m) := by
      intro st' h1 h2 h3
      rcases ih st' with ⟨j, k1, k2, k3⟩ | ⟨k1, k2⟩
      · exact .inl ⟨j + 1, by simp; omega, by rw [show i + (j + 1) = i + 1 + j by omega]; exact k2, by rw [h3, k3]; rfl⟩
      · by_cases hm : α i = m
        · exact .inl ⟨0, by simp, hm, by rw [h3, k2, ← hm, h2]; rfl⟩
        · refine .inr ⟨fun j hj ha => ?_, by rw [h3, k2, h1 m (Ne.symm hm)]⟩
          cases j with
          | zero => exact (hm ha).elim
          | succ j => rw [show i + (j + 1) = i + 1 + j by omega] at ha; have := k1 j (by simpa using hj) ha; rwa [mkS_tail] at this
    cases x with
    | some b => exact fin (st' := upd st (α i) (b.ren α)) (fun m hm => upd_other _ _ hm) (by rw [upd_same]; rfl) (by simp only [mrgF])
    | none =>
      have keep : mkS k 0 = none → mrgF α i k (none :: r) st m = mrgF α (i + 1) k.tail r st m →
          (∃ j, j < (none :: r).length ∧ α (i + j) = m ∧ mrgF α i k (none :: r) st m = (mkS (none :: r) j).map (B.ren α)) ∨ ((∀ j, j < (none :: r).length → α (i + j) = m → mkS k j = none) ∧ mrgF α i k (none :: r) st m = st m) := by
        intro h0 h3
        rcases ih st with ⟨j, k1, k2, k3⟩ | ⟨k1, k2⟩
        · exact .inl ⟨j + 1, by simp; omega, by rw [show i + (j + 1) = i + 1 + j by omega]; exact k2, by rw [h3, k3]; rfl⟩
        · refine .inr ⟨fun j hj ha => ?_, by rw [h3, k2]⟩
          cases j with
          | zero => exact h0
          | succ j => rw [show i + (j + 1) = i + 1 + j by omega] at ha; have := k1 j (by simpa using hj) ha; rwa [mkS_tail] at this
      cases k with
      | nil => exact keep rfl (by simp only [mrgF])
      | cons y k => cases y with
        | none => exact keep rfl (by simp only [mrgF])
        | some y => exact fin (st' := del st (α i)) (fun m hm => del_other _ hm) (by rw [del_same]; rfl) (by simp only [mrgF, List.tail_cons])
theorem CallX.useF {f : Nat} {vs : List V} {l l' : List (Option B)} {v : V} {st : Nat → Option B} {nx : Nat} (ρ : List Nat) (h : CallX f vs (mkS l) l.length v (mkS l') l'.length) (hlen : ρ.length = l.length)
    (hnd : noDup ρ = true) (hlt : allLt nx ρ = true) (hst : stEq st (sh ρ nx) 0 l) (hvs : belowVs l.length vs = true) (hbd : allS l.length l = true) :
    CallX f (renVs (sh ρ nx) vs) st nx (v.ren (sh ρ nx)) (mrgF (sh ρ nx) 0 l l' st) (nx + (l'.length - ρ.length)) := by
  generalize hα : sh ρ nx = α at *
  have inj : ∀ i j, α i = α j → i = j := fun i j he => by subst hα; exact sh_inj hnd hlt he
  have low : ∀ i, i < l.length → α i < nx := fun i hi => by subst hα; exact allLt_ok hlt _ (sh_old (by omega))
  have high : ∀ i, l.length ≤ i → α i = nx + (i - ρ.length) := fun i hi => by subst hα; exact sh_new (by omega)
  have lt' : ∀ i, i < l'.length → α i < nx + (l'.length - ρ.length) := fun i hi => by subst hα; exact sh_lt hlt (by rw [hlen]; exact h.le) hi
  have hlst : ∀ i x, mkS l i = some x → st (α i) = some (x.ren α) := fun i x hx => by have := mkS_eq hst i x hx; rwa [Nat.zero_add] at this
  have hne : ∀ i, mkS l i ≠ none → st (α i) ≠ none := fun i hi => by
    obtain ⟨y, hy⟩ := Option.ne_none_iff_exists'.1 hi
    rw [hlst i y hy]; simp
  refine ⟨h.enter, Nat.le_add_right _ _, fun nm hn => ?_, fun H X us g hl hd => ?_⟩
  ·
    have : ∀ {w : V} {m : Nat}, (w.ren α).Has m → ∃ k, w.Has k ∧ α k = m := by
      intro w m hm
      generalize hq : w.ren α = q at hm
      have cc : ∀ {c : C} {m : Nat}, (c.ren α).Has m → ∃ k, c.Has k ∧ α k = m := fun {c m} hm => by
        cases c <;> first | exact ⟨_, rfl, hm⟩ | exact hm.elim
      induction hm generalizing w with
      | c h => cases w <;> simp only [V.ren] at hq <;> cases hq; obtain ⟨k, k1, k2⟩ := cc h; exact ⟨k, .c k1, k2⟩
      | ag hc h =>
        cases w <;> simp only [V.ren] at hq <;> cases hq
        obtain ⟨c, hc', rfl⟩ := List.mem_map.1 hc
        obtain ⟨k, k1, k2⟩ := cc h; exact ⟨k, .ag hc' k1, k2⟩
      | tu hv h ih =>
        cases w <;> simp only [V.ren] at hq <;> cases hq
        rw [renVs_eq] at hv
        obtain ⟨v', hv', rfl⟩ := List.mem_map.1 hv
        obtain ⟨k, k1, k2⟩ := ih rfl; exact ⟨k, .tu hv' k1, k2⟩
    obtain ⟨k, k1, k2⟩ := this hn
    rw [← k2]; exact lt' k (h.has k k1)
  · let X0 : Ctx := ⟨fun i => if i < l.length then X.ν (α i) else none, X.I, X.w⟩
    let H0 : Hp := ⟨X.w, fun b => ∃ i c, mkS l i ≠ none ∧ X.ν (α i) = some (b, c), X.I, []⟩
    have ν0 : ∀ i, i < l.length → X0.ν i = X.ν (α i) := fun i hi => if_pos hi
    have g0 : Hs H0 (mkS l) l.length X0 := by
      refine { blk := fun i x hx => ?_, inj := fun i j bl c c' hi hj e e' => ?_, sep := fun i bl c hi e => ?_, bd := fun i x hx => mkS_all hbd i x hx, fr := fun _ _ _ => rfl, sz := Nat.le_refl _, imm := fun bl hb => ⟨(g.imm bl hb).1, .inl hb⟩, out := ⟨rfl, rfl⟩, gl := g.gl }
      · have h1 := g.blk (α i) _ (hlst i x hx)
        have hil := mkS_all hbd i x hx
        unfold BDen at h1 ⊢
        rw [ν0 i hil.1]
        cases hq : X.ν (α i) with
        | none => rw [hq] at h1; simpa [B.ren_size] using h1
        | some q =>
          obtain ⟨bl, c⟩ := q
          rw [hq] at h1
          obtain ⟨cur, ty, h2, h3⟩ := h1
          exact ⟨cur, ty, h2, h3.of_ren (fun nm hn => ν0 nm (hil.2 nm hn)) (fun _ h => h) (fun _ _ _ h => h)⟩
      · have hi' := mkS_lt hi; have hj' := mkS_lt hj
        rw [ν0 i hi'] at e; rw [ν0 j hj'] at e'
        exact inj i j (g.inj (α i) (α j) bl c c' (hne i hi) (hne j hj) e e')
      · rw [ν0 i (mkS_lt hi)] at e
        exact ⟨(g.sep (α i) bl c (hne i hi) e).1, .inl ⟨i, c, hi, e⟩⟩
    have hd0 : ∀ (i : Nat) v u, vs[i]? = some v → us[i]? = some u → VDen X0 v u ∧ ∀ nm, v.Has nm → nm < l.length := fun i v u hv hu => by
      have hb := V.lo_ok (belowVs_ok hvs v (List.mem_of_getElem? hv))
      exact ⟨(hd i (v.ren α) u (by rw [renVs_eq]; simp [hv]) hu).1.of_ren (fun nm hn => ν0 nm (hb nm hn)) (fun _ h => h) (fun _ _ _ h => h), hb⟩
    refine (h.run H0 X0 us g0 (by rw [hl, renVs_eq]; simp) hd0).mono fun e w' hen => ?_
    obtain ⟨u, X1, rfl, rfl, g1, s1, d1⟩ := hen
    let X' : Ctx := ⟨fun m => if m < nx then X.ν m else X1.ν (ρ.length + (m - nx)), X1.I, X1.w⟩
    have νl : ∀ m, m < nx → X'.ν m = X.ν m := fun m hm => if_pos hm
    have ν' : ∀ i, i < l'.length → X'.ν (α i) = X1.ν i := fun i hi => by
      by_cases hil : i < l.length
      · rw [νl _ (low i hil), ← ν0 i hil, s1.ν i hil]
      · show (if α i < nx then _ else _) = _
        rw [high i (by omega), if_neg (by omega)]
        congr 1
        omega
    have hI : ∀ b, X.I b → X'.I b := s1.I
    have hc : ∀ (a : Addr) u, X.I a.block → X.w.cell? a = some u → X'.w.cell? a = some u := s1.cell
    have hle : l.length ≤ l'.length := h.le
    have spec := fun m => mrgF_spec inj m (k := l) (l := l') (i := 0) (st := st)
    simp only [Nat.zero_add] at spec
    have apart : ∀ m y bl c, (∀ k, k < l'.length → α k = m → mkS l k = none) → st m = some y → X.ν m = some (bl, c) → bl < X.w.heap.size ∧ ¬ H0.own0 bl := fun m y bl c hk hy hn => by
      refine ⟨g.lt hy hn, ?_⟩
      rintro ⟨i, c', hi, e⟩
      exact hi (hk i (by have := mkS_lt hi; omega) (g.inj (α i) m bl c' c (hne i hi) (by rw [hy]; simp) e hn))
    have own : ∀ bl, H0.own0 bl → H.own0 bl ∨ H.w0.heap.size ≤ bl := by
      rintro bl ⟨i, c, hi, e⟩
      exact (g.sep (α i) bl c (hne i hi) e).2
    have ownI : ∀ bl, H0.own0 bl → ¬ X.I bl := by
      rintro bl ⟨i, c, hi, e⟩
      exact (g.sep (α i) bl c (hne i hi) e).1
    have mapne : ∀ {o : Option B}, o.map (B.ren α) ≠ none → o ≠ none := fun {o} ho he => ho (by rw [he]; rfl)
    have gsz : X.w.heap.size ≤ X1.w.heap.size := g1.sz
    refine ⟨u, X', rfl, rfl, ?_, ⟨νl, hI, hc⟩, d1.ren (fun nm hn => ν' nm (h.has nm hn)) (fun _ h => h) (fun _ _ _ h => h)⟩
    refine { blk := fun m y hy => ?_, inj := fun m m' bl c c' hm hm' e e' => ?_, sep := fun m bl c hm e => ?_, bd := fun m y hy => ?_, fr := fun b h1 h2 => ?_, sz := Nat.le_trans g.sz gsz, imm := fun b hb => ?_, out := ⟨g1.out.1.trans g.out.1, g1.out.2.trans g.out.2⟩, gl := g1.gl }
    · rcases spec m with ⟨i, i1, i2, i3⟩ | ⟨i1, i2⟩
      · rw [i3] at hy
        obtain ⟨x, hx, rfl⟩ := Option.map_eq_some_iff.1 hy
        have h1 := g1.blk i x hx
        have hbx := (g1.bd i x hx).2
        unfold BDen at h1 ⊢
        rw [← i2, ν' i i1]
        cases hq : X1.ν i with
        | none => rw [hq] at h1; simpa [B.ren_size] using h1
        | some q =>
          obtain ⟨bl, c⟩ := q
          rw [hq] at h1
          obtain ⟨cur, ty, h2, h3⟩ := h1
          exact ⟨cur, ty, h2, h3.ren (fun nm hn => ν' nm (hbx nm hn)) (fun _ h => h) (fun _ _ _ h => h)⟩
      · rw [i2] at hy
        have hb := g.bd m y hy
        refine (g.blk m y hy).mono X' (νl m hb.1) (fun bl c hn => ?_) (fun nm hn => νl nm (hb.2 nm hn)) hI hc
        obtain ⟨k1, k2⟩ := apart m y bl c i1 hy hn
        exact g1.fr bl k1 k2
    · rcases spec m with ⟨i, i1, i2, i3⟩ | ⟨i1, i2⟩ <;> rcases spec m' with ⟨j, j1, j2, j3⟩ | ⟨j1, j2⟩
      · rw [i3] at hm; rw [j3] at hm'
        rw [← i2, ν' i i1] at e; rw [← j2, ν' j j1] at e'
        rw [← i2, ← j2, g1.inj i j bl c c' (mapne hm) (mapne hm') e e']
      · rw [i3] at hm; rw [j2] at hm'
        obtain ⟨y, hy⟩ := Option.ne_none_iff_exists'.1 hm'
        rw [← i2, ν' i i1] at e
        rw [νl m' (g.bd m' y hy).1] at e'
        obtain ⟨k1, k2⟩ := apart m' y bl c' j1 hy e'
        rcases (g1.sep i bl c (mapne hm) e).2 with h | h
        · exact (k2 h).elim
        · exact absurd k1 (Nat.not_lt.2 h)
      · rw [i2] at hm; rw [j3] at hm'
        obtain ⟨y, hy⟩ := Option.ne_none_iff_exists'.1 hm
        rw [← j2, ν' j j1] at e'
        rw [νl m (g.bd m y hy).1] at e
        obtain ⟨k1, k2⟩ := apart m y bl c i1 hy e
        rcases (g1.sep j bl c' (mapne hm') e').2 with h | h
        · exact (k2 h).elim
        · exact absurd k1 (Nat.not_lt.2 h)
      · rw [i2] at hm; rw [j2] at hm'
        obtain ⟨y, hy⟩ := Option.ne_none_iff_exists'.1 hm
        obtain ⟨y', hy'⟩ := Option.ne_none_iff_exists'.1 hm'
        rw [νl m (g.bd m y hy).1] at e
        rw [νl m' (g.bd m' y' hy').1] at e'
        exact g.inj m m' bl c c' hm hm' e e'
    · rcases spec m with ⟨i, i1, i2, i3⟩ | ⟨i1, i2⟩
      · rw [i3] at hm
        rw [← i2, ν' i i1] at e
        obtain ⟨k1, k2⟩ := g1.sep i bl c (mapne hm) e
        refine ⟨k1, ?_⟩
        rcases k2 with h | h
        · exact own bl h
        · exact .inr (Nat.le_trans g.sz h)
      · rw [i2] at hm
        obtain ⟨y, hy⟩ := Option.ne_none_iff_exists'.1 hm
        rw [νl m (g.bd m y hy).1] at e
        obtain ⟨k1, k2⟩ := apart m y bl c i1 hy e
        have hs := g.sep m bl c hm e
        refine ⟨fun hI' => ?_, hs.2⟩
        rcases (g1.imm bl hI').2 with h | h | h
        · exact hs.1 h
        · exact k2 h
        · exact absurd k1 (Nat.not_lt.2 h)
    · rcases spec m with ⟨i, i1, i2, i3⟩ | ⟨i1, i2⟩
      · rw [i3] at hy
        obtain ⟨x, hx, rfl⟩ := Option.map_eq_some_iff.1 hy
        have hb := g1.bd i x hx
        refine ⟨by rw [← i2]; exact lt' i i1, fun k hk => ?_⟩
        cases x with
        | st cs =>
          cases hk with
          | st hc hk =>
            obtain ⟨c0, hc0, rfl⟩ := List.mem_map.1 hc
            have : ∃ k', c0.Has k' ∧ α k' = k := by cases c0 <;> first | exact ⟨_, rfl, hk⟩ | exact hk.elim
            obtain ⟨k', k1, k2⟩ := this
            rw [← k2]; exact lt' k' (hb.2 k' (.st hc0 k1))
        | _ => cases hk
      · rw [i2] at hy
        have hb := g.bd m y hy
        exact ⟨by omega, fun k hk => by have := hb.2 k hk; omega⟩
    · have hx : b < X.w.heap.size := Nat.lt_of_lt_of_le h1 g.sz
      have : ¬ H0.own0 b := fun ho => (own b ho).elim h2 (fun h => by omega)
      exact (g1.fr b hx this).trans (g.fr b h1 h2)
    · obtain ⟨k1, k2⟩ := g1.imm b hb
      refine ⟨k1, ?_⟩
      rcases k2 with h | h | h
      · exact (g.imm b h).2
      · exact (own b h).elim (fun h => .inr (.inl h)) (fun h => .inr (.inr h))
      · exact .inr (.inr (Nat.le_trans g.sz h))
theorem CallQ.useF {f : Nat} {vs₁ : List V} {st : Nat → Option B} {nx : Nat} {K' : V → (Nat → Option B) → Nat → Prop} {vs : List V} {l : List (Option B)} {K : V → List (Option B) → Prop} (ρ : List Nat)
    (h : FnS f vs l K) (hv : vs₁ = renVs (sh ρ nx) vs) (hok : useOk ρ nx vs l = true) (hst : stEq st (sh ρ nx) 0 l)
    (hk : ∀ v l', K v l' → K' (v.ren (sh ρ nx)) (mrgF (sh ρ nx) 0 l l' st) (nx + (l'.length - ρ.length))) : CallQ f vs₁ st nx K' := by
  obtain ⟨v, l', h1, h2⟩ := h
  simp only [useOk, Bool.and_eq_true] at hok
  obtain ⟨⟨⟨⟨k1, k2⟩, k3⟩, k4⟩, k5⟩ := hok
  subst hv
  exact ⟨_, _, _, h2.useF ρ (Nat.eq_of_beq_eq_true k1) k2 k3 hst k4 k5, hk v l' h1⟩
structure RenM (b : Nat) (α : Nat → Nat) (v : V) (st : Nat → Option B) (v' : V) (st' : Nat → Option B) (nx' : Nat) : Prop where
  low : ∀ m, m < b → α m = m
  v : v = v'.ren α
  st : ∀ m x, st' m = some x → st (α m) = some (x.ren α)
  inj : ∀ m m', st' m ≠ none → st' m' ≠ none → α m = α m' → m = m'
  bdV : ∀ m, v'.Has m → m < nx'
  bdS : ∀ m x, st' m = some x → m < nx' ∧ ∀ k, x.Has k → k < nx'
  b : b ≤ nx'
theorem Hs.ren {H : Hp} {st st' : Nat → Option B} {nx nx' b : Nat} {X : Ctx} {α : Nat → Nat} {v v' : V} (g : Hs H st nx X) (r : RenM b α v st v' st' nx') : Hs H st' nx' (X.ren α) ∧ Step b X (X.ren α) := by
  have hne : ∀ m, st' m ≠ none → st (α m) ≠ none := fun m h => by
    obtain ⟨y, hy⟩ := Option.ne_none_iff_exists'.1 h
    rw [r.st m y hy]; simp
  refine ⟨{ blk := fun m x hx => ?_, inj := fun m m' bl c c' h h' e e' => ?_, sep := fun m bl c h e => g.sep (α m) bl c (hne m h) e, bd := r.bdS, fr := g.fr, sz := g.sz, imm := g.imm, out := g.out, gl := g.gl }, ⟨fun m hm => by simp [Ctx.ren, r.low m hm], fun _ h => h, fun _ _ _ h => h⟩⟩
  · have h1 := g.blk (α m) _ (r.st m x hx)
    unfold BDen at h1 ⊢
    show match X.ν (α m) with | none => _ | some (bl, c) => _
    cases hq : X.ν (α m) with
    | none => rw [hq] at h1; simpa [B.ren_size] using h1
    | some q =>
      obtain ⟨bl, c⟩ := q
      rw [hq] at h1
      obtain ⟨cur, ty, h2, h3⟩ := h1
      exact ⟨cur, ty, h2, h3.of_ren (fun _ _ => rfl) (fun _ h => h) (fun _ _ _ h => h)⟩
  · exact r.inj m m' h h' (g.inj (α m) (α m') bl c c' (hne m h) (hne m' h') e e')
structure RelM (b : Nat) (v : V) (st : Nat → Option B) (nx : Nat) (v' : V) (st' : Nat → Option B) (nx' : Nat) : Prop where
  le : b ≤ nx'
  has : ∀ nm, v'.Has nm → nm < nx'
  go : ∀ (H : Hp) (X : Ctx) (u : Value), Hs H st nx X → VDen X v u → ∃ X', X'.w = X.w ∧ Hs H st' nx' X' ∧ Step b X X' ∧ VDen X' v' u
theorem RelM.of_ren {b : Nat} {α : Nat → Nat} {v : V} {st : Nat → Option B} {nx : Nat} {v' : V} {st' : Nat → Option B} {nx' : Nat} (le : b ≤ nx') (has : ∀ nm, v'.Has nm → nm < nx')
    (h : (∀ m x, st m = some x → m < nx ∧ ∀ k, x.Has k → k < nx) → RenM b α v st v' st' nx') : RelM b v st nx v' st' nx' :=
  ⟨le, has, fun H X u g hd => by
    have r := h g.bd
    obtain ⟨g2, s2⟩ := g.ren r
    rw [r.v] at hd
    exact ⟨X.ren α, rfl, g2, s2, hd.of_ren (fun _ _ => rfl) (fun _ h => h) (fun _ _ _ h => h)⟩⟩
theorem CallX.behind {f : Nat} {vs : List V} {st st1 st2 : Nat → Option B} {nx nx1 nx2 : Nat} {v v2 : V} (h : CallX f vs st nx v st1 nx1) (r : RelM nx v st1 nx1 v2 st2 nx2) : CallX f vs st nx v2 st2 nx2 := by
  refine ⟨h.enter, r.le, r.has, fun H X us g hl hd => (h.run H X us g hl hd).mono fun e w' hen => ?_⟩
  obtain ⟨u, X', rfl, rfl, g', hs, k3⟩ := hen
  obtain ⟨X2, h1, g2, s2, d2⟩ := r.go H X' u g' k3
  exact ⟨u, X2, rfl, h1, g2, hs.trans s2 (Nat.le_refl _), d2⟩
theorem CallQ.cut {f : Nat} {vs : List V} {st : Nat → Option B} {nx : Nat} {K : V → (Nat → Option B) → Nat → Prop} {ι : Type} (Inv : ι → Prop) (W : ι → V) (T : ι → Nat → Option B) (N : ι → Nat)
    (h : CallQ f vs st nx fun v st' nx' => ∃ i, Inv i ∧ RelM nx v st' nx' (W i) (T i) (N i)) (hk : ∀ i, Inv i → K (W i) (T i) (N i)) : CallQ f vs st nx K := by
  obtain ⟨v, st', nx', h1, i, h2, h3⟩ := h
  exact ⟨_, _, _, h1.behind h3, hk i h2⟩
theorem CallQ.mono {f : Nat} {vs : List V} {st : Nat → Option B} {nx : Nat} {K K' : V → (Nat → Option B) → Nat → Prop} (h : CallQ f vs st nx K) (hk : ∀ v st nx, K v st nx → K' v st nx) : CallQ f vs st nx K' :=
  let ⟨v, st', nx', h1, h2⟩ := h; ⟨v, st', nx', h1, hk _ _ _ h2⟩
inductive WpN (b n : Nat) (c : Code) (e : Nat → Option V) (st : Nat → Option B) (nx : Nat) (Q : Exit → (Nat → Option V) → (Nat → Option B) → Nat → Prop) : Prop
  | mk (x : Exit) (e' : Nat → Option V) (st' : Nat → Option B) (nx' : Nat) (hq : Q x e' st' nx') (h : RunS b c ⟨e, st, nx, n⟩ x ⟨e', st', nx', n⟩)
section
variable {b n : Nat} {c x y : Code} {e : Nat → Option V} {st : Nat → Option B} {nx : Nat} {Q Q' : Exit → (Nat → Option V) → (Nat → Option B) → Nat → Prop}
theorem WpN.vc (h : VC b n c e st nx Q) : WpN b n c e st nx Q :=
  let ⟨x, e', st', nx', h1, h2⟩ := VC_run _ _ _ _ _ h; ⟨x, e', st', nx', h1, h2⟩
theorem WpN.mono (h : WpN b n c e st nx Q) (hq : ∀ x e st nx, Q x e st nx → Q' x e st nx) : WpN b n c e st nx Q' :=
  let ⟨x, e', st', nx', h1, h2⟩ := h; ⟨x, e', st', nx', hq _ _ _ _ h1, h2⟩
theorem WpN.wpS (h : WpN b n c e st nx Q) : WpS b c ⟨e, st, nx, n⟩ fun x s => s.n = n ∧ Q x s.env s.st s.nx :=
  let ⟨x, e', st', nx', h1, h2⟩ := h; ⟨x, ⟨e', st', nx', n⟩, ⟨rfl, h1⟩, h2⟩
theorem WpN.of (h : WpS b c ⟨e, st, nx, n⟩ fun x s => s.n = n ∧ Q x s.env s.st s.nx) : WpN b n c e st nx Q := by
  obtain ⟨x, ⟨e', st', nx', n'⟩, ⟨hn, h1⟩, h2⟩ := h
  cases hn
  exact ⟨x, e', st', nx', h1, h2⟩
theorem WpN.toS {Q : Exit → S → Prop} (h : WpN b n c e st nx fun x e st nx => Q x ⟨e, st, nx, n⟩) : WpS b c ⟨e, st, nx, n⟩ Q :=
  let ⟨x, e', st', nx', h1, h2⟩ := h; ⟨x, ⟨e', st', nx', n⟩, h1, h2⟩
theorem WpN.seq (h : WpN b n x e st nx (seqK (fun e st nx => WpN b n y e st nx Q) Q)) : WpN b n (.seq x y) e st nx Q := by
  obtain ⟨z, e1, st1, nx1, h1, h2⟩ := h
  by_cases he : z = .normal
  · subst he
    obtain ⟨z2, e2, st2, nx2, k1, k2⟩ := h1
    exact ⟨z2, e2, st2, nx2, k1, h2.seq k2⟩
  · refine ⟨z, e1, st1, nx1, ?_, h2.seq_out he⟩
    cases z <;> first | exact (he rfl).elim | exact h1
theorem WpN.block {id : Nat} (h : WpN b n c e st nx (blkK id Q)) : WpN b n (.block id c) e st nx Q := by
  obtain ⟨z, e', st', nx', h1, h2⟩ := h
  by_cases he : z = .exit id
  · subst he
    refine ⟨.normal, e', st', nx', by simpa [blkK, Nat.beq_refl] using h1, fun H X a hb g => wp_block (wp_mono (h2 H X a hb g) fun z' a' w' ⟨h3, h4⟩ => ?_)⟩
    subst h3
    simp only [Exit.inBlock, if_true]
    exact ⟨trivial, h4⟩
  · refine ⟨z, e', st', nx', ?_, fun H X a hb g => wp_block (wp_mono (h2 H X a hb g) fun z' a' w' ⟨h3, h4⟩ => ?_)⟩
    · cases z with
      | exit k =>
        have : Nat.beq k id = false := beq_ne fun hn => he (by rw [hn])
        simpa [blkK, this] using h1
      | _ => exact h1
    · subst h3
      cases z' with
      | exit k =>
        have : k ≠ id := fun hn => he (by rw [hn])
        simp only [Exit.inBlock, this, if_false]
        exact ⟨trivial, h4⟩
      | _ => exact ⟨rfl, h4⟩
theorem WpN.weaken {s : S} (r : Rel b ⟨e, st, nx, n⟩ s) (hn : s.n = n) (h : WpN b n c s.env s.st s.nx Q) : WpN b n c e st nx Q := by
  obtain ⟨e1, st1, nx1, n1⟩ := s
  cases hn
  obtain ⟨x, e', st', nx', h1, h2⟩ := h
  exact ⟨x, e', st', nx', h1, h2.before r⟩
theorem WpN.cut {ι : Type} (E : ι → List (Nat × V)) (L : ι → List (Option B)) (Inv : ι → Prop)
    (h : WpN b n x e st nx (seqK (fun e st nx => ∃ i, Inv i ∧ Rel b ⟨e, st, nx, n⟩ (mkSt (E i) (L i) n)) Q))
    (h2 : ∀ i, Inv i → WpN b n y (mkE (E i)) (mkS (L i)) (L i).length Q) : WpN b n (.seq x y) e st nx Q := by
  refine WpN.seq (h.mono fun z e st nx hz => ?_)
  cases z with
  | normal => obtain ⟨i, h3, h4⟩ := hz; exact (h2 i h3).weaken h4 rfl
  | _ => exact hz
end
theorem FnS.wpR {f : Nat} (fn : Func) {c : Code} {n b : Nat} {rs : List ResultVar} {vs : List V} {l : List (Option B)} {K : V → List (Option B) → Prop} (hf : P.funcs[f]? = some fn) (hb : fn.body = some c) (hn : (fn.name == "runtime.NumGoroutine") = false)
    (hm : fn.ntmps = n) (hr : fn.results.toList = rs) (hl : l.length = b) (h : WpN b n c (envL vs) (mkS l) b (EndR rs b n K)) : FnS f vs l K := by
  subst hm hr hl
  have he : envL vs = envA vs := funext fun t => envL_eq vs t
  rw [he] at h
  obtain ⟨x, e', st', nx', hx, hrun⟩ := h
  have hx' : (x = .normal ∨ x = .ret) ∧ ∃ rv l0 v l', resV ⟨e', st', nx', fn.ntmps⟩ fn.results.toList = some rv ∧ resOf rv = v.ren (al l0) ∧ (renOk l.length l0 [] l' fn.ntmps fn.ntmps && v.lo l'.length) = true ∧ stEq st' (al l0) 0 l' ∧ K v l' := by
    unfold EndR at hx
    have fin : ∀ {q : Prop}, q → (match resV ⟨e', st', nx', fn.ntmps⟩ fn.results.toList with
        | some vs => ∃ l0 v l', resOf vs = v.ren (al l0) ∧ (renOk l.length l0 [] l' fn.ntmps fn.ntmps && v.lo l'.length) = true ∧ stEq st' (al l0) 0 l' ∧ K v l'
        | none => False) → q ∧ ∃ rv l0 v l', resV ⟨e', st', nx', fn.ntmps⟩ fn.results.toList = some rv ∧ resOf rv = v.ren (al l0) ∧ (renOk l.length l0 [] l' fn.ntmps fn.ntmps && v.lo l'.length) = true ∧ stEq st' (al l0) 0 l' ∧ K v l' := fun hq h => by
      split at h
      · rename_i vs hv
        obtain ⟨l0, v, l', k⟩ := h
        exact ⟨hq, vs, l0, v, l', hv, k⟩
      · exact h.elim
    cases x with
    | normal => exact fin (.inl rfl) hx
    | ret => exact fin (.inr rfl) hx
    | _ => exact hx.elim
  obtain ⟨hex, rv, l0, v, l', hres, hv, hchk, hst, hK⟩ := hx'
  simp only [Bool.and_eq_true] at hchk
  obtain ⟨hok, hlo⟩ := hchk
  have hren : Ren l.length (al l0) ⟨e', st', nx', fn.ntmps⟩ (mkSt [] l' fn.ntmps) := Ren.of l0 hok trivial hst
  refine ⟨v, l', hK, ⟨fn, hf, by rw [hb]; rfl, hn⟩, hren.b, V.lo_ok hlo, fun H X us g hl hd => ?_⟩
  let a : Act := { tmps := us.toArray ++ Array.replicate (fn.ntmps - us.toArray.size) undef, defers := [] }
  have g0 : Γ { H with ds := [] } ⟨envA vs, mkS l, l.length, fn.ntmps⟩ X a := by
    refine { toHs := g.ds [], dn := rfl, n := by simp [a]; omega, env := fun t v hv => ?_ }
    have hv' : vs[t]? = some v := hv
    have htl : t < us.length := by rw [hl]; exact (List.getElem?_eq_some_iff.1 hv').1
    obtain ⟨h1, h2⟩ := hd t v us[t] hv' (List.getElem?_eq_getElem htl)
    exact ⟨⟨us[t], by simp [a, Array.getElem?_append, htl], h1⟩, h2⟩
  refine calls_of_wp hf hb (wp_mono (hrun { H with ds := [] } X a (Nat.le_refl _) g0) fun y a' w' ⟨h9, X', h10, g', hs, hb'⟩ => ?_)
  subst h9 h10
  have fin : a'.defers = [] ∧ ∃ u, (results fn a'.tmps).run P X'.w = .ok u X'.w ∧ ∃ u' X2, Ending.returned u = .returned u' ∧ X2.w = X'.w ∧ Hs H (mkS l') l'.length X2 ∧ Step l.length X X2 ∧ VDen X2 v u' := by
    obtain ⟨u, k1, k2, k3⟩ := run_results g' fn hres
    obtain ⟨g2, s2⟩ := g'.ren hren
    rw [hv] at k2
    exact ⟨g'.dn, u, k1, u, X'.ren (al l0), rfl, rfl, g2.toHs.nods, hs.trans s2 (Nat.le_refl _), k2.of_ren (fun _ _ => rfl) (fun _ h => h) (fun _ _ _ h => h)⟩
  rcases hex with rfl | rfl
  · exact fin
  · exact fin
theorem Fn0.wp {f : Nat} (fn : Func) {c : Code} {n : Nat} {rs : List ResultVar} {vs : List V} {b : B} {K : V → B → Prop} (hf : P.funcs[f]? = some fn) (hb : fn.body = some c) (hn : (fn.name == "runtime.NumGoroutine") = false)
    (hm : fn.ntmps = n) (hr : fn.results.toList = rs) (h : ∀ st m, WpN (m + 1) n c (envL vs) (upd st 0 b) (m + 1) (End0 rs st (m + 1) n K)) : Fn0 f vs b K := by
  subst hm hr
  suffices ∀ (st : Nat → Option B) (m : Nat), st 0 = some b → ∃ v b', K v b' ∧ (∀ nm, ¬ v.Has nm) ∧ CallX f vs st (m + 1) v (upd st 0 b') (m + 1) by
    intro st nx hst
    cases nx with
    | succ m => obtain ⟨v, b', h1, _, h2⟩ := this st m hst; exact ⟨v, b', h1, h2⟩
    | zero =>
      obtain ⟨v, b', h1, h3, h2⟩ := this st 0 hst
      exact ⟨v, b', h1, h2.enter, Nat.le_refl _, fun nm hn => (h3 nm hn).elim, fun H X us g _ _ => absurd (g.bd 0 b hst).1 (Nat.lt_irrefl _)⟩
  intro st m hst
  obtain ⟨x, e', st', nx', hx, hrun⟩ := h st m
  generalize hnx : m + 1 = nx at *
  rw [upd_self hst] at hrun
  have he : envL vs = envA vs := funext fun t => envL_eq vs t
  rw [he] at hrun
  have hx' : (x = .normal ∨ x = .ret) ∧ ∃ rv b', resV ⟨e', st', nx', fn.ntmps⟩ fn.results.toList = some rv ∧ (resOf rv).lo 0 = true ∧ nx' = nx ∧ st' = upd st 0 b' ∧ K (resOf rv) b' := by
    unfold End0 at hx
    have fin : ∀ {q : Prop}, q → (match resV ⟨e', st', nx', fn.ntmps⟩ fn.results.toList with
        | some vs => ∃ b', (resOf vs).lo 0 = true ∧ nx' = nx ∧ Only0 st st' ∧ st' 0 = some b' ∧ K (resOf vs) b'
        | none => False) → q ∧ ∃ rv b', resV ⟨e', st', nx', fn.ntmps⟩ fn.results.toList = some rv ∧ (resOf rv).lo 0 = true ∧ nx' = nx ∧ st' = upd st 0 b' ∧ K (resOf rv) b' := fun hq h => by
      split at h
      · rename_i vs hv
        obtain ⟨b', k1, k2, k3, k4, k5⟩ := h
        exact ⟨hq, vs, b', hv, k1, k2, k3.eq k4, k5⟩
      · exact h.elim
    cases x with
    | normal => exact fin (.inl rfl) hx
    | ret => exact fin (.inr rfl) hx
    | _ => exact hx.elim
  obtain ⟨hex, rv, b', hres, hlo, rfl, rfl, hK⟩ := hx'
  refine ⟨resOf rv, b', hK, fun nm hh => absurd (V.lo_ok hlo nm hh) (Nat.not_lt_zero _), ⟨fn, hf, by rw [hb]; rfl, hn⟩, Nat.le_refl _, fun nm hh => by have := V.lo_ok hlo nm hh; omega, fun H X us g hl hd => ?_⟩
  let a : Act := { tmps := us.toArray ++ Array.replicate (fn.ntmps - us.toArray.size) undef, defers := [] }
  have g0 : Γ { H with ds := [] } ⟨envA vs, st, nx', fn.ntmps⟩ X a := by
    refine { toHs := g.ds [], dn := rfl, n := by simp [a]; omega, env := fun t v hv => ?_ }
    have hv' : vs[t]? = some v := hv
    have htl : t < us.length := by rw [hl]; exact (List.getElem?_eq_some_iff.1 hv').1
    obtain ⟨h1, h2⟩ := hd t v us[t] hv' (List.getElem?_eq_getElem htl)
    exact ⟨⟨us[t], by simp [a, Array.getElem?_append, htl], h1⟩, h2⟩
  refine calls_of_wp hf hb (wp_mono (hrun { H with ds := [] } X a (Nat.le_refl _) g0) fun y a' w' ⟨h9, X', h10, g', hs, hb'⟩ => ?_)
  subst h9 h10
  have fin : a'.defers = [] ∧ ∃ v, (results fn a'.tmps).run P X'.w = .ok v X'.w ∧ ∃ u X2, Ending.returned v = .returned u ∧ X2.w = X'.w ∧ Hs H (upd st 0 b') nx' X2 ∧ Step nx' X X2 ∧ VDen X2 (resOf rv) u := by
    obtain ⟨u, k1, k2, k3⟩ := run_results g' fn hres
    exact ⟨g'.dn, u, k1, u, X', rfl, rfl, g'.toHs.nods, hs, k2⟩
  rcases hex with rfl | rfl
  · exact fin
  · exact fin
theorem CallQ.inlineN {f : Nat} (fn : Func) {c : Code} {n nx : Nat} {rs : List ResultVar} {vs : List V} {st : Nat → Option B} {K : V → (Nat → Option B) → Nat → Prop} (hf : P.funcs[f]? = some fn) (hb : fn.body = some c) (hn : (fn.name == "runtime.NumGoroutine") = false)
    (hm : fn.ntmps = n) (hr : fn.results.toList = rs) (h : WpN nx n c (envL vs) st nx (EndI rs nx n K)) : CallQ f vs st nx K := by
  subst hm hr
  have he : envL vs = envA vs := funext fun t => envL_eq vs t
  rw [he] at h
  obtain ⟨x, e', st', nx', hx, hrun⟩ := h
  have hx' : (x = .normal ∨ x = .ret) ∧ ∃ rv, resV ⟨e', st', nx', fn.ntmps⟩ fn.results.toList = some rv ∧ ((resOf rv).lo nx' && Nat.ble nx nx') = true ∧ K (resOf rv) st' nx' := by
    unfold EndI at hx
    have fin : ∀ {q : Prop}, q → (match resV ⟨e', st', nx', fn.ntmps⟩ fn.results.toList with
        | some vs => ((resOf vs).lo nx' && Nat.ble nx nx') = true ∧ K (resOf vs) st' nx'
        | none => False) → q ∧ ∃ rv, resV ⟨e', st', nx', fn.ntmps⟩ fn.results.toList = some rv ∧ ((resOf rv).lo nx' && Nat.ble nx nx') = true ∧ K (resOf rv) st' nx' := fun hq h => by
      split at h
      · rename_i vs hv; exact ⟨hq, vs, hv, h⟩
      · exact h.elim
    cases x with
    | normal => exact fin (.inl rfl) hx
    | ret => exact fin (.inr rfl) hx
    | _ => exact hx.elim
  obtain ⟨hex, rv, hres, hchk, hK⟩ := hx'
  simp only [Bool.and_eq_true] at hchk
  obtain ⟨hlo, hle⟩ := hchk
  refine ⟨resOf rv, st', nx', ⟨⟨fn, hf, by rw [hb]; rfl, hn⟩, Nat.le_of_ble_eq_true hle, V.lo_ok hlo, fun H X us g hl hd => ?_⟩, hK⟩
  let a : Act := { tmps := us.toArray ++ Array.replicate (fn.ntmps - us.toArray.size) undef, defers := [] }
  have g0 : Γ { H with ds := [] } ⟨envA vs, st, nx, fn.ntmps⟩ X a := by
    refine { toHs := g.ds [], dn := rfl, n := by simp [a]; omega, env := fun t v hv => ?_ }
    have hv' : vs[t]? = some v := hv
    have htl : t < us.length := by rw [hl]; exact (List.getElem?_eq_some_iff.1 hv').1
    obtain ⟨h1, h2⟩ := hd t v us[t] hv' (List.getElem?_eq_getElem htl)
    exact ⟨⟨us[t], by simp [a, Array.getElem?_append, htl], h1⟩, h2⟩
  refine calls_of_wp hf hb (wp_mono (hrun { H with ds := [] } X a (Nat.le_refl _) g0) fun y a' w' ⟨h9, X', h10, g', hs, hb'⟩ => ?_)
  subst h9 h10
  have fin : a'.defers = [] ∧ ∃ u, (results fn a'.tmps).run P X'.w = .ok u X'.w ∧ ∃ u' X2, Ending.returned u = .returned u' ∧ X2.w = X'.w ∧ Hs H st' nx' X2 ∧ Step nx X X2 ∧ VDen X2 (resOf rv) u' := by
    obtain ⟨u, k1, k2, k3⟩ := run_results g' fn hres
    exact ⟨g'.dn, u, k1, u, X', rfl, rfl, g'.toHs.nods, hs, k2⟩
  rcases hex with rfl | rfl
  · exact fin
  · exact fin
def rc (data : List Int) (b r n s h : Int) (rest : List C) : B := .st (.is .u8 data :: .i .u64 b :: .i .u64 r :: .i .u64 n :: .i .u32 s :: .i .u32 h :: rest)
theorem f87 (data : List Int) (b r n s h : Int) (rest : List C) (hd : data.length ≤ 1275) (hb : 0 ≤ b ∧ b ≤ 8 * data.length) : Fn0 87 [.c (.p 0 0)] (rc data b r n s h rest) fun v b' => ∃ x bn : Int, v = .c (.i .u32 x) ∧ (0 ≤ x ∧ x ≤ 1) ∧ (0 ≤ bn ∧ bn ≤ 8 * data.length) ∧ b' = rc data bn r n s h rest := by
  refine Fn0.run Proofs.Tryz.f87 rfl rfl rfl rfl rfl fun st m => ?_
  conv=>whnf
  refine ⟨by decide, ?_⟩
  conv=>whnf
  refine ⟨by decide, ?_⟩
  conv=>whnf
  refine ⟨fun _=>?_, fun hc => ?_⟩
  · conv=>whnf
    exact ⟨_, rfl, rfl, by repeat constructor, rfl, 0, b, rfl, by decide, hb, rfl⟩
  · conv=>whnf
    have e1 : IntKind.u64.wrap (b.tdiv 8) = b / 8 := IntWalk.u64_quo _ _ (by omega)
    have e2 : IntKind.u64.wrap ↑data.length = data.length := IntWalk.u64_in _ (by omega)
    rw [e1, e2] at hc
    have hc := of_decide_eq_false hc
    refine ⟨by rw [e1]; omega, ?_⟩
    conv=>whnf
    refine ⟨?_, ?_⟩
    · rw [Int.tmod_eq_emod_of_nonneg hb.1, IntWalk.u64_in _ (by omega)]; omega
    conv=>whnf
    refine ⟨_, rfl, rfl, by repeat constructor, rfl, _, b + 1, rfl, ?_, by omega, ?_⟩
    · have := and_mask .u8 ((data.getD (IntKind.u64.wrap (b.tdiv 8)).toNat 0).fdiv (2 ^ min (IntKind.u64.wrap (7 - b.tmod 8)).toNat IntKind.u8.bits)) 1 (by decide) (by decide)
      rw [IntWalk.u32_in _ (by omega)]
      exact this
    · rw [IntWalk.u64_in _ (by omega)]; rfl
theorem f63 (data : List Int) (b r n s h k : Int) (rest : List C) (hd : data.length ≤ 1275) (hb : 0 ≤ b ∧ b ≤ 8 * data.length) (hk : 1 ≤ k ∧ k ≤ 8) : Fn0 63 [.c (.p 0 0), .c (.i .i64 k)] (rc data b r n s h rest) fun v b' => ∃ x bn : Int, v = .c (.i .u32 x) ∧ (0 ≤ x ∧ x ≤ 4294967295) ∧ (0 ≤ bn ∧ bn ≤ 8 * data.length) ∧ b' = rc data bn r n s h rest := by
  refine Fn0.run Proofs.Tryz.f63 rfl rfl rfl rfl rfl fun st m => ?_
  conv=>whnf
  refine .inl ⟨by kernel_rfl, ?_⟩
  conv=>whnf
  refine ⟨fun _=>?_, fun hc => absurd (of_decide_eq_false hc) (by omega)⟩
  conv=>whnf
  refine ⟨fun _=>?_, fun h => Bool.noConfusion h⟩
  conv=>whnf
  refine ⟨fun _=>?_, fun hc => absurd (of_decide_eq_false hc) (by omega)⟩
  conv=>whnf
  repeat (refine ⟨fun _=>?_, fun h => Bool.noConfusion h⟩; conv=>whnf)
  have e2 : IntKind.u64.wrap ↑data.length = data.length := IntWalk.u64_in _ (by omega)
  have e3 : IntKind.u64.wrap k = k := IntWalk.u64_in _ (by omega)
  refine ⟨fun hc => ?_, fun hc => ?_⟩
  · have hc := of_decide_eq_true hc
    rw [e2, e3, IntWalk.u64_in _ (by omega), IntWalk.u64_in _ (by omega)] at hc
    have e1 : IntKind.u64.wrap (b.tdiv 8) = b / 8 := IntWalk.u64_quo _ _ (by omega)
    conv=>whnf
    refine ⟨by decide, ?_⟩
    conv=>whnf
    refine ⟨by decide, ?_⟩
    conv=>whnf
    refine ⟨by rw [e1]; omega, ?_⟩
    conv=>whnf
    refine ⟨by decide, ?_⟩
    conv=>whnf
    have fin : ∀ x : Int, 0 ≤ IntKind.u64.wrap x := fun x => (wrap_within .u64 x).1
    have e4 : IntKind.u64.wrap (IntKind.u64.wrap (b.tdiv 8) + 1) = b / 8 + 1 := by rw [e1]; exact IntWalk.u64_in _ (by omega)
    refine ⟨fun hc2 => ?_, fun _=>?_⟩
    · have hc2 := of_decide_eq_true hc2
      rw [e2, e4] at hc2
      conv=>whnf
      refine ⟨by rw [e4]; omega, ?_⟩
      conv=>whnf
      refine ⟨fin _, ?_⟩
      conv=>whnf
      refine ⟨by omega, ?_⟩
      conv=>whnf
      exact ⟨_, rfl, rfl, by repeat constructor, rfl, _, b + k, rfl, bits_within .and .u32 _ _, by omega, by rw [e3, IntWalk.u64_in _ (by omega)]; rfl⟩
    · conv=>whnf
      refine ⟨fin _, ?_⟩
      conv=>whnf
      refine ⟨by omega, ?_⟩
      conv=>whnf
      exact ⟨_, rfl, rfl, by repeat constructor, rfl, _, b + k, rfl, bits_within .and .u32 _ _, by omega, by rw [e3, IntWalk.u64_in _ (by omega)]; rfl⟩
  · conv=>whnf
    refine WpS.loop (ι := Int × Int × Int) (fun q => ⟨mkE [(0, .c (.p 0 0)), (92, .c (.i .i64 k)), (93, .c (.i .i64 q.1)), (8, .c (.i .u32 q.2.1))], upd st 0 (rc data q.2.2 r n s h rest), m + 1, 106⟩)
      (fun q => (0 ≤ q.1 ∧ q.1 ≤ k) ∧ (0 ≤ q.2.1 ∧ q.2.1 ≤ 4294967295) ∧ 0 ≤ q.2.2 ∧ q.2.2 ≤ 8 * data.length) (fun q => (k - q.1).toNat) (0, 0, b) ⟨⟨Int.le_refl 0, by show (0:Int) ≤ k; omega⟩, ⟨Int.le_refl 0, by show (0:Int) ≤ 4294967295; decide⟩, hb⟩ (Rel.of _ (by repeat constructor) rfl) ?_
    rintro ⟨i, x, bn⟩ ⟨hi, hx, hbn⟩
    dsimp only at hi hx hbn ⊢
    refine VC_ok ?_
    conv=>whnf
    refine ⟨fun hc => ?_, fun hc => ?_⟩
    · have hc := of_decide_eq_true hc
      conv=>whnf
      have e4 : IntKind.i64.wrap (i + 1) = i + 1 := IntWalk.i64_in _ (by omega)
      refine ⟨fun _=>?_, fun _=>?_⟩
      all_goals
        conv=>whnf
        try (refine ⟨by decide, ?_⟩; conv=>whnf)
        refine CallQ.use0 (f87 data bn r n s h rest hd hbn) (by rfl) ?_
        rintro v b' ⟨x2, bn2, rfl, hx2, hbn2, rfl⟩
        conv=>whnf
        exact ⟨(IntKind.i64.wrap (i + 1), _, bn2), ⟨by dsimp only; omega, bits_within .or .u32 _ _, hbn2⟩, by dsimp only; omega, Rel.of _ (by repeat constructor) (Only0.eq (by repeat constructor) rfl)⟩
    · conv=>whnf
      refine ⟨rfl, ?_⟩
      conv=>whnf
      exact ⟨_, rfl, rfl, by repeat constructor, rfl, x, bn, rfl, hx, hbn, rfl⟩
theorem f64 (data : List Int) (b r n s h : Int) (rest : List C) (hd : data.length ≤ 1275) (hb : 0 ≤ b ∧ b ≤ 8 * data.length) (hs : 1 ≤ s ∧ s ≤ 2147483648) (hh : 0 ≤ h ∧ h ≤ 4294967295) (hn : 0 ≤ n ∧ n ≤ 18446744073709551615) : Fn0 64 [.c (.p 0 0)] (rc data b r n s h rest) fun v b' => ∃ bn n' s' h' : Int, v = .tu [] ∧ (0 ≤ bn ∧ bn ≤ 8 * data.length) ∧ (8388608 < s' ∧ s' ≤ 2147483648) ∧ (0 ≤ h' ∧ h' ≤ 4294967295) ∧ (0 ≤ n' ∧ n' ≤ 18446744073709551615) ∧ b' = rc data bn r n' s' h' rest := by
  refine Fn0.run Proofs.Tryz.f64 rfl rfl rfl rfl rfl fun st m => ?_
  conv=>whnf
  refine WpS.loop (ι := Int × Int × Int × Int) (fun q => ⟨mkE [(0, .c (.p 0 0))], upd st 0 (rc data q.1 r q.2.1 q.2.2.1 q.2.2.2 rest), m + 1, 34⟩)
      (fun q => (0 ≤ q.1 ∧ q.1 ≤ 8 * data.length) ∧ (0 ≤ q.2.1 ∧ q.2.1 ≤ 18446744073709551615) ∧ (1 ≤ q.2.2.1 ∧ q.2.2.1 ≤ 2147483648) ∧ 0 ≤ q.2.2.2 ∧ q.2.2.2 ≤ 4294967295) (fun q => (2147483648 - q.2.2.1).toNat) (b, n, s, h) ⟨hb, hn, hs, hh⟩ (Rel.of _ (by repeat constructor) rfl) ?_
  clear hb hn hs hh b n s h
  rintro ⟨b, n, s, h⟩ ⟨hb, hn, hs, hh⟩
  dsimp only at hb hn hs hh ⊢
  refine VC_ok ?_
  conv=>whnf
  refine ⟨fun hc => ?_, fun hc => ?_⟩
  · have hc := of_decide_eq_true hc
    conv=>whnf
    refine ⟨by decide, ?_⟩
    conv=>whnf
    refine .inr ?_
    have es : IntKind.u32.wrap (s * 2 ^ min (8 : Int).toNat IntKind.u32.bits) = s * 256 := by
      have : (2 : Int) ^ min (8 : Int).toNat IntKind.u32.bits = 256 := by decide
      rw [this]; exact IntWalk.u32_in _ (by omega)
    have hn2 : 0 ≤ IntKind.u64.wrap (n + 8) ∧ IntKind.u64.wrap (n + 8) ≤ 18446744073709551615 := wrap_within .u64 _
    refine WpS.draw [0, 0, 0, 0, 1, 0, 0, 2, 0, 0, 0, 0, 0, 3] (fun st2 => ∃ b n s : Int, st2 0 = some (rc data b r n s h rest)) (by kernel_rfl) ?_
    conv=>whnf
    refine ⟨.c (.i .u32 h), ⟨⟨_, _, _, rfl⟩, fun st2 ⟨b2, n2, s2, h2⟩ => ⟨_, h2, .inl rfl⟩⟩, ?_⟩
    conv=>whnf
    refine ⟨by decide, ?_⟩
    conv=>whnf
    refine ⟨⟨_, _, _, rfl⟩, ?_⟩
    refine CallQ.use0 (f63 data b r (IntKind.u64.wrap (n + 8)) (IntKind.u32.wrap (s * 2 ^ min (8 : Int).toNat IntKind.u32.bits)) h 8 rest hd hb (by decide)) (by rfl) ?_
    rintro v b' ⟨x, bn, rfl, hx, hbn, rfl⟩
    refine ⟨⟨_, _, _, rfl⟩, ?_⟩
    conv=>whnf
    refine ⟨rfl, ?_⟩
    conv=>whnf
    refine ⟨(bn, _, IntKind.u32.wrap (s * 2 ^ min (8 : Int).toNat IntKind.u32.bits), _), ⟨hbn, hn2, ?_, bits_within .and .u32 _ _⟩, ?_, Rel.of _ (by repeat constructor) (Only0.eq (by repeat constructor) rfl)⟩
    · dsimp only; rw [es]; omega
    · dsimp only; rw [es]; omega
  · have hc := of_decide_eq_false hc
    conv=>whnf
    refine ⟨rfl, ?_⟩
    conv=>whnf
    exact ⟨_, rfl, rfl, by repeat constructor, rfl, b, n, s, h, rfl, hb, by omega, hh, hn, rfl⟩
end Go.SX
