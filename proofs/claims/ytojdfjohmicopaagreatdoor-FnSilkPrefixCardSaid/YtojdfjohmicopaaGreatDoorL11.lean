/- A part of the proof: the SILK decoder of the given program, walked by an executor that is proved sound. No statement of the program is proved in this text. -/
import Derived.IntWalk
import Derived.Laws.Closers25b
import Derived.Laws.BitsAllLaws
import Derived.Test.YtojdfjohmicopaaGreatDoorL10
set_option linter.all false
set_option maxRecDepth 100000
namespace Go.SX
open Go
def sh : List Nat → Nat → Nat → Nat
  | [], nx, i => nx + i
  | r :: _, _, 0 => r
  | _ :: ρ, nx, i + 1 => sh ρ nx i
def allLt (n : Nat) : List Nat → Bool
  | [] => true
  | x :: r => match Nat.blt x n with
    | true => allLt n r
    | false => false
def isIn (n : Nat) : List Nat → Bool
  | [] => false
  | x :: r => match Nat.beq x n with
    | true => true
    | false => isIn n r
def noDup : List Nat → Bool
  | [] => true
  | x :: r => match isIn x r with
    | true => false
    | false => noDup r
theorem allLt_ok {n : Nat} : ∀ {l : List Nat}, allLt n l = true → ∀ x ∈ l, x < n
  | [], _, x, h => by simp at h
  | y :: r, h, x, hx => by
    simp only [allLt] at h
    split at h
    · rename_i hy
      rcases List.mem_cons.1 hx with rfl | hx
      · exact Nat.le_of_ble_eq_true hy
      · exact allLt_ok h x hx
    · cases h
theorem isIn_ok {n : Nat} : ∀ {l : List Nat}, isIn n l = false → n ∉ l
  | [], _ => by simp
  | y :: r, h => by
    simp only [isIn] at h
    split at h
    · cases h
    · rename_i hy
      intro hm
      rcases List.mem_cons.1 hm with rfl | hm
      · rw [Nat.beq_refl] at hy; cases hy
      · exact isIn_ok h hm
theorem sh_old : ∀ {ρ : List Nat} {nx i : Nat}, i < ρ.length → sh ρ nx i ∈ ρ
  | [], _, i, h => by simp at h
  | r :: ρ, nx, 0, h => by simp [sh]
  | r :: ρ, nx, i + 1, h => List.mem_cons_of_mem _ (sh_old (by simpa using h))
theorem sh_new : ∀ {ρ : List Nat} {nx i : Nat}, ρ.length ≤ i → sh ρ nx i = nx + (i - ρ.length)
  | [], nx, i, _ => by simp [sh]
  | r :: ρ, nx, 0, h => by simp at h
  | r :: ρ, nx, i + 1, h => by simp only [sh]; rw [sh_new (by simpa using h)]; simp
theorem sh_inj_old : ∀ {ρ : List Nat} {nx i j : Nat}, noDup ρ = true → i < ρ.length → j < ρ.length → sh ρ nx i = sh ρ nx j → i = j
  | [], _, i, _, _, h, _, _ => by simp at h
  | r :: ρ, nx, i, j, hd, hi, hj, h => by
    simp only [noDup] at hd
    split at hd
    · cases hd
    · rename_i hr
      cases i with
      | zero => cases j with
        | zero => rfl
        | succ j => simp only [sh] at h; exact (isIn_ok hr (h ▸ sh_old (by simpa using hj))).elim
      | succ i => cases j with
        | zero => simp only [sh] at h; exact (isIn_ok hr (h ▸ sh_old (by simpa using hi))).elim
        | succ j => rw [sh_inj_old hd (by simpa using hi) (by simpa using hj) h]
theorem sh_inj {ρ : List Nat} {nx i j : Nat} (hd : noDup ρ = true) (hl : allLt nx ρ = true) (h : sh ρ nx i = sh ρ nx j) : i = j := by
  by_cases hi : i < ρ.length <;> by_cases hj : j < ρ.length
  · exact sh_inj_old hd hi hj h
  · have := allLt_ok hl _ (sh_old (nx := nx) hi); rw [h, sh_new (by omega)] at this; omega
  · have := allLt_ok hl _ (sh_old (nx := nx) hj); rw [← h, sh_new (by omega)] at this; omega
  · rw [sh_new (by omega), sh_new (by omega)] at h; omega
theorem sh_lt {ρ : List Nat} {nx i m : Nat} (hl : allLt nx ρ = true) (hm : ρ.length ≤ m) (hi : i < m) : sh ρ nx i < nx + (m - ρ.length) := by
  by_cases h : i < ρ.length
  · have := allLt_ok hl _ (sh_old (nx := nx) h); omega
  · rw [sh_new (by omega)]; omega
def mrg (α : Nat → Nat) : Nat → List (Option B) → (Nat → Option B) → Nat → Option B
  | _, [], st => st
  | i, some x :: r, st => mrg α (i + 1) r (upd st (α i) (x.ren α))
  | i, none :: r, st => mrg α (i + 1) r (del st (α i))
theorem mrg_spec {α : Nat → Nat} (hα : ∀ i j, α i = α j → i = j) (m : Nat) : ∀ {l : List (Option B)} {i : Nat} {st : Nat → Option B},
    (∃ k, k < l.length ∧ α (i + k) = m ∧ mrg α i l st m = (mkS l k).map (B.ren α)) ∨ ((∀ k, k < l.length → α (i + k) ≠ m) ∧ mrg α i l st m = st m)
  | [], i, st => .inr ⟨fun k h => by simp at h, rfl⟩
  | x :: r, i, st => by
    have ih := fun st => mrg_spec hα m (l := r) (i := i + 1) (st := st)
    have fin : ∀ {st' : Nat → Option B}, (∀ m, m ≠ α i → st' m = st m) → st' (α i) = x.map (B.ren α) → mrg α i (x :: r) st m = mrg α (i + 1) r st' m →
        (∃ k, k < (x :: r).length ∧ α (i + k) = m ∧ mrg α i (x :: r) st m = (mkS (x :: r) k).map (B.ren α)) ∨ ((∀ k, k < (x :: r).length → α (i + k) ≠ m) ∧ mrg α i (x :: r) st m = st m) := by
      intro st' h1 h2 h3
      rcases ih st' with ⟨k, k1, k2, k3⟩ | ⟨k1, k2⟩
      · exact .inl ⟨k + 1, by simp; omega, by rw [show i + (k + 1) = i + 1 + k by omega]; exact k2, by rw [h3, k3]; rfl⟩
      · by_cases hm : α i = m
        · exact .inl ⟨0, by simp, hm, by rw [h3, k2, ← hm, h2]; rfl⟩
        · refine .inr ⟨fun k hk => ?_, by rw [h3, k2, h1 m (Ne.symm hm)]⟩
          cases k with
          | zero => exact hm
          | succ k => rw [show i + (k + 1) = i + 1 + k by omega]; exact k1 k (by simpa using hk)
    cases x with
    | none => exact fin (st' := del st (α i)) (fun m hm => del_other _ hm) (by rw [del_same]; rfl) rfl
    | some b => exact fin (st' := upd st (α i) (b.ren α)) (fun m hm => upd_other _ _ hm) (by rw [upd_same]; rfl) rfl
theorem mkS_lt : ∀ {l : List (Option B)} {m : Nat}, mkS l m ≠ none → m < l.length
  | [], _, h => (h rfl).elim
  | x :: r, 0, _ => by simp
  | x :: r, m + 1, h => by have := mkS_lt (l := r) h; simp; omega
theorem CallX.use {f : Nat} {vs : List V} {l l' : List (Option B)} {v : V} {st : Nat → Option B} {nx : Nat} (ρ : List Nat) (h : CallX f vs (mkS l) l.length v (mkS l') l'.length) (hlen : ρ.length = l.length)
    (hnd : noDup ρ = true) (hlt : allLt nx ρ = true) (hst : stEq st (sh ρ nx) 0 l) (hvs : belowVs l.length vs = true) (hbd : allS l.length l = true) :
    CallX f (renVs (sh ρ nx) vs) st nx (v.ren (sh ρ nx)) (mrg (sh ρ nx) 0 l' st) (nx + (l'.length - ρ.length)) := by
  generalize hα : sh ρ nx = α at *
  have inj : ∀ i j, α i = α j → i = j := fun i j he => by subst hα; exact sh_inj hnd hlt he
  have low : ∀ i, i < l.length → α i < nx := fun i hi => by subst hα; exact allLt_ok hlt _ (sh_old (by omega))
  have high : ∀ i, l.length ≤ i → α i = nx + (i - ρ.length) := fun i hi => by subst hα; exact sh_new (by omega)
  have lt' : ∀ i, i < l'.length → α i < nx + (l'.length - ρ.length) := fun i hi => by subst hα; exact sh_lt hlt (by rw [hlen]; exact h.le) hi
  have hlst : ∀ i x, mkS l i = some x → st (α i) = some (x.ren α) := fun i x hx => by have := mkS_eq hst i x hx; rwa [Nat.zero_add] at this
  have hne : ∀ i, mkS l i ≠ none → st (α i) ≠ none := fun i hi => by
    obtain ⟨y, hy⟩ := Option.ne_none_iff_exists'.1 hi
    rw [hlst i y hy]; simp
  refine ⟨h.enter, Nat.le_add_right _ _, fun nm hn => ?_, fun H X us g hl hd => ?_⟩
  ·
    have : ∀ {w : V} {m : Nat}, (w.ren α).Has m → ∃ k, w.Has k ∧ α k = m := by
      intro w m hm
      generalize hq : w.ren α = q at hm
      have cc : ∀ {c : C} {m : Nat}, (c.ren α).Has m → ∃ k, c.Has k ∧ α k = m := fun {c m} hm => by
        cases c <;> first | exact ⟨_, rfl, hm⟩ | exact hm.elim
      induction hm generalizing w with
      | c h => cases w <;> simp only [V.ren] at hq <;> cases hq; obtain ⟨k, k1, k2⟩ := cc h; exact ⟨k, .c k1, k2⟩
      | ag hc h =>
        cases w <;> simp only [V.ren] at hq <;> cases hq
        obtain ⟨c, hc', rfl⟩ := List.mem_map.1 hc
        obtain ⟨k, k1, k2⟩ := cc h; exact ⟨k, .ag hc' k1, k2⟩
      | tu hv h ih =>
        cases w <;> simp only [V.ren] at hq <;> cases hq
        rw [renVs_eq] at hv
        obtain ⟨v', hv', rfl⟩ := List.mem_map.1 hv
        obtain ⟨k, k1, k2⟩ := ih rfl; exact ⟨k, .tu hv' k1, k2⟩
    obtain ⟨k, k1, k2⟩ := this hn
    rw [← k2]; exact lt' k (h.has k k1)
  · let X0 : Ctx := ⟨fun i => if i < l.length then X.ν (α i) else none, X.I, X.w⟩
    let H0 : Hp := ⟨X.w, fun b => ∃ i c, mkS l i ≠ none ∧ X.ν (α i) = some (b, c), X.I, []⟩
    have ν0 : ∀ i, i < l.length → X0.ν i = X.ν (α i) := fun i hi => if_pos hi
    have g0 : Hs H0 (mkS l) l.length X0 := by
      refine { blk := fun i x hx => ?_, inj := fun i j bl c c' hi hj e e' => ?_, sep := fun i bl c hi e => ?_, bd := fun i x hx => mkS_all hbd i x hx, fr := fun _ _ _ => rfl, sz := Nat.le_refl _, imm := fun bl hb => ⟨(g.imm bl hb).1, .inl hb⟩, out := ⟨rfl, rfl⟩, gl := g.gl }
      · have h1 := g.blk (α i) _ (hlst i x hx)
        have hil := mkS_all hbd i x hx
        unfold BDen at h1 ⊢
        rw [ν0 i hil.1]
        cases hq : X.ν (α i) with
        | none => rw [hq] at h1; simpa [B.ren_size] using h1
        | some q =>
          obtain ⟨bl, c⟩ := q
          rw [hq] at h1
          obtain ⟨cur, ty, h2, h3⟩ := h1
          exact ⟨cur, ty, h2, h3.of_ren (fun nm hn => ν0 nm (hil.2 nm hn)) (fun _ h => h) (fun _ _ _ h => h)⟩
      · have hi' := mkS_lt hi; have hj' := mkS_lt hj
        rw [ν0 i hi'] at e; rw [ν0 j hj'] at e'
        exact inj i j (g.inj (α i) (α j) bl c c' (hne i hi) (hne j hj) e e')
      · rw [ν0 i (mkS_lt hi)] at e
        exact ⟨(g.sep (α i) bl c (hne i hi) e).1, .inl ⟨i, c, hi, e⟩⟩
    have hd0 : ∀ (i : Nat) v u, vs[i]? = some v → us[i]? = some u → VDen X0 v u ∧ ∀ nm, v.Has nm → nm < l.length := fun i v u hv hu => by
      have hb := V.lo_ok (belowVs_ok hvs v (List.mem_of_getElem? hv))
      exact ⟨(hd i (v.ren α) u (by rw [renVs_eq]; simp [hv]) hu).1.of_ren (fun nm hn => ν0 nm (hb nm hn)) (fun _ h => h) (fun _ _ _ h => h), hb⟩
    refine (h.run H0 X0 us g0 (by rw [hl, renVs_eq]; simp) hd0).mono fun e w' hen => ?_
    obtain ⟨u, X1, rfl, rfl, g1, s1, d1⟩ := hen
    let X' : Ctx := ⟨fun m => if m < nx then X.ν m else X1.ν (ρ.length + (m - nx)), X1.I, X1.w⟩
    have νl : ∀ m, m < nx → X'.ν m = X.ν m := fun m hm => if_pos hm
    have ν' : ∀ i, i < l'.length → X'.ν (α i) = X1.ν i := fun i hi => by
      by_cases hil : i < l.length
      · rw [νl _ (low i hil), ← ν0 i hil, s1.ν i hil]
      · show (if α i < nx then _ else _) = _
        rw [high i (by omega), if_neg (by omega)]
        congr 1
        omega
    have hI : ∀ b, X.I b → X'.I b := s1.I
    have hc : ∀ (a : Addr) u, X.I a.block → X.w.cell? a = some u → X'.w.cell? a = some u := s1.cell
    have hle : l.length ≤ l'.length := h.le
    have spec := fun m => mrg_spec inj m (l := l') (i := 0) (st := st)
    simp only [Nat.zero_add] at spec
    have apart : ∀ m y bl c, (∀ k, k < l'.length → α k ≠ m) → st m = some y → X.ν m = some (bl, c) → bl < X.w.heap.size ∧ ¬ H0.own0 bl := fun m y bl c hk hy hn => by
      refine ⟨g.lt hy hn, ?_⟩
      rintro ⟨i, c', hi, e⟩
      exact hk i (by have := mkS_lt hi; omega) (g.inj (α i) m bl c' c (hne i hi) (by rw [hy]; simp) e hn)
    have own : ∀ bl, H0.own0 bl → H.own0 bl ∨ H.w0.heap.size ≤ bl := by
      rintro bl ⟨i, c, hi, e⟩
      exact (g.sep (α i) bl c (hne i hi) e).2
    have ownI : ∀ bl, H0.own0 bl → ¬ X.I bl := by
      rintro bl ⟨i, c, hi, e⟩
      exact (g.sep (α i) bl c (hne i hi) e).1
    have mapne : ∀ {o : Option B}, o.map (B.ren α) ≠ none → o ≠ none := fun {o} ho he => ho (by rw [he]; rfl)
    have gsz : X.w.heap.size ≤ X1.w.heap.size := g1.sz
    refine ⟨u, X', rfl, rfl, ?_, ⟨νl, hI, hc⟩, d1.ren (fun nm hn => ν' nm (h.has nm hn)) (fun _ h => h) (fun _ _ _ h => h)⟩
    refine { blk := fun m y hy => ?_, inj := fun m m' bl c c' hm hm' e e' => ?_, sep := fun m bl c hm e => ?_, bd := fun m y hy => ?_, fr := fun b h1 h2 => ?_, sz := Nat.le_trans g.sz gsz, imm := fun b hb => ?_, out := ⟨g1.out.1.trans g.out.1, g1.out.2.trans g.out.2⟩, gl := g1.gl }
    · rcases spec m with ⟨i, i1, i2, i3⟩ | ⟨i1, i2⟩
      · rw [i3] at hy
        obtain ⟨x, hx, rfl⟩ := Option.map_eq_some_iff.1 hy
        have h1 := g1.blk i x hx
        have hbx := (g1.bd i x hx).2
        unfold BDen at h1 ⊢
        rw [← i2, ν' i i1]
        cases hq : X1.ν i with
        | none => rw [hq] at h1; simpa [B.ren_size] using h1
        | some q =>
          obtain ⟨bl, c⟩ := q
          rw [hq] at h1
          obtain ⟨cur, ty, h2, h3⟩ := h1
          exact ⟨cur, ty, h2, h3.ren (fun nm hn => ν' nm (hbx nm hn)) (fun _ h => h) (fun _ _ _ h => h)⟩
      · rw [i2] at hy
        have hb := g.bd m y hy
        refine (g.blk m y hy).mono X' (νl m hb.1) (fun bl c hn => ?_) (fun nm hn => νl nm (hb.2 nm hn)) hI hc
        obtain ⟨k1, k2⟩ := apart m y bl c i1 hy hn
        exact g1.fr bl k1 k2
    · rcases spec m with ⟨i, i1, i2, i3⟩ | ⟨i1, i2⟩ <;> rcases spec m' with ⟨j, j1, j2, j3⟩ | ⟨j1, j2⟩
      · rw [i3] at hm; rw [j3] at hm'
        rw [← i2, ν' i i1] at e; rw [← j2, ν' j j1] at e'
        rw [← i2, ← j2, g1.inj i j bl c c' (mapne hm) (mapne hm') e e']
      · rw [i3] at hm; rw [j2] at hm'
        obtain ⟨y, hy⟩ := Option.ne_none_iff_exists'.1 hm'
        rw [← i2, ν' i i1] at e
        rw [νl m' (g.bd m' y hy).1] at e'
        obtain ⟨k1, k2⟩ := apart m' y bl c' j1 hy e'
        rcases (g1.sep i bl c (mapne hm) e).2 with h | h
        · exact (k2 h).elim
        · exact absurd k1 (Nat.not_lt.2 h)
      · rw [i2] at hm; rw [j3] at hm'
        obtain ⟨y, hy⟩ := Option.ne_none_iff_exists'.1 hm
        rw [← j2, ν' j j1] at e'
        rw [νl m (g.bd m y hy).1] at e
        obtain ⟨k1, k2⟩ := apart m y bl c i1 hy e
        rcases (g1.sep j bl c' (mapne hm') e').2 with h | h
        · exact (k2 h).elim
        · exact absurd k1 (Nat.not_lt.2 h)
      · rw [i2] at hm; rw [j2] at hm'
        obtain ⟨y, hy⟩ := Option.ne_none_iff_exists'.1 hm
        obtain ⟨y', hy'⟩ := Option.ne_none_iff_exists'.1 hm'
        rw [νl m (g.bd m y hy).1] at e
        rw [νl m' (g.bd m' y' hy').1] at e'
        exact g.inj m m' bl c c' hm hm' e e'
    · rcases spec m with ⟨i, i1, i2, i3⟩ | ⟨i1, i2⟩
      · rw [i3] at hm
        rw [← i2, ν' i i1] at e
        obtain ⟨k1, k2⟩ := g1.sep i bl c (mapne hm) e
        refine ⟨k1, ?_⟩
        rcases k2 with h | h
        · exact own bl h
        · exact .inr (Nat.le_trans g.sz h)
      · rw [i2] at hm
        obtain ⟨y, hy⟩ := Option.ne_none_iff_exists'.1 hm
        rw [νl m (g.bd m y hy).1] at e
        obtain ⟨k1, k2⟩ := apart m y bl c i1 hy e
        have hs := g.sep m bl c hm e
        refine ⟨fun hI' => ?_, hs.2⟩
        rcases (g1.imm bl hI').2 with h | h | h
        · exact hs.1 h
        · exact k2 h
        · exact absurd k1 (Nat.not_lt.2 h)
    · rcases spec m with ⟨i, i1, i2, i3⟩ | ⟨i1, i2⟩
      · rw [i3] at hy
        obtain ⟨x, hx, rfl⟩ := Option.map_eq_some_iff.1 hy
        have hb := g1.bd i x hx
        refine ⟨by rw [← i2]; exact lt' i i1, fun k hk => ?_⟩
        cases x with
        | st cs =>
          cases hk with
          | st hc hk =>
            obtain ⟨c0, hc0, rfl⟩ := List.mem_map.1 hc
            have : ∃ k', c0.Has k' ∧ α k' = k := by cases c0 <;> first | exact ⟨_, rfl, hk⟩ | exact hk.elim
            obtain ⟨k', k1, k2⟩ := this
            rw [← k2]; exact lt' k' (hb.2 k' (.st hc0 k1))
        | _ => cases hk
      · rw [i2] at hy
        have hb := g.bd m y hy
        exact ⟨by omega, fun k hk => by have := hb.2 k hk; omega⟩
    · have hx : b < X.w.heap.size := Nat.lt_of_lt_of_le h1 g.sz
      have : ¬ H0.own0 b := fun ho => (own b ho).elim h2 (fun h => by omega)
      exact (g1.fr b hx this).trans (g.fr b h1 h2)
    · obtain ⟨k1, k2⟩ := g1.imm b hb
      refine ⟨k1, ?_⟩
      rcases k2 with h | h | h
      · exact (g.imm b h).2
      · exact (own b h).elim (fun h => .inr (.inl h)) (fun h => .inr (.inr h))
      · exact .inr (.inr (Nat.le_trans g.sz h))
def FnS (f : Nat) (vs : List V) (l : List (Option B)) (K : V → List (Option B) → Prop) : Prop := ∃ v l', K v l' ∧ CallX f vs (mkS l) l.length v (mkS l') l'.length
theorem FnS.mono {f : Nat} {vs : List V} {l : List (Option B)} {K K' : V → List (Option B) → Prop} (h : FnS f vs l K) (hk : ∀ v l', K v l' → K' v l') : FnS f vs l K' :=
  let ⟨v, l', h1, h2⟩ := h; ⟨v, l', hk _ _ h1, h2⟩
def useOk (ρ : List Nat) (nx : Nat) (vs : List V) (l : List (Option B)) : Bool :=
  Nat.beq ρ.length l.length && noDup ρ && allLt nx ρ && belowVs l.length vs && allS l.length l
theorem CallQ.use {f : Nat} {vs₁ : List V} {st : Nat → Option B} {nx : Nat} {K' : V → (Nat → Option B) → Nat → Prop} {vs : List V} {l : List (Option B)} {K : V → List (Option B) → Prop} (ρ : List Nat)
    (h : FnS f vs l K) (hv : vs₁ = renVs (sh ρ nx) vs) (hok : useOk ρ nx vs l = true) (hst : stEq st (sh ρ nx) 0 l)
    (hk : ∀ v l', K v l' → K' (v.ren (sh ρ nx)) (mrg (sh ρ nx) 0 l' st) (nx + (l'.length - ρ.length))) : CallQ f vs₁ st nx K' := by
  obtain ⟨v, l', h1, h2⟩ := h
  simp only [useOk, Bool.and_eq_true] at hok
  obtain ⟨⟨⟨⟨k1, k2⟩, k3⟩, k4⟩, k5⟩ := hok
  subst hv
  exact ⟨_, _, _, h2.use ρ (Nat.eq_of_beq_eq_true k1) k2 k3 hst k4 k5, hk v l' h1⟩
def resV (s : S) : List ResultVar → Option (List V)
  | [] => some []
  | .tmp t :: r => match s.env t, resV s r with
    | some v, some vs => some (v :: vs)
    | _, _ => none
  | .cell a t :: r => match s.env a with
    | some (.c (.p nm off)) => match s.st nm with
      | some b => match loadM t off b, resV s r with
        | .ok v, some vs => some (v :: vs)
        | _, _ => none
      | none => none
    | _ => none
def resOf : List V → V
  | [v] => v
  | vs => .tu vs
def resF (tmps : Array Value) : ResultVar → Sem Value
  | .tmp t => pure (tmps.getD t undef)
  | .cell a t => do loadVar t (← asAddr (tmps.getD a undef))
theorem resV_ok {H : Hp} {s : S} {X : Ctx} {a : Act} (g : Γ H s X a) : ∀ (rs : List ResultVar) (vs : List V), resV s rs = some vs → ∃ us : List Value, (rs.mapM (resF a.tmps)).run P X.w = .ok us X.w ∧
    us.length = vs.length ∧ ∀ (i : Nat) v u, vs[i]? = some v → us[i]? = some u → VDen X v u ∧ ∀ nm, v.Has nm → nm < s.nx
  | [], vs, h => by simp [resV] at h; subst h; exact ⟨[], by simp, rfl, fun i v u h => by simp at h⟩
  | .tmp t :: r, vs, h => by
    simp only [resV] at h
    split at h
    · rename_i v vs' h1 h2
      cases h
      obtain ⟨us, k1, k2, k3⟩ := resV_ok g r vs' h2
      obtain ⟨⟨u, m1, m2⟩, m3⟩ := g.env t v h1
      refine ⟨u :: us, by simp [List.mapM_cons, resF, Array.getD_eq_getD_getElem?, m1, k1], by simp [k2], fun i w x hw hx => ?_⟩
      cases i with
      | zero => simp at hw hx; subst hw; subst hx; exact ⟨m2, m3⟩
      | succ i => exact k3 i w x (by simpa using hw) (by simpa using hx)
    · cases h
  | .cell t ty :: r, vs, h => by
    simp only [resV] at h
    split at h
    · rename_i nm off hv
      split at h
      · rename_i b hb
        split at h
        · rename_i v vs' hl h2
          cases h
          obtain ⟨us, k1, k2, k3⟩ := resV_ok g r vs' h2
          obtain ⟨⟨u, m1, m2⟩, m3⟩ := g.env t _ hv
          cases m2 with | c m2 => cases m2 with | @p _ _ bl c hν =>
          have hbd := g.blk nm b hb
          simp only [BDen, hν] at hbd
          obtain ⟨cur, tb, hh, hc⟩ := hbd
          have hld := loadM_ok (nx := s.nx) (t := ty) (off := off) hh hc (g.bd nm b hb).2
          rw [hl] at hld
          obtain ⟨x, n1, n2, n3⟩ := hld
          refine ⟨x :: us, by simp [List.mapM_cons, resF, Array.getD_eq_getD_getElem?, m1, k1, asAddr, n1], by simp [k2], fun i w y hw hy => ?_⟩
          cases i with
          | zero => simp at hw hy; subst hw; subst hy; exact ⟨n2, n3⟩
          | succ i => exact k3 i w y (by simpa using hw) (by simpa using hy)
        · cases h
      · cases h
    · cases h
theorem run_results {H : Hp} {s : S} {X : Ctx} {a : Act} (g : Γ H s X a) (fn : Func) {vs : List V} (h : resV s fn.results.toList = some vs) :
    ∃ u, (results fn a.tmps).run P X.w = .ok u X.w ∧ VDen X (resOf vs) u ∧ ∀ nm, (resOf vs).Has nm → nm < s.nx := by
  obtain ⟨us, h1, h2, h3⟩ := resV_ok g _ vs h
  have hm : fn.results.mapM (resF a.tmps) = (List.toArray <$> fn.results.toList.mapM (resF a.tmps) : Sem (Array Value)) := by
    rw [← List.mapM_toArray]
  have hr : (results fn a.tmps).run P X.w = .ok (if h : us.toArray.size = 1 then us.toArray[0] else .tuple us.toArray) X.w := by
    have : results fn a.tmps = (do let vs ← fn.results.mapM (resF a.tmps); pure (if h : vs.size = 1 then vs[0] else .tuple vs)) := by
      unfold results
      congr 1
    rw [this, hm]
    simp [h1]
  refine ⟨_, hr, ?_⟩
  by_cases hsz : us.length = 1
  · obtain ⟨u, rfl⟩ := List.length_eq_one_iff.1 hsz
    obtain ⟨v, rfl⟩ := List.length_eq_one_iff.1 (h2 ▸ hsz : vs.length = 1)
    exact h3 0 v u rfl rfl
  · have hne : ¬ (us.toArray.size = 1) := by simpa using hsz
    rw [dif_neg hne]
    have hv : resOf vs = .tu vs := by
      cases vs with
      | nil => rfl
      | cons v r => cases r with
        | nil => exact (hsz h2).elim
        | cons _ _ => rfl
    rw [hv]
    refine ⟨.tu (by simp [h2]) fun i v u hv hu => (h3 i v u hv (by simpa using hu)).1, fun nm hn => ?_⟩
    cases hn with
    | tu hm hh =>
      obtain ⟨i, hi⟩ := List.mem_iff_getElem?.1 hm
      have : i < us.length := by rw [h2]; exact (List.getElem?_eq_some_iff.1 hi).1
      exact (h3 i _ us[i] hi (List.getElem?_eq_getElem this)).2 nm hh
def EndQ (rs : List ResultVar) (b : Nat) (K : V → List (Option B) → Prop) (e : Exit) (s : S) : Prop :=
  (match e with | .normal | .ret => True | _ => False) ∧ ∃ vs l', resV s rs = some vs ∧ ((resOf vs).lo l'.length && allS l'.length l' && Nat.ble b l'.length && Nat.ble l'.length s.nx) = true ∧ stEq s.st id 0 l' ∧ K (resOf vs) l'
def envA (vs : List V) : Nat → Option V := fun t => vs[t]?
theorem FnS.of {f : Nat} {fn : Func} {c : Code} {vs : List V} {l : List (Option B)} {K : V → List (Option B) → Prop} (hf : P.funcs[f]? = some fn) (hb : fn.body = some c) (hn : (fn.name == "runtime.NumGoroutine") = false)
    (h : WpS l.length c ⟨envA vs, mkS l, l.length, fn.ntmps⟩ (EndQ fn.results.toList l.length K)) : FnS f vs l K := by
  obtain ⟨e, s', ⟨he, rs, l', h1, h2, h3, h4⟩, hrun⟩ := h
  simp only [Bool.and_eq_true] at h2
  obtain ⟨⟨⟨h5, h6⟩, h7⟩, h8⟩ := h2
  have h7 := Nat.le_of_ble_eq_true h7
  have h8 := Nat.le_of_ble_eq_true h8
  refine ⟨_, l', h4, ⟨fn, hf, by rw [hb]; rfl, hn⟩, h7, V.lo_ok h5, fun H X us g hl hd => ?_⟩
  let a : Act := { tmps := us.toArray ++ Array.replicate (fn.ntmps - us.toArray.size) undef, defers := [] }
  have g0 : Γ { H with ds := [] } ⟨envA vs, mkS l, l.length, fn.ntmps⟩ X a := by
    refine { toHs := g.ds [], dn := rfl, n := by simp [a]; omega, env := fun t v hv => ?_ }
    have hv' : vs[t]? = some v := hv
    have htl : t < us.length := by rw [hl]; exact (List.getElem?_eq_some_iff.1 hv').1
    obtain ⟨h1, h2⟩ := hd t v us[t] hv' (List.getElem?_eq_getElem htl)
    exact ⟨⟨us[t], by simp [a, Array.getElem?_append, htl], h1⟩, h2⟩
  refine calls_of_wp hf hb (wp_mono (hrun { H with ds := [] } X a (Nat.le_refl _) g0) fun e' a' w' ⟨h9, X', h10, g', hs, hb'⟩ => ?_)
  subst h9 h10
  have fin : a'.defers = [] ∧ ∃ v, (results fn a'.tmps).run P X'.w = .ok v X'.w ∧ ∃ u X2, Ending.returned v = .returned u ∧ X2.w = X'.w ∧ Hs H (mkS l') l'.length X2 ∧ Step l.length X X2 ∧ VDen X2 (resOf rs) u := by
    obtain ⟨u, k1, k2, k3⟩ := run_results g' fn h1
    refine ⟨g'.dn, u, k1, u, X', rfl, rfl, ?_, hs, k2⟩
    have hst : ∀ m x, mkS l' m = some x → s'.st m = some x := fun m x hx => by
      have := mkS_eq h3 m x hx
      have hr : x.ren id = x := by
        cases x with
        | st cs =>
          have hc : ∀ c : C, c.ren id = c := fun c => by cases c <;> rfl
          have : cs.map (C.ren id) = cs := by
            have h2 : C.ren id = id := funext hc
            rw [h2, List.map_id]
          show B.st (cs.map (C.ren id)) = B.st cs
          rw [this]
        | _ => rfl
      rw [hr, Nat.zero_add] at this
      exact this
    have hne : ∀ m, mkS l' m ≠ none → s'.st m ≠ none := fun m h => by
      obtain ⟨y, hy⟩ := Option.ne_none_iff_exists'.1 h
      rw [hst m y hy]; simp
    exact { blk := fun m x hx => g'.blk m x (hst m x hx), inj := fun m m' b c c' h h' => g'.inj m m' b c c' (hne m h) (hne m' h'), sep := fun m b c h => g'.sep m b c (hne m h), bd := fun m x hx => mkS_all h6 m x hx, fr := g'.fr, sz := g'.sz, imm := g'.imm, out := g'.out, gl := g'.gl }
  cases e' with
  | normal => exact fin
  | ret => exact fin
  | _ => exact he.elim
def EndV (rs : List ResultVar) (b n : Nat) (K : V → List (Option B) → Prop) (x : Exit) (e : Nat → Option V) (st : Nat → Option B) (nx : Nat) : Prop :=
  match x with
  | .normal | .ret => match resV ⟨e, st, nx, n⟩ rs with
    | some vs => ∃ l', ((resOf vs).lo l'.length && allS l'.length l' && Nat.ble b l'.length && Nat.ble l'.length nx) = true ∧ stEq st id 0 l' ∧ K (resOf vs) l'
    | none => False
  | _ => False
def envL : List V → Nat → Option V
  | [], _ => none
  | v :: _, 0 => some v
  | _ :: r, t + 1 => envL r t
theorem envL_eq : ∀ (vs : List V) (t : Nat), envL vs t = vs[t]?
  | [], t => by simp [envL]
  | v :: r, 0 => rfl
  | v :: r, t + 1 => by simp [envL, envL_eq r t]
theorem FnS.run {f : Nat} (fn : Func) {c : Code} {n b : Nat} {rs : List ResultVar} {vs : List V} {l : List (Option B)} {K : V → List (Option B) → Prop} (hf : P.funcs[f]? = some fn) (hb : fn.body = some c) (hn : (fn.name == "runtime.NumGoroutine") = false)
    (hm : fn.ntmps = n) (hr : fn.results.toList = rs) (hl : l.length = b) (h : VC b n c (envL vs) (mkS l) b (EndV rs b n K)) : FnS f vs l K := by
  subst hm hr hl
  have he : envL vs = envA vs := funext fun t => envL_eq vs t
  rw [he] at h
  have h' : WpS l.length c ⟨envA vs, mkS l, l.length, fn.ntmps⟩ (fun x s => EndV fn.results.toList l.length fn.ntmps K x s.env s.st s.nx ∧ s.n = fn.ntmps) := by
    obtain ⟨x, e', st', nx', h1, h2⟩ := VC_run _ _ _ _ _ h
    exact ⟨x, ⟨e', st', nx', fn.ntmps⟩, ⟨h1, rfl⟩, h2⟩
  refine FnS.of hf hb hn (WpS.mono h' fun x s hx => ?_)
  · obtain ⟨h1, h2⟩ := hx
    obtain ⟨e, st, nx, n⟩ := s
    simp only at h2
    subst h2
    have fin : ∀ {y : Exit}, (match y with | .normal | .ret => True | _ => False) → (match resV ⟨e, st, nx, fn.ntmps⟩ fn.results.toList with
        | some vs => ∃ l', ((resOf vs).lo l'.length && allS l'.length l' && Nat.ble l.length l'.length && Nat.ble l'.length nx) = true ∧ stEq st id 0 l' ∧ K (resOf vs) l'
        | none => False) → EndQ fn.results.toList l.length K y ⟨e, st, nx, fn.ntmps⟩ := fun hy h => by
      split at h
      · rename_i vs hv
        obtain ⟨l', k1, k2, k3⟩ := h
        exact ⟨hy, vs, l', hv, k1, k2, k3⟩
      · exact h.elim
    cases x with
    | normal => exact fin trivial h1
    | ret => exact fin trivial h1
    | _ => exact h1.elim
def Fn0 (f : Nat) (vs : List V) (b : B) (K : V → B → Prop) : Prop := ∀ (st : Nat → Option B) (nx : Nat), st 0 = some b → ∃ v b', K v b' ∧ CallX f vs st nx v (upd st 0 b') nx
theorem Fn0.mono {f : Nat} {vs : List V} {b : B} {K K' : V → B → Prop} (h : Fn0 f vs b K) (hk : ∀ v b', K v b' → K' v b') : Fn0 f vs b K' :=
  fun st nx hs => let ⟨v, b', h1, h2⟩ := h st nx hs; ⟨v, b', hk _ _ h1, h2⟩
theorem CallQ.use0 {f : Nat} {vs : List V} {st : Nat → Option B} {nx : Nat} {K' : V → (Nat → Option B) → Nat → Prop} {b : B} {K : V → B → Prop} (h : Fn0 f vs b K) (hs : st 0 = some b) (hk : ∀ v b', K v b' → K' v (upd st 0 b') nx) : CallQ f vs st nx K' :=
  let ⟨v, b', h1, h2⟩ := h st nx hs; ⟨v, _, _, h2, hk v b' h1⟩
inductive Only0 (st0 : Nat → Option B) : (Nat → Option B) → Prop
  | refl : Only0 st0 st0
  | upd {st : Nat → Option B} {b : B} (h : Only0 st0 st) : Only0 st0 (upd st 0 b)
theorem Only0.eq {st0 st : Nat → Option B} (h : Only0 st0 st) {b : B} (hb : st 0 = some b) : st = SX.upd st0 0 b := by
  have : ∀ m, m ≠ 0 → st m = st0 m := by
    clear hb
    induction h with
    | refl => exact fun _ _ => rfl
    | upd _ ih => exact fun m hm => by rw [upd_other _ _ hm]; exact ih m hm
  funext m
  by_cases hm : m = 0
  · subst hm; rw [upd_same, hb]
  · rw [upd_other _ _ hm, this m hm]
def End0 (rs : List ResultVar) (st0 : Nat → Option B) (nx0 n : Nat) (K : V → B → Prop) (x : Exit) (e : Nat → Option V) (st : Nat → Option B) (nx : Nat) : Prop :=
  match x with
  | .normal | .ret => match resV ⟨e, st, nx, n⟩ rs with
    | some vs => ∃ b', (resOf vs).lo 0 = true ∧ nx = nx0 ∧ Only0 st0 st ∧ st 0 = some b' ∧ K (resOf vs) b'
    | none => False
  | _ => False
theorem upd_twice {α : Type} (f : Nat → Option α) (t : Nat) (v w : α) : upd (upd f t v) t w = upd f t w := by
  funext x
  by_cases h : x = t
  · subst h; rw [upd_same, upd_same]
  · rw [upd_other _ _ h, upd_other _ _ h, upd_other _ _ h]
theorem Fn0.run {f : Nat} (fn : Func) {c : Code} {n : Nat} {rs : List ResultVar} {vs : List V} {b : B} {K : V → B → Prop} (hf : P.funcs[f]? = some fn) (hb : fn.body = some c) (hn : (fn.name == "runtime.NumGoroutine") = false)
    (hm : fn.ntmps = n) (hr : fn.results.toList = rs) (h : ∀ st m, VC (m + 1) n c (envL vs) (upd st 0 b) (m + 1) (End0 rs st (m + 1) n K)) : Fn0 f vs b K := by
  subst hm hr
  suffices ∀ (st : Nat → Option B) (m : Nat), st 0 = some b → ∃ v b', K v b' ∧ (∀ nm, ¬ v.Has nm) ∧ CallX f vs st (m + 1) v (upd st 0 b') (m + 1) by
    intro st nx hst
    cases nx with
    | succ m => obtain ⟨v, b', h1, _, h2⟩ := this st m hst; exact ⟨v, b', h1, h2⟩
    | zero =>
      obtain ⟨v, b', h1, h3, h2⟩ := this st 0 hst
      exact ⟨v, b', h1, h2.enter, Nat.le_refl _, fun nm hn => (h3 nm hn).elim, fun H X us g _ _ => absurd (g.bd 0 b hst).1 (Nat.lt_irrefl _)⟩
  intro st m hst
  obtain ⟨x, e', st', nx', hx, hrun⟩ := VC_run _ _ _ _ _ (h st m)
  generalize hnx : m + 1 = nx at *
  rw [upd_self hst] at hrun
  have he : envL vs = envA vs := funext fun t => envL_eq vs t
  rw [he] at hrun
  have hx' : (x = .normal ∨ x = .ret) ∧ ∃ rv b', resV ⟨e', st', nx', fn.ntmps⟩ fn.results.toList = some rv ∧ (resOf rv).lo 0 = true ∧ nx' = nx ∧ st' = upd st 0 b' ∧ K (resOf rv) b' := by
    unfold End0 at hx
    have fin : ∀ {q : Prop}, q → (match resV ⟨e', st', nx', fn.ntmps⟩ fn.results.toList with
        | some vs => ∃ b', (resOf vs).lo 0 = true ∧ nx' = nx ∧ Only0 st st' ∧ st' 0 = some b' ∧ K (resOf vs) b'
        | none => False) → q ∧ ∃ rv b', resV ⟨e', st', nx', fn.ntmps⟩ fn.results.toList = some rv ∧ (resOf rv).lo 0 = true ∧ nx' = nx ∧ st' = upd st 0 b' ∧ K (resOf rv) b' := fun hq h => by
      split at h
      · rename_i vs hv
        obtain ⟨b', k1, k2, k3, k4, k5⟩ := h
        exact ⟨hq, vs, b', hv, k1, k2, k3.eq k4, k5⟩
      · exact h.elim
    cases x with
    | normal => exact fin (.inl rfl) hx
    | ret => exact fin (.inr rfl) hx
    | _ => exact hx.elim
  obtain ⟨hex, rv, b', hres, hlo, rfl, rfl, hK⟩ := hx'
  refine ⟨resOf rv, b', hK, fun nm hh => absurd (V.lo_ok hlo nm hh) (Nat.not_lt_zero _), ⟨fn, hf, by rw [hb]; rfl, hn⟩, Nat.le_refl _, fun nm hh => by have := V.lo_ok hlo nm hh; omega, fun H X us g hl hd => ?_⟩
  let a : Act := { tmps := us.toArray ++ Array.replicate (fn.ntmps - us.toArray.size) undef, defers := [] }
  have g0 : Γ { H with ds := [] } ⟨envA vs, st, nx', fn.ntmps⟩ X a := by
    refine { toHs := g.ds [], dn := rfl, n := by simp [a]; omega, env := fun t v hv => ?_ }
    have hv' : vs[t]? = some v := hv
    have htl : t < us.length := by rw [hl]; exact (List.getElem?_eq_some_iff.1 hv').1
    obtain ⟨h1, h2⟩ := hd t v us[t] hv' (List.getElem?_eq_getElem htl)
    exact ⟨⟨us[t], by simp [a, Array.getElem?_append, htl], h1⟩, h2⟩
  refine calls_of_wp hf hb (wp_mono (hrun { H with ds := [] } X a (Nat.le_refl _) g0) fun y a' w' ⟨h9, X', h10, g', hs, hb'⟩ => ?_)
  subst h9 h10
  have fin : a'.defers = [] ∧ ∃ v, (results fn a'.tmps).run P X'.w = .ok v X'.w ∧ ∃ u X2, Ending.returned v = .returned u ∧ X2.w = X'.w ∧ Hs H (upd st 0 b') nx' X2 ∧ Step nx' X X2 ∧ VDen X2 (resOf rv) u := by
    obtain ⟨u, k1, k2, k3⟩ := run_results g' fn hres
    exact ⟨g'.dn, u, k1, u, X', rfl, rfl, g'.toHs.nods, hs, k2⟩
  rcases hex with rfl | rfl
  · exact fin
  · exact fin
theorem w_i8 (n : Int) : IntKind.i8.wrap n = (n + 128) % 256 - 128 := by simp [IntKind.wrap, IntKind.bits, IntKind.signed]; split <;> omega
theorem w_i16 (n : Int) : IntKind.i16.wrap n = (n + 32768) % 65536 - 32768 := by simp [IntKind.wrap, IntKind.bits, IntKind.signed]; split <;> omega
theorem and_mask (k : IntKind) (x m : Int) (hm : 0 ≤ m) (hk : m ≤ k.max) : 0 ≤ bits .and k x m ∧ bits .and k x m ≤ m := by
  obtain ⟨n, rfl⟩ := Int.eq_ofNat_of_zero_le hm
  have hn : n < 2 ^ k.bits := by
    have : (n : Int) < 2 ^ k.bits := by
      refine Int.lt_of_le_of_lt hk ?_
      cases k <;> decide
    exact_mod_cast this
  have e : (BitVec.ofInt k.bits (n : Int)).toNat = n := by
    rw [BitVec.ofInt_natCast, BitVec.toNat_ofNat, Nat.mod_eq_of_lt hn]
  have h1 : bits .and k x (n : Int) = k.wrap (((BitVec.ofInt k.bits x).toNat &&& n : Nat) : Int) := by
    simp only [bits, BitVec.toNat_and, e]
  have h2 : (BitVec.ofInt k.bits x).toNat &&& n ≤ n := Nat.and_le_right
  generalize (BitVec.ofInt k.bits x).toNat &&& n = y at h1 h2
  rw [h1]
  have : k.wrap (y : Int) = y := by
    have hy : (y : Int) ≤ k.max := Int.le_trans (by exact_mod_cast h2) hk
    cases k
    · exact IntWalk.i8_in _ ⟨by omega, hy⟩
    · exact IntWalk.i16_in _ ⟨by omega, hy⟩
    · exact IntWalk.i32_in _ ⟨by omega, hy⟩
    · exact IntWalk.i64_in _ ⟨by omega, hy⟩
    · exact IntWalk.u8_in _ ⟨by omega, hy⟩
    · exact IntWalk.u16_in _ ⟨by omega, hy⟩
    · exact IntWalk.u32_in _ ⟨by omega, hy⟩
    · exact IntWalk.u64_in _ ⟨by omega, hy⟩
  rw [this]
  exact ⟨by omega, by exact_mod_cast h2⟩
end Go.SX
