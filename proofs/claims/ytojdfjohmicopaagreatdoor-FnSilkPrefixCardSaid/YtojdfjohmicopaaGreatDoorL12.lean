/- A part of the proof: the SILK decoder of the given program, walked by an executor that is proved sound. No statement of the program is proved in this text. -/
import Derived.Test.YtojdfjohmicopaaGreatDoorL11
set_option linter.all false
set_option maxRecDepth 100000
namespace Go.SX
open Go
inductive FreeQ (f : Nat) (vs : List V) (K : V → Prop) : Prop
  | mk (v : V) (h : ∀ st nx, CallX f vs st nx v st nx) (hk : K v)
theorem FreeQ.use {f : Nat} {vs : List V} {K : V → Prop} {P : V → Prop} (h : FnS f vs [] fun v l' => P v ∧ l' = []) (hv : ∀ nx, renVs (sh [] nx) vs = vs) (hb : belowVs 0 vs = true) (hP : ∀ v, P v → ∀ nx, v.ren (sh [] nx) = v) (hk : ∀ v, P v → K v) : FreeQ f vs K := by
  obtain ⟨v, l', ⟨h1, rfl⟩, h2⟩ := h
  refine ⟨v, fun st nx => ?_, hk v h1⟩
  have := h2.use (st := st) (nx := nx) [] rfl rfl rfl trivial hb rfl
  rw [hv, hP v h1] at this
  exact this
def classV (M : (Nat → Option B) → Prop) (k : Nat) (op : Op) (e : Nat → Option V) (st : Nat → Option B) (nx : Nat) (K : V → (Nat → Option B) → Nat → Prop) : Prop :=
  match k with
  | 0 => match pureV op (rd e) with
    | .ok v => K v st nx
    | .cond φ v => φ ∧ K v st nx
    | .no => match op with
      | .call ⟨.value (.func f), args, _⟩ => match rds (rd e) args.toList with
        | some vs => FreeQ f vs fun v => K v st nx
        | none => False
      | .build t ps => match memV (.build t ps) (rd e) (fun _=>none) 0 with
        | .ok v _ _ => K v st nx
        | _ => False
      | _ => False
  | 1 => match op with
    | .load t x => match rd e x with
      | some (.c (.p nm off)) => ∃ v, (M st ∧ ∀ st2, M st2 → ∃ b, st2 nm = some b ∧ (loadM t off b).Is v) ∧ K v st nx
      | _ => False
    | _ => False
  | 2 => M st ∧ anyV op e st nx fun v st nx => M st ∧ K v st nx
  | _ => anyV op e st nx K
def VMs (M : (Nat → Option B) → Prop) (n : Nat) (l : List Oper) : List Nat → List Oper → (Nat → Option V) → (Nat → Option B) → Nat → ((Nat → Option V) → (Nat → Option B) → Nat → Prop) → Prop
  | _, [], e, st, nx, K => K e st nx
  | [], _ :: _, _, _, _, _ => False
  | k :: cs, ⟨d, op, _, _, _, g⟩ :: r, e, st, nx, K => guardV l g e st nx (fun e => classV M k op e st nx) fun e F => dstV n d e F fun e st nx => VMs M n l cs r e st nx K
theorem classV_ok {M : (Nat → Option B) → Prop} {k : Nat} {o : Oper} {e : Nat → Option V} {st : Nat → Option B} {nx : Nat} {K : V → (Nat → Option B) → Nat → Prop} (h : classV M k o.op e st nx K) :
    ∃ v st' nx', StpV M k o e st nx v st' nx' ∧ K v st' nx' := by
  unfold classV at h
  split at h
  · split at h
    · rename_i v hv; exact ⟨v, st, nx, ⟨fun _ _ => .of_pure (.inl hv), rfl, rfl⟩, h⟩
    · rename_i φ v hv; exact ⟨v, st, nx, ⟨fun _ _ => .of_pure (.inr ⟨φ, hv, h.1⟩), rfl, rfl⟩, h.2⟩
    · split at h
      · rename_i f args ts ho
        split at h
        · rename_i vs hvs
          obtain ⟨v, h1, h2⟩ := h
          exact ⟨v, st, nx, ⟨fun st nx => .of_call ho hvs (h1 st nx), rfl, rfl⟩, h2⟩
        · exact h.elim
      · rename_i t ps ho
        split at h
        · rename_i v st0 nx0 hm
          refine ⟨v, st, nx, ⟨fun st nx => .of_mem (.inl ?_), rfl, rfl⟩, h⟩
          rw [ho]
          simp only [memV] at hm ⊢
          repeat' split at hm
          all_goals first
            | (cases hm; done)
            | (cases hm; simp_all)
        · exact h.elim
      · exact h.elim
  · split at h
    · rename_i t x ho
      split at h
      · rename_i nm off hx
        obtain ⟨v, ⟨h1, h2⟩, h3⟩ := h
        exact ⟨v, st, nx, ⟨.inr ⟨t, x, nm, off, ho, hx, h1, fun st2 hm => let ⟨b, k1, k2⟩ := h2 st2 hm; ⟨b, k1, k2⟩⟩, rfl, rfl⟩, h3⟩
      · exact h.elim
    · exact h.elim
  · obtain ⟨h1, h2⟩ := h
    obtain ⟨v, st', nx', k1, k2, k3⟩ := anyV_ok h2
    exact ⟨v, st', nx', ⟨h1, k2, k1⟩, k3⟩
  · rename_i h0 h1 h2
    obtain ⟨v, st', nx', k1, k2⟩ := anyV_ok h
    refine ⟨v, st', nx', ?_, k2⟩
    unfold StpV
    split
    · exact (h0 rfl).elim
    · exact (h1 rfl).elim
    · exact (h2 rfl).elim
    · exact k1
theorem VMs_ok {M : (Nat → Option B) → Prop} {ops : Array Oper} {n : Nat} {cl : Nat → Nat} : ∀ {cs : List Nat} {l : List Oper} {k : Nat} {e : Nat → Option V} {st : Nat → Option B} {nx : Nat} {K : (Nat → Option V) → (Nat → Option B) → Nat → Prop},
    (∀ j, l[j]? = ops[k + j]?) → (∀ i, cl (k + i) = clF cs i) → VMs M n ops.toList cs l e st nx K → ∃ e' st' nx', K e' st' nx' ∧ Chain M cl ops (List.range' k l.length) ⟨e, st, nx, n⟩ ⟨e', st', nx', n⟩
  | _, [], k, e, st, nx, K, _, _, h => ⟨e, st, nx, (by unfold VMs at h; exact h), .nil⟩
  | [], _ :: _, k, e, st, nx, K, _, _, h => h.elim
  | c :: cs, ⟨d, op, ty, ps, af, g⟩ :: r, k, e, st, nx, K, hl, hcl, h => by
    have hl' : ∀ j, r[j]? = ops[k + 1 + j]? := fun j => by have := hl (j + 1); simp at this; rw [this]; congr 1; omega
    have ho : ops[k]? = some ⟨d, op, ty, ps, af, g⟩ := by have := hl 0; simpa using this.symm
    have hcl' : ∀ i, cl (k + 1 + i) = clF cs i := fun i => by have := hcl (i + 1); rw [show k + 1 + i = k + (i + 1) by omega, this]; rfl
    have hk : cl k = c := hcl 0
    unfold VMs at h
    obtain ⟨hd, v, st1, nx1, h1, _, h2⟩ := VO_ok (M := M) (k := cl k) (ty := ty) (ps := ps) (af := af) (J := fun _=>True) trivial (fun K hK => by
      obtain ⟨v, st', nx', k1, k2⟩ := classV_ok (o := ⟨d, op, ty, ps, af, g⟩) hK
      exact ⟨v, st', nx', by rw [hk]; exact k1, trivial, k2⟩) h
    obtain ⟨e', st', nx', k1, k2⟩ := VMs_ok (ops := ops) (cl := cl) hl' hcl' h2
    exact ⟨e', st', nx', k1, .cons ho hd h1 k2⟩
theorem WpS.draw {b id n nx : Nat} {ops : Array Oper} {e : Nat → Option V} {st : Nat → Option B} {Q : Exit → S → Prop} (cs : List Nat) (M : (Nat → Option B) → Prop) (hok : okDraw (clF cs) ops = true)
    (h : VMs M n ops.toList cs ops.toList e st nx fun e st nx => Q .normal ⟨e, st, nx, n⟩) : WpS b (.region id ops true) ⟨e, st, nx, n⟩ Q := by
  obtain ⟨e', st', nx', h1, h2⟩ := VMs_ok (M := M) (ops := ops) (cl := clF cs) (k := 0) (fun j => by simp) (fun i => by simp) h
  refine ⟨.normal, ⟨e', st', nx', n⟩, h1, fun H X a hb g => wp_region_any (by rfl) ?_⟩
  obtain ⟨k1, k2⟩ := g.toHs.world { X.w with drawn := X.w.drawn + 1 } rfl
  have g' := g.step k1 k2 (Nat.le_refl _)
  have hrem : rem ops (Array.replicate ops.size false) = List.range' 0 ops.toList.length := by
    unfold rem
    rw [List.filter_eq_self.2 fun j hj => ?_, List.range_eq_range', Array.length_toList]
    simp only [List.mem_range] at hj
    simp [hj]
  refine por (M := M) (s' := ⟨e', st', nx', n⟩) hok ops.size _ _ a _ (fun j o _ hj => by rw [getD_replicate_false'] at hj; cases hj) (by simp) g' (by rw [hrem]; exact h2) (by rw [hrem]; simp) fun X' a' m1 m2 m3 => ?_
  exact ⟨rfl, X', rfl, m1, (k2.trans m2 (Nat.le_refl _)).low hb, Nat.le_trans hb m3⟩
def EndF (rs : List ResultVar) (b n : Nat) (K : V → List (Option B) → Prop) (x : Exit) (e : Nat → Option V) (st : Nat → Option B) (nx : Nat) : Prop :=
  match x with
  | .normal | .ret => match resV ⟨e, st, nx, n⟩ rs with
    | some [.c c] => match frzC c st with
      | .ok c' st' => ∃ l', (allS l'.length l' && Nat.ble b l'.length && Nat.ble l'.length nx) = true ∧ stEq st' id 0 l' ∧ K (.c c') l'
      | .cond φ c' st' => φ ∧ ∃ l', (allS l'.length l' && Nat.ble b l'.length && Nat.ble l'.length nx) = true ∧ stEq st' id 0 l' ∧ K (.c c') l'
      | .no => False
    | _ => False
  | _ => False
theorem FnS.runF {f : Nat} (fn : Func) {c : Code} {n b : Nat} {rs : List ResultVar} {vs : List V} {l : List (Option B)} {K : V → List (Option B) → Prop} (hf : P.funcs[f]? = some fn) (hb : fn.body = some c) (hn : (fn.name == "runtime.NumGoroutine") = false)
    (hm : fn.ntmps = n) (hr : fn.results.toList = rs) (hl : l.length = b) (h : VC b n c (envL vs) (mkS l) b (EndF rs b n K)) : FnS f vs l K := by
  subst hm hr hl
  have he : envL vs = envA vs := funext fun t => envL_eq vs t
  rw [he] at h
  obtain ⟨x, e', st', nx', hx, hrun⟩ := VC_run _ _ _ _ _ h
  have hx' : (x = .normal ∨ x = .ret) ∧ ∃ c0 c' st2 l', resV ⟨e', st', nx', fn.ntmps⟩ fn.results.toList = some [.c c0] ∧ (frzC c0 st' = .ok c' st2 ∨ ∃ φ, frzC c0 st' = .cond φ c' st2 ∧ φ) ∧
      (allS l'.length l' && Nat.ble l.length l'.length && Nat.ble l'.length nx') = true ∧ stEq st2 id 0 l' ∧ K (.c c') l' := by
    unfold EndF at hx
    have fin : ∀ {q : Prop}, q → (match resV ⟨e', st', nx', fn.ntmps⟩ fn.results.toList with
        | some [.c c] => match frzC c st' with
          | .ok c' st' => ∃ l', (allS l'.length l' && Nat.ble l.length l'.length && Nat.ble l'.length nx') = true ∧ stEq st' id 0 l' ∧ K (.c c') l'
          | .cond φ c' st' => φ ∧ ∃ l', (allS l'.length l' && Nat.ble l.length l'.length && Nat.ble l'.length nx') = true ∧ stEq st' id 0 l' ∧ K (.c c') l'
          | .no => False
        | _ => False) → q ∧ ∃ c0 c' st2 l', resV ⟨e', st', nx', fn.ntmps⟩ fn.results.toList = some [.c c0] ∧ (frzC c0 st' = .ok c' st2 ∨ ∃ φ, frzC c0 st' = .cond φ c' st2 ∧ φ) ∧
          (allS l'.length l' && Nat.ble l.length l'.length && Nat.ble l'.length nx') = true ∧ stEq st2 id 0 l' ∧ K (.c c') l' := fun hq h => by
      split at h
      · rename_i c0 hv
        split at h
        · rename_i c' st2 hz; obtain ⟨l', k1, k2, k3⟩ := h; exact ⟨hq, c0, c', st2, l', hv, .inl hz, k1, k2, k3⟩
        · rename_i φ c' st2 hz; obtain ⟨hφ, l', k1, k2, k3⟩ := h; exact ⟨hq, c0, c', st2, l', hv, .inr ⟨φ, hz, hφ⟩, k1, k2, k3⟩
        · exact h.elim
      · exact h.elim
    cases x with
    | normal => exact fin (.inl rfl) hx
    | ret => exact fin (.inr rfl) hx
    | _ => exact hx.elim
  obtain ⟨hex, c0, c', st2, l', hres, hz, hchk, hsteq, hK⟩ := hx'
  simp only [Bool.and_eq_true] at hchk
  obtain ⟨⟨h6, h7⟩, h8⟩ := hchk
  have h7 := Nat.le_of_ble_eq_true h7
  have h8 := Nat.le_of_ble_eq_true h8
  have hst : ∀ m x, mkS l' m = some x → st2 m = some x := fun m x hx => by
    have := mkS_eq hsteq m x hx
    have hr : x.ren id = x := by
      cases x with
      | st cs =>
        have h2 : C.ren id = id := funext fun c => by cases c <;> rfl
        show B.st (cs.map (C.ren id)) = B.st cs
        rw [h2, List.map_id]
      | _ => rfl
    rw [hr, Nat.zero_add] at this
    exact this
  have hne : ∀ m, mkS l' m ≠ none → st2 m ≠ none := fun m h => by
    obtain ⟨y, hy⟩ := Option.ne_none_iff_exists'.1 h
    rw [hst m y hy]; simp
  have hno : ∀ nm, ¬ c'.Has nm := by
    have : ∀ {c0 c' : C} {st st2 : Nat → Option B}, (frzC c0 st = .ok c' st2 ∨ ∃ φ, frzC c0 st = .cond φ c' st2 ∧ φ) → ∀ nm, ¬ c'.Has nm := by
      intro c0 c' st st2 h nm hn
      have key : ∀ z : Fz C, z = frzC c0 st → (z = .ok c' st2 ∨ ∃ φ, z = .cond φ c' st2 ∧ φ) → False := by
        intro z hz h
        cases c0 with
        | osl a b =>
          simp only [frzC] at hz
          split at hz <;> subst hz <;> rcases h with h | ⟨φ, h, _⟩ <;> cases h <;> exact hn
        | sl a b d e =>
          simp only [frzC] at hz
          split at hz <;> subst hz <;> rcases h with h | ⟨φ, h, _⟩ <;> cases h <;> exact hn
        | kv x =>
          simp only [frzC] at hz
          split at hz <;> subst hz <;> rcases h with h | ⟨φ, h, _⟩ <;> cases h <;> exact hn
        | _ => simp only [frzC] at hz; subst hz; rcases h with h | ⟨φ, h, _⟩ <;> cases h <;> exact hn
      exact key _ rfl h
    exact this hz
  refine ⟨.c c', l', hK, ⟨fn, hf, by rw [hb]; rfl, hn⟩, h7, fun nm hh => by cases hh with | c hh => exact (hno nm hh).elim, fun H X us g hl hd => ?_⟩
  let a : Act := { tmps := us.toArray ++ Array.replicate (fn.ntmps - us.toArray.size) undef, defers := [] }
  have g0 : Γ { H with ds := [] } ⟨envA vs, mkS l, l.length, fn.ntmps⟩ X a := by
    refine { toHs := g.ds [], dn := rfl, n := by simp [a]; omega, env := fun t v hv => ?_ }
    have hv' : vs[t]? = some v := hv
    have htl : t < us.length := by rw [hl]; exact (List.getElem?_eq_some_iff.1 hv').1
    obtain ⟨h1, h2⟩ := hd t v us[t] hv' (List.getElem?_eq_getElem htl)
    exact ⟨⟨us[t], by simp [a, Array.getElem?_append, htl], h1⟩, h2⟩
  refine calls_of_wp hf hb (wp_mono (hrun { H with ds := [] } X a (Nat.le_refl _) g0) fun y a' w' ⟨h9, X', h10, g', hs, hb'⟩ => ?_)
  subst h9 h10
  have fin : a'.defers = [] ∧ ∃ v, (results fn a'.tmps).run P X'.w = .ok v X'.w ∧ ∃ u X2, Ending.returned v = .returned u ∧ X2.w = X'.w ∧ Hs H (mkS l') l'.length X2 ∧ Step l.length X X2 ∧ VDen X2 (.c c') u := by
    obtain ⟨u, k1, k2, k3⟩ := run_results g' fn hres
    have k2' : VDen X' (.c c0) u := k2
    cases k2' with
    | c hden =>
      have hfz := frzC_ok g'.toHs hden
      have : (∃ X2, Frz { H with ds := [] } st2 nx' X' X2 ∧ Den X2 c' u) := by
        rcases hz with hz | ⟨φ, hz, hφ⟩
        · rw [hz] at hfz; exact hfz.1
        · rw [hz] at hfz; exact (hfz hφ).1
      obtain ⟨X2, m1, m2⟩ := this
      have g2 := m1.hs
      refine ⟨g'.dn, u, k1, u, X2, rfl, m1.w, ?_, hs.trans m1.step hb', .c m2⟩
      exact { blk := fun m x hx => g2.blk m x (hst m x hx), inj := fun m m' b c c' h h' => g2.inj m m' b c c' (hne m h) (hne m' h'), sep := fun m b c h => g2.sep m b c (hne m h), bd := fun m x hx => mkS_all h6 m x hx, fr := g2.fr, sz := g2.sz, imm := g2.imm, out := g2.out, gl := g2.gl }
  rcases hex with rfl | rfl
  · exact fin
  · exact fin
def EndR (rs : List ResultVar) (b n : Nat) (K : V → List (Option B) → Prop) (x : Exit) (e : Nat → Option V) (st : Nat → Option B) (nx : Nat) : Prop :=
  match x with
  | .normal | .ret => match resV ⟨e, st, nx, n⟩ rs with
    | some vs => ∃ l0 v l', resOf vs = v.ren (al l0) ∧ (renOk b l0 [] l' n n && v.lo l'.length) = true ∧ stEq st (al l0) 0 l' ∧ K v l'
    | none => False
  | _ => False
theorem FnS.runR {f : Nat} (fn : Func) {c : Code} {n b : Nat} {rs : List ResultVar} {vs : List V} {l : List (Option B)} {K : V → List (Option B) → Prop} (hf : P.funcs[f]? = some fn) (hb : fn.body = some c) (hn : (fn.name == "runtime.NumGoroutine") = false)
    (hm : fn.ntmps = n) (hr : fn.results.toList = rs) (hl : l.length = b) (h : VC b n c (envL vs) (mkS l) b (EndR rs b n K)) : FnS f vs l K := by
  subst hm hr hl
  have he : envL vs = envA vs := funext fun t => envL_eq vs t
  rw [he] at h
  obtain ⟨x, e', st', nx', hx, hrun⟩ := VC_run _ _ _ _ _ h
  have hx' : (x = .normal ∨ x = .ret) ∧ ∃ rv l0 v l', resV ⟨e', st', nx', fn.ntmps⟩ fn.results.toList = some rv ∧ resOf rv = v.ren (al l0) ∧ (renOk l.length l0 [] l' fn.ntmps fn.ntmps && v.lo l'.length) = true ∧ stEq st' (al l0) 0 l' ∧ K v l' := by
    unfold EndR at hx
    have fin : ∀ {q : Prop}, q → (match resV ⟨e', st', nx', fn.ntmps⟩ fn.results.toList with
        | some vs => ∃ l0 v l', resOf vs = v.ren (al l0) ∧ (renOk l.length l0 [] l' fn.ntmps fn.ntmps && v.lo l'.length) = true ∧ stEq st' (al l0) 0 l' ∧ K v l'
        | none => False) → q ∧ ∃ rv l0 v l', resV ⟨e', st', nx', fn.ntmps⟩ fn.results.toList = some rv ∧ resOf rv = v.ren (al l0) ∧ (renOk l.length l0 [] l' fn.ntmps fn.ntmps && v.lo l'.length) = true ∧ stEq st' (al l0) 0 l' ∧ K v l' := fun hq h => by
      split at h
      · rename_i vs hv
        obtain ⟨l0, v, l', k⟩ := h
        exact ⟨hq, vs, l0, v, l', hv, k⟩
      · exact h.elim
    cases x with
    | normal => exact fin (.inl rfl) hx
    | ret => exact fin (.inr rfl) hx
    | _ => exact hx.elim
  obtain ⟨hex, rv, l0, v, l', hres, hv, hchk, hst, hK⟩ := hx'
  simp only [Bool.and_eq_true] at hchk
  obtain ⟨hok, hlo⟩ := hchk
  have hren : Ren l.length (al l0) ⟨e', st', nx', fn.ntmps⟩ (mkSt [] l' fn.ntmps) := Ren.of l0 hok trivial hst
  refine ⟨v, l', hK, ⟨fn, hf, by rw [hb]; rfl, hn⟩, hren.b, V.lo_ok hlo, fun H X us g hl hd => ?_⟩
  let a : Act := { tmps := us.toArray ++ Array.replicate (fn.ntmps - us.toArray.size) undef, defers := [] }
  have g0 : Γ { H with ds := [] } ⟨envA vs, mkS l, l.length, fn.ntmps⟩ X a := by
    refine { toHs := g.ds [], dn := rfl, n := by simp [a]; omega, env := fun t v hv => ?_ }
    have hv' : vs[t]? = some v := hv
    have htl : t < us.length := by rw [hl]; exact (List.getElem?_eq_some_iff.1 hv').1
    obtain ⟨h1, h2⟩ := hd t v us[t] hv' (List.getElem?_eq_getElem htl)
    exact ⟨⟨us[t], by simp [a, Array.getElem?_append, htl], h1⟩, h2⟩
  refine calls_of_wp hf hb (wp_mono (hrun { H with ds := [] } X a (Nat.le_refl _) g0) fun y a' w' ⟨h9, X', h10, g', hs, hb'⟩ => ?_)
  subst h9 h10
  have fin : a'.defers = [] ∧ ∃ u, (results fn a'.tmps).run P X'.w = .ok u X'.w ∧ ∃ u' X2, Ending.returned u = .returned u' ∧ X2.w = X'.w ∧ Hs H (mkS l') l'.length X2 ∧ Step l.length X X2 ∧ VDen X2 v u' := by
    obtain ⟨u, k1, k2, k3⟩ := run_results g' fn hres
    obtain ⟨g2, s2⟩ := g'.ren hren
    rw [hv] at k2
    exact ⟨g'.dn, u, k1, u, X'.ren (al l0), rfl, rfl, g2.toHs.nods, hs.trans s2 (Nat.le_refl _), k2.of_ren (fun _ _ => rfl) (fun _ h => h) (fun _ _ _ h => h)⟩
  rcases hex with rfl | rfl
  · exact fin
  · exact fin
def EndI (rs : List ResultVar) (nx0 n : Nat) (K : V → (Nat → Option B) → Nat → Prop) (x : Exit) (e : Nat → Option V) (st : Nat → Option B) (nx : Nat) : Prop :=
  match x with
  | .normal | .ret => match resV ⟨e, st, nx, n⟩ rs with
    | some vs => ((resOf vs).lo nx && Nat.ble nx0 nx) = true ∧ K (resOf vs) st nx
    | none => False
  | _ => False
theorem CallQ.inline {f : Nat} (fn : Func) {c : Code} {n nx : Nat} {rs : List ResultVar} {vs : List V} {st : Nat → Option B} {K : V → (Nat → Option B) → Nat → Prop} (hf : P.funcs[f]? = some fn) (hb : fn.body = some c) (hn : (fn.name == "runtime.NumGoroutine") = false)
    (hm : fn.ntmps = n) (hr : fn.results.toList = rs) (h : VC nx n c (envL vs) st nx (EndI rs nx n K)) : CallQ f vs st nx K := by
  subst hm hr
  have he : envL vs = envA vs := funext fun t => envL_eq vs t
  rw [he] at h
  obtain ⟨x, e', st', nx', hx, hrun⟩ := VC_run _ _ _ _ _ h
  have hx' : (x = .normal ∨ x = .ret) ∧ ∃ rv, resV ⟨e', st', nx', fn.ntmps⟩ fn.results.toList = some rv ∧ ((resOf rv).lo nx' && Nat.ble nx nx') = true ∧ K (resOf rv) st' nx' := by
    unfold EndI at hx
    have fin : ∀ {q : Prop}, q → (match resV ⟨e', st', nx', fn.ntmps⟩ fn.results.toList with
        | some vs => ((resOf vs).lo nx' && Nat.ble nx nx') = true ∧ K (resOf vs) st' nx'
        | none => False) → q ∧ ∃ rv, resV ⟨e', st', nx', fn.ntmps⟩ fn.results.toList = some rv ∧ ((resOf rv).lo nx' && Nat.ble nx nx') = true ∧ K (resOf rv) st' nx' := fun hq h => by
      split at h
      · rename_i vs hv; exact ⟨hq, vs, hv, h⟩
      · exact h.elim
    cases x with
    | normal => exact fin (.inl rfl) hx
    | ret => exact fin (.inr rfl) hx
    | _ => exact hx.elim
  obtain ⟨hex, rv, hres, hchk, hK⟩ := hx'
  simp only [Bool.and_eq_true] at hchk
  obtain ⟨hlo, hle⟩ := hchk
  refine ⟨resOf rv, st', nx', ⟨⟨fn, hf, by rw [hb]; rfl, hn⟩, Nat.le_of_ble_eq_true hle, V.lo_ok hlo, fun H X us g hl hd => ?_⟩, hK⟩
  let a : Act := { tmps := us.toArray ++ Array.replicate (fn.ntmps - us.toArray.size) undef, defers := [] }
  have g0 : Γ { H with ds := [] } ⟨envA vs, st, nx, fn.ntmps⟩ X a := by
    refine { toHs := g.ds [], dn := rfl, n := by simp [a]; omega, env := fun t v hv => ?_ }
    have hv' : vs[t]? = some v := hv
    have htl : t < us.length := by rw [hl]; exact (List.getElem?_eq_some_iff.1 hv').1
    obtain ⟨h1, h2⟩ := hd t v us[t] hv' (List.getElem?_eq_getElem htl)
    exact ⟨⟨us[t], by simp [a, Array.getElem?_append, htl], h1⟩, h2⟩
  refine calls_of_wp hf hb (wp_mono (hrun { H with ds := [] } X a (Nat.le_refl _) g0) fun y a' w' ⟨h9, X', h10, g', hs, hb'⟩ => ?_)
  subst h9 h10
  have fin : a'.defers = [] ∧ ∃ u, (results fn a'.tmps).run P X'.w = .ok u X'.w ∧ ∃ u' X2, Ending.returned u = .returned u' ∧ X2.w = X'.w ∧ Hs H st' nx' X2 ∧ Step nx X X2 ∧ VDen X2 (resOf rv) u' := by
    obtain ⟨u, k1, k2, k3⟩ := run_results g' fn hres
    exact ⟨g'.dn, u, k1, u, X', rfl, rfl, g'.toHs.nods, hs, k2⟩
  rcases hex with rfl | rfl
  · exact fin
  · exact fin
def asIs : List C → Option (IntKind × List (List Int))
  | [] => none
  | [.is k xs] => some (k, [xs])
  | .is k xs :: r => match asIs r with
    | some (k', xss) => match kEq k k' with
      | true => some (k, xs :: xss)
      | false => none
    | none => none
  | _ => none
theorem asIs_ok : ∀ {cs : List C} {k : IntKind} {xss : List (List Int)}, asIs cs = some (k, xss) → cs = xss.map (.is k)
  | [], k, xss, h => by cases h
  | [.is k0 xs], k, xss, h => by simp only [asIs] at h; cases h; rfl
  | .is k0 xs :: c2 :: r, k, xss, h => by
    simp only [asIs] at h
    split at h
    · rename_i k' xss' hr
      split at h
      · rename_i hk
        obtain rfl := kEq_eq hk
        cases h
        rw [asIs_ok hr]
        rfl
      · cases h
    · cases h
def frzT (c : C) (st : Nat → Option B) : Fz C :=
  match c with
  | .sl nm 0 len cap => match st nm with
    | some (.st cs) => match Nat.beq len cs.length, Nat.ble len cap with
      | true, true => match frzL cs st with
        | .ok cs' st1 => match asIs cs', st1 nm with
          | some (k, xss), some _ => .ok (.iss k xss) (del st1 nm)
          | _, _ => .no
        | .cond φ cs' st1 => match asIs cs', st1 nm with
          | some (k, xss), some _ => .cond φ (.iss k xss) (del st1 nm)
          | _, _ => .no
        | .no => .no
      | _, _ => .no
    | _ => .no
  | _ => .no
theorem frzT_ok {H : Hp} {st : Nat → Option B} {nx : Nat} {X : Ctx} {c : C} {u : Value} (hs : Hs H st nx X) (hd : Den X c u) :
    (frzT c st).sat fun c' st' => (∃ X', Frz H st' nx X X' ∧ Den X' c' u) ∧ ∀ nm, ¬ c'.Has nm := by
  unfold frzT
  split
  · rename_i nm len cap
    split
    · rename_i cs hb
      split
      · rename_i hl1 hl2
        have hlen : len = cs.length := Nat.eq_of_beq_eq_true hl1
        have hcap : len ≤ cap := Nat.le_of_ble_eq_true hl2
        have fin : ∀ {cs' : List C} {st1 : Nat → Option B} {k : IntKind} {xss : List (List Int)} {b1 : B} {us : List Value}, us.length = cs.length → ((∃ X', Frz H st1 nx X X' ∧ ∀ (i : Nat) c u, cs'[i]? = some c → us[i]? = some u → Den X' c u) ∧ cs'.length = cs.length ∧ ∀ c ∈ cs', (∀ nm, ¬ c.Has nm) ∧ c.one = true) →
            asIs cs' = some (k, xss) → st1 nm = some b1 → (∃ bl cp, X.ν nm = some (bl, cp) ∧ u = .slice (some ⟨bl, 0, none⟩) len cap ∧ ∀ (j : Nat) x, us[j]? = some x → X.w.cell? ⟨bl, j, none⟩ = some x) →
            (∃ X', Frz H (del st1 nm) nx X X' ∧ Den X' (.iss k xss) u) ∧ ∀ nm, ¬ (C.iss k xss).Has nm := by
          rintro cs' st1 k xss b1 us hul ⟨⟨X1, f1, f2⟩, f3, f4⟩ has hb1 ⟨bl, cp, hν, hu, hcell⟩
          have hcs := asIs_ok has
          have hxl : xss.length = cs.length := by rw [← f3, hcs]; simp
          have hν1 : X1.ν nm = some (bl, cp) := by rw [f1.ν]; exact hν
          obtain ⟨g1, g2⟩ := f1.hs.keep hb1 hν1
          refine ⟨⟨X1.keep bl, ⟨f1.w, f1.ν, g1, f1.step.trans g2 (Nat.le_refl _)⟩, ?_⟩, fun _ h => h.elim⟩
          subst hu
          have := @Den.iss (X1.keep bl) k xss bl 0 cap (fun j => us.getD j undef) (.inr rfl) (by rw [hxl, ← hlen]; exact hcap) (fun j xs hj => ?_) (fun j xs hj => ?_)
          · rwa [hxl, ← hlen] at this
          · have hjl : j < us.length := by rw [hul, ← hxl]; exact (List.getElem?_eq_some_iff.1 hj).1
            have := hcell j us[j] (List.getElem?_eq_getElem hjl)
            show X1.w.cell? _ = _
            rw [f1.w, Nat.zero_add, this, List.getD_eq_getElem?_getD, List.getElem?_eq_getElem hjl]
            rfl
          · have hjl : j < us.length := by rw [hul, ← hxl]; exact (List.getElem?_eq_some_iff.1 hj).1
            have h1 : cs'[j]? = some (.is k xs) := by rw [hcs]; simp [hj]
            have h2 := f2 j _ us[j] h1 (List.getElem?_eq_getElem hjl)
            show Den _ _ (us.getD j undef)
            rw [List.getD_eq_getElem?_getD, List.getElem?_eq_getElem hjl]
            exact h2.mono _ (fun _ h => h.elim) g2.I g2.cell
        cases hd with
        | @sl _ _ _ _ bl cp hν =>
          have hbd := hs.blk nm _ hb
          simp only [BDen, hν] at hbd
          obtain ⟨cur, tb, hh, hc⟩ := hbd
          have hle := hc.le
          simp only [B.size] at hle
          have hul : (cur.toList.take cs.length).length = cs.length := by simp [List.length_take]; omega
          have hg : ∀ (j : Nat) x, (cur.toList.take cs.length)[j]? = some x → j < cs.length ∧ cur[j]? = some x := fun j x hj => by
            have hlt := (List.getElem?_eq_some_iff.1 hj).1
            rw [hul] at hlt
            rw [List.getElem?_take_of_lt hlt] at hj
            exact ⟨hlt, by simpa using hj⟩
          have hz := frzL_ok hs hul (fun i c x hc' hx => by
            obtain ⟨h1, h2⟩ := hg i x hx
            obtain ⟨v, hv, hv2⟩ := hc.cell i h1
            rw [h2] at hv; cases hv
            cases hv2 with | st hj' h => rw [hj'] at hc'; cases hc'; exact h)
          have hsrc : ∃ bl' cp', X.ν nm = some (bl', cp') ∧ Value.slice (some ⟨bl, 0, none⟩) len cap = .slice (some ⟨bl', 0, none⟩) len cap ∧ ∀ (j : Nat) x, (cur.toList.take cs.length)[j]? = some x → X.w.cell? ⟨bl', j, none⟩ = some x :=
            ⟨bl, cp, hν, rfl, fun j x hj => by rw [cell_block hh]; exact (hg j x hj).2⟩
          split
          · rename_i cs' st1 hf
            rw [hf] at hz
            split
            · rename_i k xss b1 has hb1; exact fin hul hz has hb1 hsrc
            · trivial
          · rename_i φ cs' st1 hf
            rw [hf] at hz
            split
            · rename_i k xss b1 has hb1; exact fun hφ => fin hul (hz hφ) has hb1 hsrc
            · trivial
          · trivial
        | sl0 hν =>
          have hnil : cs = [] := List.eq_nil_of_length_eq_zero hlen.symm
          subst hnil
          simp [frzL, asIs, Fz.sat]
      · trivial
    · trivial
  · trivial
def EndT (rs : List ResultVar) (b n : Nat) (K : V → List (Option B) → Prop) (x : Exit) (e : Nat → Option V) (st : Nat → Option B) (nx : Nat) : Prop :=
  match x with
  | .normal | .ret => match resV ⟨e, st, nx, n⟩ rs with
    | some [.c c] => match frzT c st with
      | .ok c' st' => ∃ l', (allS l'.length l' && Nat.ble b l'.length && Nat.ble l'.length nx) = true ∧ stEq st' id 0 l' ∧ K (.c c') l'
      | .cond φ c' st' => φ ∧ ∃ l', (allS l'.length l' && Nat.ble b l'.length && Nat.ble l'.length nx) = true ∧ stEq st' id 0 l' ∧ K (.c c') l'
      | .no => False
    | _ => False
  | _ => False
theorem FnS.runT {f : Nat} (fn : Func) {c : Code} {n b : Nat} {rs : List ResultVar} {vs : List V} {l : List (Option B)} {K : V → List (Option B) → Prop} (hf : P.funcs[f]? = some fn) (hb : fn.body = some c) (hn : (fn.name == "runtime.NumGoroutine") = false)
    (hm : fn.ntmps = n) (hr : fn.results.toList = rs) (hl : l.length = b) (h : VC b n c (envL vs) (mkS l) b (EndT rs b n K)) : FnS f vs l K := by
  subst hm hr hl
  have he : envL vs = envA vs := funext fun t => envL_eq vs t
  rw [he] at h
  obtain ⟨x, e', st', nx', hx, hrun⟩ := VC_run _ _ _ _ _ h
  have hx' : (x = .normal ∨ x = .ret) ∧ ∃ c0 c' st2 l', resV ⟨e', st', nx', fn.ntmps⟩ fn.results.toList = some [.c c0] ∧ (frzT c0 st' = .ok c' st2 ∨ ∃ φ, frzT c0 st' = .cond φ c' st2 ∧ φ) ∧
      (allS l'.length l' && Nat.ble l.length l'.length && Nat.ble l'.length nx') = true ∧ stEq st2 id 0 l' ∧ K (.c c') l' := by
    unfold EndT at hx
    have fin : ∀ {q : Prop}, q → (match resV ⟨e', st', nx', fn.ntmps⟩ fn.results.toList with
        | some [.c c] => match frzT c st' with
          | .ok c' st' => ∃ l', (allS l'.length l' && Nat.ble l.length l'.length && Nat.ble l'.length nx') = true ∧ stEq st' id 0 l' ∧ K (.c c') l'
          | .cond φ c' st' => φ ∧ ∃ l', (allS l'.length l' && Nat.ble l.length l'.length && Nat.ble l'.length nx') = true ∧ stEq st' id 0 l' ∧ K (.c c') l'
          | .no => False
        | _ => False) → q ∧ ∃ c0 c' st2 l', resV ⟨e', st', nx', fn.ntmps⟩ fn.results.toList = some [.c c0] ∧ (frzT c0 st' = .ok c' st2 ∨ ∃ φ, frzT c0 st' = .cond φ c' st2 ∧ φ) ∧
          (allS l'.length l' && Nat.ble l.length l'.length && Nat.ble l'.length nx') = true ∧ stEq st2 id 0 l' ∧ K (.c c') l' := fun hq h => by
      split at h
      · rename_i c0 hv
        split at h
        · rename_i c' st2 hz; obtain ⟨l', k1, k2, k3⟩ := h; exact ⟨hq, c0, c', st2, l', hv, .inl hz, k1, k2, k3⟩
        · rename_i φ c' st2 hz; obtain ⟨hφ, l', k1, k2, k3⟩ := h; exact ⟨hq, c0, c', st2, l', hv, .inr ⟨φ, hz, hφ⟩, k1, k2, k3⟩
        · exact h.elim
      · exact h.elim
    cases x with
    | normal => exact fin (.inl rfl) hx
    | ret => exact fin (.inr rfl) hx
    | _ => exact hx.elim
  obtain ⟨hex, c0, c', st2, l', hres, hz, hchk, hsteq, hK⟩ := hx'
  simp only [Bool.and_eq_true] at hchk
  obtain ⟨⟨h6, h7⟩, h8⟩ := hchk
  have h7 := Nat.le_of_ble_eq_true h7
  have h8 := Nat.le_of_ble_eq_true h8
  have hst : ∀ m x, mkS l' m = some x → st2 m = some x := fun m x hx => by
    have := mkS_eq hsteq m x hx
    have hr : x.ren id = x := by
      cases x with
      | st cs =>
        have h2 : C.ren id = id := funext fun c => by cases c <;> rfl
        show B.st (cs.map (C.ren id)) = B.st cs
        rw [h2, List.map_id]
      | _ => rfl
    rw [hr, Nat.zero_add] at this
    exact this
  have hne : ∀ m, mkS l' m ≠ none → st2 m ≠ none := fun m h => by
    obtain ⟨y, hy⟩ := Option.ne_none_iff_exists'.1 h
    rw [hst m y hy]; simp
  have hno : ∀ nm, ¬ c'.Has nm := by
    have key : ∀ z : Fz C, z = frzT c0 st' → (z = .ok c' st2 ∨ ∃ φ, z = .cond φ c' st2 ∧ φ) → ∀ nm, ¬ c'.Has nm := by
      intro z hz h nm hn
      unfold frzT at hz
      repeat' split at hz
      all_goals (subst hz; rcases h with h | ⟨φ, h, _⟩ <;> cases h <;> exact hn)
    exact key _ rfl hz
  refine ⟨.c c', l', hK, ⟨fn, hf, by rw [hb]; rfl, hn⟩, h7, fun nm hh => by cases hh with | c hh => exact (hno nm hh).elim, fun H X us g hl hd => ?_⟩
  let a : Act := { tmps := us.toArray ++ Array.replicate (fn.ntmps - us.toArray.size) undef, defers := [] }
  have g0 : Γ { H with ds := [] } ⟨envA vs, mkS l, l.length, fn.ntmps⟩ X a := by
    refine { toHs := g.ds [], dn := rfl, n := by simp [a]; omega, env := fun t v hv => ?_ }
    have hv' : vs[t]? = some v := hv
    have htl : t < us.length := by rw [hl]; exact (List.getElem?_eq_some_iff.1 hv').1
    obtain ⟨h1, h2⟩ := hd t v us[t] hv' (List.getElem?_eq_getElem htl)
    exact ⟨⟨us[t], by simp [a, Array.getElem?_append, htl], h1⟩, h2⟩
  refine calls_of_wp hf hb (wp_mono (hrun { H with ds := [] } X a (Nat.le_refl _) g0) fun y a' w' ⟨h9, X', h10, g', hs, hb'⟩ => ?_)
  subst h9 h10
  have fin : a'.defers = [] ∧ ∃ v, (results fn a'.tmps).run P X'.w = .ok v X'.w ∧ ∃ u X2, Ending.returned v = .returned u ∧ X2.w = X'.w ∧ Hs H (mkS l') l'.length X2 ∧ Step l.length X X2 ∧ VDen X2 (.c c') u := by
    obtain ⟨u, k1, k2, k3⟩ := run_results g' fn hres
    have k2' : VDen X' (.c c0) u := k2
    cases k2' with
    | c hden =>
      have hfz := frzT_ok g'.toHs hden
      have : (∃ X2, Frz { H with ds := [] } st2 nx' X' X2 ∧ Den X2 c' u) := by
        rcases hz with hz | ⟨φ, hz, hφ⟩
        · rw [hz] at hfz; exact hfz.1
        · rw [hz] at hfz; exact (hfz hφ).1
      obtain ⟨X2, m1, m2⟩ := this
      have g2 := m1.hs
      refine ⟨g'.dn, u, k1, u, X2, rfl, m1.w, ?_, hs.trans m1.step hb', .c m2⟩
      exact { blk := fun m x hx => g2.blk m x (hst m x hx), inj := fun m m' b c c' h h' => g2.inj m m' b c c' (hne m h) (hne m' h'), sep := fun m b c h => g2.sep m b c (hne m h), bd := fun m x hx => mkS_all h6 m x hx, fr := g2.fr, sz := g2.sz, imm := g2.imm, out := g2.out, gl := g2.gl }
  rcases hex with rfl | rfl
  · exact fin
  · exact fin
end Go.SX
