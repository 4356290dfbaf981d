/- A part of the proof: the SILK decoder of the given program, walked by an executor that is proved sound. No statement of the program is proved in this text. -/
import Derived.Test.YtojdfjohmicopaaGreatDoorL19
set_option linter.all false
set_option maxRecDepth 100000
namespace Go.SX
open Go
def sm (nd : List Int) : Nat → Int
  | 0 => nd.getD 0 0
  | k + 1 => sm nd k + nd.getD (k + 1) 0
structure NdOk (nd : List Int) (d : Nat) : Prop where
  len : nd.length = d + 1
  lo : ∀ k, k ≤ d → 3 ≤ nd.getD k 0 ∧ nd.getD k 0 ≤ 461
  s : ∀ k, k ≤ d → 3 ≤ sm nd k ∧ sm nd k ≤ 742
theorem t163_ok : NdOk T163 10 := by
  have h : (∀ k : Nat, k < 11 → 3 ≤ T163.getD k 0 ∧ T163.getD k 0 ≤ 461) ∧ ∀ k : Nat, k < 11 → 3 ≤ sm T163 k ∧ sm T163 k ≤ 742 := by decide +kernel
  exact ⟨rfl, fun k hk => h.1 k (by omega), fun k hk => h.2 k (by omega)⟩
theorem t164_ok : NdOk T164 16 := by
  have h : (∀ k : Nat, k < 17 → 3 ≤ T164.getD k 0 ∧ T164.getD k 0 ≤ 461) ∧ ∀ k : Nat, k < 17 → 3 ≤ sm T164 k ∧ sm T164 k ≤ 742 := by decide +kernel
  exact ⟨rfl, fun k hk => h.1 k (by omega), fun k hk => h.2 k (by omega)⟩
def LsfOk (d : Nat) (ys : List Int) : Prop := (∀ k, k < d → 1 ≤ ys.getD k 0 ∧ ys.getD k 0 ≤ 32767) ∧ ∀ k, k + 1 < d → ys.getD k 0 < ys.getD (k + 1) 0
def pv (ys : List Int) : Nat → Int
  | 0 => 0
  | k + 1 => ys.getD k 0
def cu (ys : List Int) (d k : Nat) : Int := if k = d then 32768 else ys.getD k 0
def spc (ys nd : List Int) (d k : Nat) : Int := cu ys d k - pv ys k - nd.getD k 0
theorem pv_in {d : Nat} {ys : List Int} (h : Rg d ys) {k : Nat} (hk : k ≤ d) : -32768 ≤ pv ys k ∧ pv ys k ≤ 32767 := by
  cases k with
  | zero => simp only [pv]; omega
  | succ k => exact h k (by omega)
theorem cu_in {d : Nat} {ys : List Int} (h : Rg d ys) {k : Nat} (hk : k ≤ d) : -32768 ≤ cu ys d k ∧ cu ys d k ≤ 32768 := by
  unfold cu
  split
  · omega
  · have := h k (by omega); omega
theorem lsf_of {d : Nat} {ys nd : List Int} (hn : NdOk nd d) (hd : 0 < d) (h : ∀ k, k ≤ d → 0 ≤ spc ys nd d k) : LsfOk d ys := by
  have step : ∀ k, k + 1 < d → ys.getD k 0 + 3 ≤ ys.getD (k + 1) 0 := fun k hk => by
    have h1 := h (k + 1) (by omega)
    have h2 := hn.lo (k + 1) (by omega)
    unfold spc cu at h1
    rw [if_neg (by omega)] at h1
    simp only [pv] at h1
    omega
  have low : ∀ k, k < d → 1 ≤ ys.getD k 0 := by
    intro k
    induction k with
    | zero =>
      intro hk
      have h1 := h 0 (by omega)
      have h2 := hn.lo 0 (by omega)
      unfold spc cu at h1
      rw [if_neg (by omega)] at h1
      simp only [pv] at h1
      omega
    | succ k ih => intro hk; have := ih (by omega); have := step k hk; omega
  have up : ∀ j, j < d → ys.getD (d - 1 - j) 0 ≤ 32767 := by
    intro j
    induction j with
    | zero =>
      intro hj
      have h1 := h d (Nat.le_refl _)
      have h2 := hn.lo d (Nat.le_refl _)
      unfold spc cu at h1
      rw [if_pos rfl] at h1
      obtain ⟨e, rfl⟩ : ∃ e, d = e + 1 := ⟨d - 1, by omega⟩
      simp only [pv] at h1
      simp only [Nat.add_sub_cancel, Nat.sub_zero]
      omega
    | succ j ih =>
      intro hj
      have h1 := ih (by omega)
      have h2 := step (d - 1 - (j + 1)) (by omega)
      rw [show d - 1 - (j + 1) + 1 = d - 1 - j by omega] at h2
      omega
  exact ⟨fun k hk => ⟨low k hk, by have := up (d - 1 - k) (by omega); rwa [show d - 1 - (d - 1 - k) = k by omega] at this⟩, fun k hk => by have := step k hk; omega⟩
theorem i16_wrap_in (n : Int) : -32768 ≤ IntKind.i16.wrap n ∧ IntKind.i16.wrap n ≤ 32767 := wrap_within .i16 n
theorem f111 (d cap : Nat) (xs : List Int) (bw : Int) (hd : (bw = 3 ∧ d = 16) ∨ ((bw = 1 ∨ bw = 2) ∧ d = 10)) (hl : d ≤ xs.length) (hr : Rg d xs) :
    FnS 111 [.c (.p 0 0), .c (.sl 1 0 d cap), .c (.i .i64 d), .c (.i .u8 bw)] [none, some (.ar false .i16 xs)] fun v l' => ∃ ys, v = .tu [] ∧ l' = [none, some (.ar false .i16 ys)] ∧ ys.length = xs.length ∧ LsfOk d ys := by
  have hd16 : 10 ≤ d ∧ d ≤ 16 := by omega
  refine FnS.wpR (b := 2) Proofs.Tryz.f111 rfl rfl rfl rfl rfl rfl ?_
  refine WpN.seq (WpN.vc ?_)
  conv=>whnf
  refine CallQ.use [] t163 rfl rfl trivial ?_
  rintro v l' ⟨rfl, rfl⟩
  conv=>whnf
  refine WpN.cut (ι := List Int) (fun nd => [(0, .c (.p 0 0)), (1, .c (.sl 1 0 d cap)), (2, .c (.i .i64 d)), (8, .c (.is .i64 nd))]) (fun _=>[none, some (.ar false .i16 xs)]) (fun nd => NdOk nd d) (WpN.vc ?_) ?_
  · conv=>whnf
    refine ⟨fun h3 => ?_, fun h3 => ?_⟩
    · have h3 : bw = 3 := by simpa using h3
      have hd : d = 16 := by omega
      subst hd
      conv=>whnf
      refine CallQ.use [] t164 rfl rfl trivial ?_
      rintro v l' ⟨rfl, rfl⟩
      conv=>whnf
      exact ⟨T164, t164_ok, Ren.relOf [] rfl (by repeat constructor) ⟨rfl, trivial⟩⟩
    · have h3 : bw ≠ 3 := by simpa using h3
      have hd : d = 10 := by omega
      subst hd
      conv=>whnf
      exact ⟨T163, t163_ok, Ren.relOf [] rfl (by repeat constructor) ⟨rfl, trivial⟩⟩
  rintro nd hnd
  have hnl := hnd.len
  refine WpN.cut (ι := List Int) (fun _=>[(0, .c (.p 0 0)), (1, .c (.sl 1 0 d cap)), (2, .c (.i .i64 d)), (8, .c (.is .i64 nd))]) (fun ys => [none, some (.ar false .i16 ys)]) (fun ys => ys.length = xs.length ∧ Rg d ys) (WpN.vc ?_) ?_
  · conv=>whnf
    refine WpS.loop (ι := Int × List Int) (fun x => mkSt [(0, .c (.p 0 0)), (1, .c (.sl 1 0 d cap)), (2, .c (.i .i64 d)), (8, .c (.is .i64 nd)), (9, .c (.i .i64 x.1))] [none, some (.ar false .i16 x.2)] 240) (fun x => (0 ≤ x.1 ∧ x.1 ≤ 20) ∧ x.2.length = xs.length ∧ Rg d x.2) (fun x => (20 - x.1).toNat) (0, xs) ⟨⟨Int.le_refl 0, by dsimp only; decide⟩, rfl, hr⟩ (Ren.relOf [] rfl (by repeat constructor) ⟨rfl, trivial⟩) ?_
    clear hr
    rintro ⟨adj, ys⟩ ⟨hadj, hyl, hr⟩
    dsimp only at hadj hyl hr ⊢
    have ea : IntKind.i64.wrap (adj + 1) = adj + 1 := IntWalk.i64_in _ (by omega)
    refine WpN.toS (WpN.seq (WpN.vc ?_))
    conv=>whnf
    refine ⟨fun hc => ?_, fun hc => ?_⟩
    rotate_left
    · conv=>whnf
      refine ⟨rfl, ?_⟩
      conv=>whnf
      exact ⟨ys, ⟨hyl, hr⟩, Ren.relOf [] rfl (by repeat constructor) ⟨rfl, trivial⟩⟩
    have hc := of_decide_eq_true hc
    conv=>whnf
    refine WpN.seq (WpN.block (WpN.seq (WpN.vc ?_)))
    conv=>whnf
    refine WpN.seq (WpN.vc ?_)
    conv=>whnf
    refine WpN.cut (ι := Int × Int) (fun x => [(0, .c (.p 0 0)), (1, .c (.sl 1 0 d cap)), (2, .c (.i .i64 d)), (8, .c (.is .i64 nd)), (9, .c (.i .i64 adj)), (10, .c (.i .i64 x.1)), (11, .c (.i .i64 x.2))]) (fun _=>[none, some (.ar false .i16 ys)]) (fun x => (0 ≤ x.1 ∧ x.1 ≤ d) ∧ ∀ k, k ≤ d → x.2 ≤ spc ys nd d k) (WpN.vc ?_) ?_
    · conv=>whnf
      refine WpS.loop (ι := Nat × Int × Int) (fun x => mkSt [(0, .c (.p 0 0)), (1, .c (.sl 1 0 d cap)), (2, .c (.i .i64 d)), (8, .c (.is .i64 nd)), (9, .c (.i .i64 adj)), (10, .c (.i .i64 x.2.1)), (11, .c (.i .i64 x.2.2)), (12, .c (.i .i64 x.1))] [none, some (.ar false .i16 ys)] 240) (fun x => x.1 ≤ d + 1 ∧ (0 ≤ x.2.1 ∧ x.2.1 ≤ d) ∧ ∀ k, k < x.1 → x.2.2 ≤ spc ys nd d k) (fun x => d + 1 - x.1) (0, 0, 9223372036854775807) ⟨Nat.zero_le _, ⟨Int.le_refl 0, by dsimp only; omega⟩, fun k hk => absurd hk (Nat.not_lt_zero _)⟩ (Ren.relOf [] rfl (by repeat constructor) ⟨rfl, trivial⟩) ?_
      rintro ⟨j, i, iv⟩ ⟨hj, hi, hk⟩
      dsimp only at hj hi hk ⊢
      have ej : IntKind.i64.wrap ((j : Int) + 1) = ((j + 1 : Nat) : Int) := by rw [IntWalk.i64_in _ (by omega)]; rfl
      refine WpN.toS (WpN.seq (WpN.vc ?_))
      conv=>whnf
      refine ⟨fun hc2 => ?_, fun hc2 => ?_⟩
      rotate_left
      · have hc2 := of_decide_eq_false hc2
        conv=>whnf
        refine ⟨rfl, ?_⟩
        conv=>whnf
        exact ⟨(i, iv), ⟨hi, fun k hk2 => hk k (by omega)⟩, Ren.relOf [] rfl (by repeat constructor) ⟨rfl, trivial⟩⟩
      have hc2 := of_decide_eq_true hc2
      conv=>whnf
      refine WpN.seq (WpN.block (WpN.seq (WpN.vc ?_)))
      conv=>whnf
      refine WpN.seq (WpN.vc ?_)
      conv=>whnf
      refine WpN.cut (ι := Int) (fun p => [(0, .c (.p 0 0)), (1, .c (.sl 1 0 d cap)), (2, .c (.i .i64 d)), (8, .c (.is .i64 nd)), (9, .c (.i .i64 adj)), (10, .c (.i .i64 i)), (11, .c (.i .i64 iv)), (12, .c (.i .i64 j)), (13, .c (.i .i64 p)), (14, .c (.i .i64 32768))]) (fun _=>[none, some (.ar false .i16 ys)]) (fun p => p = pv ys j) (WpN.vc ?_) ?_
      · conv=>whnf
        refine ⟨fun h0 => ?_, fun h0 => ?_⟩
        · have h0 : (j : Int) ≠ 0 := by simpa using h0
          obtain ⟨j, rfl⟩ : ∃ i, j = i + 1 := ⟨j - 1, by omega⟩
          have e2 : IntKind.i64.wrap (((j + 1 : Nat) : Int) - 1) = j := by rw [IntWalk.i64_in _ (by omega)]; omega
          conv=>whnf
          rw [e2]
          refine ⟨by omega, ?_⟩
          conv=>whnf
          refine ⟨by omega, ?_⟩
          conv=>whnf
          have h9 : 0 + Int.toNat (j : Int) = j := by simp
          rw [h9]
          have := hr j (by omega)
          rw [IntWalk.i64_in _ (by omega)]
          exact ⟨_, rfl, Ren.relOf [] rfl (by repeat constructor) ⟨rfl, trivial⟩⟩
        · have h0 : (j : Int) = 0 := by simpa using h0
          obtain rfl : j = 0 := by omega
          conv=>whnf
          exact ⟨0, rfl, Ren.relOf [] rfl (by repeat constructor) ⟨rfl, trivial⟩⟩
      rintro _ rfl
      refine WpN.cut (ι := Int) (fun c => [(0, .c (.p 0 0)), (1, .c (.sl 1 0 d cap)), (2, .c (.i .i64 d)), (8, .c (.is .i64 nd)), (9, .c (.i .i64 adj)), (10, .c (.i .i64 i)), (11, .c (.i .i64 iv)), (12, .c (.i .i64 j)), (13, .c (.i .i64 (pv ys j))), (14, .c (.i .i64 c))]) (fun _=>[none, some (.ar false .i16 ys)]) (fun c => c = cu ys d j) (WpN.vc ?_) ?_
      · conv=>whnf
        refine ⟨fun h0 => ?_, fun h0 => ?_⟩
        · have h0 : (j : Int) ≠ d := by simpa using h0
          conv=>whnf
          refine ⟨by omega, ?_⟩
          conv=>whnf
          refine ⟨by omega, ?_⟩
          conv=>whnf
          have h9 : 0 + Int.toNat (j : Int) = j := by simp
          rw [h9]
          have := hr j (by omega)
          rw [IntWalk.i64_in _ (by omega)]
          exact ⟨_, by unfold cu; rw [if_neg (by omega)], Ren.relOf [] rfl (by repeat constructor) ⟨rfl, trivial⟩⟩
        · have h0 : (j : Int) = d := by simpa using h0
          conv=>whnf
          exact ⟨32768, by unfold cu; rw [if_pos (by omega)], Ren.relOf [] rfl (by repeat constructor) ⟨rfl, trivial⟩⟩
      rintro _ rfl
      have hp := pv_in hr (k := j) (by omega)
      have hcu := cu_in hr (k := j) (by omega)
      have hnj := hnd.lo j (by omega)
      have e1 : IntKind.i64.wrap (cu ys d j - pv ys j) = cu ys d j - pv ys j := IntWalk.i64_in _ (by omega)
      have e2 : IntKind.i64.wrap (cu ys d j - pv ys j - nd.getD (Int.toNat (j : Int)) 0) = spc ys nd d j := IntWalk.i64_in _ (by show _ ≤ cu ys d j - pv ys j - nd.getD j 0 ∧ cu ys d j - pv ys j - nd.getD j 0 ≤ _; omega)
      refine WpN.vc ?_
      conv=>whnf
      rw [e1]
      refine ⟨by rw [hnl]; omega, ?_⟩
      conv=>whnf
      rw [e2]
      refine ⟨fun hlt => ?_, fun hlt => ?_⟩
      · have hlt := of_decide_eq_true hlt
        conv=>whnf
        refine WpN.vc ?_
        conv=>whnf
        rw [ej]
        exact ⟨(j + 1, j, spc ys nd d j), ⟨by dsimp only; omega, by dsimp only; omega, fun k hk2 => by
          rcases Nat.lt_succ_iff_lt_or_eq.1 hk2 with h | h
          · exact Int.le_trans (Int.le_of_lt hlt) (hk k h)
          · subst h; exact Int.le_refl _⟩, by dsimp only; omega, Ren.relOf [] rfl (by repeat constructor) ⟨rfl, trivial⟩⟩
      · have hlt := of_decide_eq_false hlt
        conv=>whnf
        refine WpN.vc ?_
        conv=>whnf
        rw [ej]
        exact ⟨(j + 1, i, iv), ⟨by dsimp only; omega, hi, fun k hk2 => by
          rcases Nat.lt_succ_iff_lt_or_eq.1 hk2 with h | h
          · exact hk k h
          · subst h; dsimp only; omega⟩, by dsimp only; omega, Ren.relOf [] rfl (by repeat constructor) ⟨rfl, trivial⟩⟩
    rintro ⟨i, iv⟩ ⟨hi, hk⟩
    dsimp only at hi hk ⊢
    have hid : i.toNat ≤ d := by omega
    have clo : ∀ zs : List Int, zs.length = xs.length → Rg d zs → (((0 ≤ IntKind.i64.wrap (adj + 1) ∧ IntKind.i64.wrap (adj + 1) ≤ 20) ∧ zs.length = xs.length ∧ Rg d zs) ∧ (20 - IntKind.i64.wrap (adj + 1)).toNat < (20 - adj).toNat) := fun zs h1 h2 => ⟨⟨by omega, h1, h2⟩, by omega⟩
    refine WpN.seq (WpN.vc ?_)
    conv=>whnf
    refine ⟨fun h => ?_, fun h => ?_⟩
    · have h := of_decide_eq_true h
      conv=>whnf
      refine ⟨rfl, ?_⟩
      conv=>whnf
      exact ⟨[], .tu [], [none, some (.ar false .i16 ys)], rfl, rfl, ⟨rfl, trivial⟩, ys, rfl, rfl, hyl, lsf_of hnd (by omega) fun k hk2 => Int.le_trans h (hk k hk2)⟩
    conv=>whnf
    refine ⟨fun h0 => ?_, fun h0 => ?_⟩
    · conv=>whnf
      refine ⟨by rw [hnl]; omega, ?_⟩
      conv=>whnf
      refine ⟨by omega, ?_⟩
      conv=>whnf
      refine ⟨by show 0 + Int.toNat 0 < ys.length; omega, ?_⟩
      conv=>whnf
      refine WpN.vc ?_
      conv=>whnf
      have h9 := clo (ys.set (0 + Int.toNat 0) (IntKind.i16.wrap (nd.getD (Int.toNat 0) 0))) (by simpa using hyl) (hr.set (by omega) (by show (0 : Nat) < d; omega) (i16_wrap_in _))
      exact ⟨(IntKind.i64.wrap (adj + 1), ys.set (0 + Int.toNat 0) (IntKind.i16.wrap (nd.getD (Int.toNat 0) 0))), h9.1, h9.2, Ren.relOf [] rfl (by repeat constructor) ⟨rfl, trivial⟩⟩
    have h0 : i ≠ 0 := by simpa using h0
    conv=>whnf
    refine ⟨fun h1 => ?_, fun h1 => ?_⟩
    · have ed : IntKind.i64.wrap ((d : Int) - 1) = d - 1 := IntWalk.i64_in _ (by omega)
      conv=>whnf
      refine ⟨by rw [hnl]; omega, ?_⟩
      conv=>whnf
      refine ⟨by omega, ?_⟩
      conv=>whnf
      refine ⟨by omega, ?_⟩
      conv=>whnf
      refine WpN.vc ?_
      conv=>whnf
      have h9 := clo (ys.set (0 + (IntKind.i64.wrap ((d : Int) - 1)).toNat) (IntKind.i16.wrap (IntKind.i64.wrap (32768 - nd.getD (Int.toNat (d : Int)) 0)))) (by simpa using hyl) (hr.set (by omega) (by omega) (i16_wrap_in _))
      exact ⟨(IntKind.i64.wrap (adj + 1), ys.set (0 + (IntKind.i64.wrap ((d : Int) - 1)).toNat) (IntKind.i16.wrap (IntKind.i64.wrap (32768 - nd.getD (Int.toNat (d : Int)) 0)))), h9.1, h9.2, Ren.relOf [] rfl (by repeat constructor) ⟨rfl, trivial⟩⟩
    have h1 : i ≠ d := by simpa using h1
    conv=>whnf
    have ei : IntKind.i64.wrap (i - 1) = i - 1 := IntWalk.i64_in _ (by omega)
    have ei2 : IntKind.i64.wrap (i + 1) = i + 1 := IntWalk.i64_in _ (by omega)
    refine WpN.seq (WpN.vc ?_)
    conv=>whnf
    refine ⟨by rw [hnl]; omega, ?_⟩
    conv=>whnf
    refine ⟨by decide, ?_⟩
    conv=>whnf
    refine WpN.cut (ι := Int) (fun m => [(0, .c (.p 0 0)), (1, .c (.sl 1 0 d cap)), (2, .c (.i .i64 d)), (8, .c (.is .i64 nd)), (9, .c (.i .i64 adj)), (10, .c (.i .i64 i)), (16, .c (.i .i64 m))]) (fun _=>[none, some (.ar false .i16 ys)]) (fun _=>True) (WpN.vc ?_) ?_
    · conv=>whnf
      refine WpS.loop (ι := Int × Int) (fun x => mkSt [(0, .c (.p 0 0)), (1, .c (.sl 1 0 d cap)), (2, .c (.i .i64 d)), (8, .c (.is .i64 nd)), (9, .c (.i .i64 adj)), (10, .c (.i .i64 i)), (16, .c (.i .i64 x.2)), (17, .c (.i .i64 x.1))] [none, some (.ar false .i16 ys)] 240) (fun x => 0 ≤ x.1 ∧ x.1 ≤ i) (fun x => (i - x.1).toNat) (0, _) (by dsimp only; omega) (Ren.relOf [] rfl (by repeat constructor) ⟨rfl, trivial⟩) ?_
      rintro ⟨k, m⟩ hk3
      dsimp only at hk3 ⊢
      have ek : IntKind.i64.wrap (k + 1) = k + 1 := IntWalk.i64_in _ (by omega)
      refine VC_ok ?_
      conv=>whnf
      rw [ei]
      refine ⟨fun hc3 => ?_, fun hc3 => ?_⟩
      · have hc3 := of_decide_eq_true hc3
        conv=>whnf
        refine ⟨by rw [hnl]; omega, ?_⟩
        conv=>whnf
        exact ⟨(IntKind.i64.wrap (k + 1), _), by dsimp only; omega, by dsimp only; omega, Ren.relOf [] rfl (by repeat constructor) ⟨rfl, trivial⟩⟩
      · conv=>whnf
        refine ⟨rfl, ?_⟩
        conv=>whnf
        exact ⟨m, trivial, Ren.relOf [] rfl (by repeat constructor) ⟨rfl, trivial⟩⟩
    rintro mc -
    refine WpN.seq (WpN.vc ?_)
    conv=>whnf
    refine ⟨by rw [hnl]; omega, ?_⟩
    conv=>whnf
    refine ⟨by decide, ?_⟩
    conv=>whnf
    refine WpN.cut (ι := Int) (fun m => [(0, .c (.p 0 0)), (1, .c (.sl 1 0 d cap)), (2, .c (.i .i64 d)), (8, .c (.is .i64 nd)), (9, .c (.i .i64 adj)), (10, .c (.i .i64 i)), (16, .c (.i .i64 mc)), (18, .c (.i .i64 m))]) (fun _=>[none, some (.ar false .i16 ys)]) (fun _=>True) (WpN.vc ?_) ?_
    · conv=>whnf
      refine WpS.loop (ι := Int × Int) (fun x => mkSt [(0, .c (.p 0 0)), (1, .c (.sl 1 0 d cap)), (2, .c (.i .i64 d)), (8, .c (.is .i64 nd)), (9, .c (.i .i64 adj)), (10, .c (.i .i64 i)), (16, .c (.i .i64 mc)), (18, .c (.i .i64 x.2)), (19, .c (.i .i64 x.1))] [none, some (.ar false .i16 ys)] 240) (fun x => 0 ≤ x.1 ∧ x.1 ≤ d + 1) (fun x => (d + 1 - x.1).toNat) (IntKind.i64.wrap (i + 1), _) (by dsimp only; omega) (Ren.relOf [] rfl (by repeat constructor) ⟨rfl, trivial⟩) ?_
      rintro ⟨k, m⟩ hk3
      dsimp only at hk3 ⊢
      have ek : IntKind.i64.wrap (k + 1) = k + 1 := IntWalk.i64_in _ (by omega)
      refine VC_ok ?_
      conv=>whnf
      refine ⟨fun hc3 => ?_, fun hc3 => ?_⟩
      · have hc3 := of_decide_eq_true hc3
        conv=>whnf
        refine ⟨by rw [hnl]; omega, ?_⟩
        conv=>whnf
        exact ⟨(IntKind.i64.wrap (k + 1), _), by dsimp only; omega, by dsimp only; omega, Ren.relOf [] rfl (by repeat constructor) ⟨rfl, trivial⟩⟩
      · conv=>whnf
        refine ⟨rfl, ?_⟩
        conv=>whnf
        exact ⟨m, trivial, Ren.relOf [] rfl (by repeat constructor) ⟨rfl, trivial⟩⟩
    rintro mx -
    refine WpN.vc ?_
    conv=>whnf
    refine .inl ⟨by kernel_rfl, ?_⟩
    conv=>whnf
    rw [ei]
    refine ⟨by omega, ?_⟩
    conv=>whnf
    refine ⟨by omega, ?_⟩
    conv=>whnf
    refine ⟨by omega, ?_⟩
    conv=>whnf
    refine ⟨by omega, ?_⟩
    conv=>whnf
    refine ⟨by decide, ?_⟩
    conv=>whnf
    refine CallQ.use [] (f143 _ _ _) rfl rfl trivial ?_
    rintro v l' ⟨rfl, rfl⟩
    generalize clampI _ _ _ = ce
    conv=>whnf
    rw [ei]
    refine ⟨by rw [hnl]; omega, ?_⟩
    conv=>whnf
    refine ⟨by decide, ?_⟩
    conv=>whnf
    refine ⟨by omega, ?_⟩
    generalize hw : IntKind.i16.wrap (IntKind.i64.wrap (IntKind.i64.wrap ce - (nd.getD i.toNat 0).fdiv (2 ^ min (Int.toNat 1) IntKind.i64.bits))) = w1
    have hw1 : -32768 ≤ w1 ∧ w1 ≤ 32767 := by rw [← hw]; exact i16_wrap_in _
    conv=>whnf
    refine ⟨by omega, ?_⟩
    conv=>whnf
    refine .inl ⟨by kernel_rfl, ?_⟩
    conv=>whnf
    rw [ei]
    refine ⟨by omega, ?_⟩
    conv=>whnf
    refine ⟨by simp only [List.length_set]; omega, ?_⟩
    conv=>whnf
    refine ⟨by rw [hnl]; omega, ?_⟩
    conv=>whnf
    refine ⟨by omega, ?_⟩
    conv=>whnf
    refine ⟨by simp only [List.length_set]; omega, ?_⟩
    conv=>whnf
    refine WpN.vc ?_
    conv=>whnf
    have h9 := clo ((ys.set (0 + (i - 1).toNat) w1).set (0 + i.toNat) (IntKind.i16.wrap ((ys.set (0 + (i - 1).toNat) w1).getD (0 + (i - 1).toNat) 0 + IntKind.i16.wrap (nd.getD i.toNat 0)))) (by simpa using hyl)
      (Rg.set (hr.set (by omega) (by omega) hw1) (by simp only [List.length_set]; omega) (by omega) (i16_wrap_in _))
    exact ⟨(IntKind.i64.wrap (adj + 1), (ys.set (0 + (i - 1).toNat) w1).set (0 + i.toNat) (IntKind.i16.wrap ((ys.set (0 + (i - 1).toNat) w1).getD (0 + (i - 1).toNat) 0 + IntKind.i16.wrap (nd.getD i.toNat 0)))), h9.1, h9.2, Ren.relOf [] rfl (by repeat constructor) ⟨rfl, trivial⟩⟩
  clear hr
  rintro ys ⟨hyl, hr⟩
  refine WpN.seq (WpN.vc ?_)
  conv=>whnf
  refine CallQ.useF [1] (f165 d cap ys (by omega)) rfl rfl ⟨rfl, trivial⟩ ?_
  rintro v l' ⟨us, rfl, rfl, hs⟩
  have hul : us.length = xs.length := hs.1.trans hyl
  have hur := hs.2 hr
  conv=>whnf
  refine WpN.cut (ι := List Int) (fun _=>[(0, .c (.p 0 0)), (1, .c (.sl 1 0 d cap)), (2, .c (.i .i64 d)), (8, .c (.is .i64 nd))]) (fun zs => [none, some (.ar false .i16 zs)]) (fun zs => zs.length = xs.length ∧ ∀ j, j < d → sm nd j ≤ zs.getD j 0 ∧ zs.getD j 0 ≤ 32767) (WpN.vc ?_) ?_
  · conv=>whnf
    refine WpS.loop (ι := Nat × List Int) (fun x => mkSt [(0, .c (.p 0 0)), (1, .c (.sl 1 0 d cap)), (2, .c (.i .i64 d)), (8, .c (.is .i64 nd)), (21, .c (.i .i64 x.1))] [none, some (.ar false .i16 x.2)] 240) (fun x => x.1 ≤ d ∧ x.2.length = xs.length ∧ Rg d x.2 ∧ ∀ j, j < x.1 → sm nd j ≤ x.2.getD j 0) (fun x => d - x.1) (0, us) ⟨Nat.zero_le _, hul, hur, fun j hj => absurd hj (Nat.not_lt_zero _)⟩ (Ren.relOf [] rfl (by repeat constructor) ⟨rfl, trivial⟩) ?_
    clear hs hul hur us hr hyl ys
    rintro ⟨k, zs⟩ ⟨hk, hzl, hr, hA⟩
    dsimp only at hk hzl hr hA ⊢
    have ed : IntKind.i64.wrap ((d : Int) - 1) = d - 1 := IntWalk.i64_in _ (by omega)
    have ek : IntKind.i64.wrap ((k : Int) + 1) = ((k + 1 : Nat) : Int) := by rw [IntWalk.i64_in _ (by omega)]; rfl
    refine WpN.toS (WpN.seq (WpN.vc ?_))
    conv=>whnf
    rw [ed]
    refine ⟨fun hc => ?_, fun hc => ?_⟩
    rotate_left
    · have hc := of_decide_eq_false hc
      conv=>whnf
      refine ⟨rfl, ?_⟩
      conv=>whnf
      exact ⟨zs, ⟨hzl, fun j hj => ⟨hA j (by omega), (hr j hj).2⟩⟩, Ren.relOf [] rfl (by repeat constructor) ⟨rfl, trivial⟩⟩
    have hc := of_decide_eq_true hc
    conv=>whnf
    refine WpN.seq (WpN.block (WpN.seq (WpN.vc ?_)))
    conv=>whnf
    refine WpN.cut (ι := Int) (fun p => [(0, .c (.p 0 0)), (1, .c (.sl 1 0 d cap)), (2, .c (.i .i64 d)), (8, .c (.is .i64 nd)), (21, .c (.i .i64 k)), (22, .c (.i .i16 p))]) (fun _=>[none, some (.ar false .i16 zs)]) (fun p => p = pv zs k) (WpN.vc ?_) ?_
    · conv=>whnf
      refine ⟨fun h0 => ?_, fun h0 => ?_⟩
      · have h0 : (k : Int) ≠ 0 := by simpa using h0
        obtain ⟨k, rfl⟩ : ∃ i, k = i + 1 := ⟨k - 1, by omega⟩
        have e2 : IntKind.i64.wrap (((k + 1 : Nat) : Int) - 1) = k := by rw [IntWalk.i64_in _ (by omega)]; omega
        conv=>whnf
        rw [e2]
        refine ⟨by omega, ?_⟩
        conv=>whnf
        refine ⟨by omega, ?_⟩
        conv=>whnf
        have h9 : 0 + Int.toNat (k : Int) = k := by simp
        rw [h9]
        exact ⟨_, rfl, Ren.relOf [] rfl (by repeat constructor) ⟨rfl, trivial⟩⟩
      · have h0 : (k : Int) = 0 := by simpa using h0
        obtain rfl : k = 0 := by omega
        conv=>whnf
        exact ⟨0, rfl, Ren.relOf [] rfl (by repeat constructor) ⟨rfl, trivial⟩⟩
    rintro _ rfl
    have hnk := hnd.lo k (by omega)
    have hsk := hnd.s k (by omega)
    have hp : (0 ≤ pv zs k ∧ pv zs k ≤ 32767) ∧ sm nd k ≤ pv zs k + nd.getD k 0 := by
      cases k with
      | zero => exact ⟨⟨Int.le_refl 0, by simp only [pv]; omega⟩, by simp only [pv, sm]; omega⟩
      | succ k =>
        have h1 := hA k (by omega)
        have h2 := hr k (by omega)
        have h3 := hnd.s k (by omega)
        simp only [pv, sm]
        omega
    have h9 : 0 + Int.toNat (k : Int) = k := by simp
    refine WpN.vc ?_
    conv=>whnf
    refine .inr (WpS.draw [0, 0, 0, 0, 0, 1, 0, 0, 0, 0, 0, 0, 2, 2, 0, 3] (fun st2 => st2 1 = some (.ar false .i16 zs)) (by kernel_rfl) ?_)
    conv=>whnf
    refine ⟨by omega, ?_⟩
    conv=>whnf
    refine ⟨.c (.i .i16 (zs.getD (0 + Int.toNat (k : Int)) 0)), ⟨rfl, fun st2 h2 => ⟨_, h2, .inr ⟨_, rfl, by omega⟩⟩⟩, ?_⟩
    conv=>whnf
    refine ⟨by rw [hnl]; omega, ?_⟩
    conv=>whnf
    refine ⟨rfl, ?_⟩
    refine CallQ.use [] (f167 _ _) rfl rfl trivial ?_
    rintro v l' ⟨rfl, rfl⟩
    refine ⟨rfl, ?_⟩
    have es : IntKind.i16.wrap (clampI (-32768) (IntKind.i32.wrap (IntKind.i32.wrap (pv zs k) + IntKind.i32.wrap (IntKind.i16.wrap (nd.getD (Int.toNat (k : Int)) 0)))) 32767) = if pv zs k + nd.getD k 0 > 32767 then 32767 else pv zs k + nd.getD k 0 := by
      have e1 : IntKind.i16.wrap (nd.getD (Int.toNat (k : Int)) 0) = nd.getD k 0 := IntWalk.i16_in _ (by show -32768 ≤ nd.getD k 0 ∧ nd.getD k 0 ≤ 32767; omega)
      rw [e1, IntWalk.i32_in (pv zs k) (by omega), IntWalk.i32_in (nd.getD k 0) (by omega), IntWalk.i32_in (pv zs k + nd.getD k 0) (by omega)]
      unfold clampI
      split
      · rw [IntWalk.i16_in _ (by omega)]
      · rw [if_neg (by omega), IntWalk.i16_in _ (by omega)]
    rw [es]
    conv=>whnf
    refine ⟨rfl, ?_⟩
    refine CallQ.use [] (f166 _ _) rfl rfl trivial ?_
    rintro v l' ⟨rfl, rfl⟩
    refine ⟨rfl, ?_⟩
    rw [h9]
    have hzk := hr k (by omega)
    have hw : (sm nd k ≤ (if zs.getD k 0 > (if pv zs k + nd.getD k 0 > 32767 then 32767 else pv zs k + nd.getD k 0) then zs.getD k 0 else (if pv zs k + nd.getD k 0 > 32767 then 32767 else pv zs k + nd.getD k 0))) ∧ (if zs.getD k 0 > (if pv zs k + nd.getD k 0 > 32767 then 32767 else pv zs k + nd.getD k 0) then zs.getD k 0 else (if pv zs k + nd.getD k 0 > 32767 then 32767 else pv zs k + nd.getD k 0)) ≤ 32767 := by
      split <;> split at * <;> omega
    generalize (if zs.getD k 0 > (if pv zs k + nd.getD k 0 > 32767 then 32767 else pv zs k + nd.getD k 0) then zs.getD k 0 else (if pv zs k + nd.getD k 0 > 32767 then 32767 else pv zs k + nd.getD k 0)) = w at hw
    conv=>whnf
    refine ⟨by omega, ?_⟩
    conv=>whnf
    refine ⟨by omega, ?_⟩
    rw [h9]
    conv=>whnf
    refine ⟨rfl, ?_⟩
    conv=>whnf
    refine WpN.vc ?_
    conv=>whnf
    rw [ek]
    refine ⟨(k + 1, zs.set k w), ⟨by dsimp only; omega, by simpa using hzl, hr.set (by omega) (by omega) (by omega), fun j hj => ?_⟩, by dsimp only; omega, Ren.relOf [] rfl (by repeat constructor) ⟨rfl, trivial⟩⟩
    dsimp only
    rw [getD_set (by omega)]
    dsimp only at hj
    split
    · rename_i h; subst h; exact hw.1
    · exact hA j (by omega)
  clear hs hul hur us hr hyl ys
  rintro us ⟨hul, hA⟩
  refine WpN.seq (WpN.vc ?_)
  conv=>whnf
  have ed : IntKind.i64.wrap ((d : Int) - 1) = d - 1 := IntWalk.i64_in _ (by omega)
  refine WpN.vc ?_
  conv=>whnf
  refine WpS.loop (ι := Int × List Int) (fun x => mkSt [(0, .c (.p 0 0)), (1, .c (.sl 1 0 d cap)), (2, .c (.i .i64 d)), (8, .c (.is .i64 nd)), (23, .c (.i .i64 x.1))] [none, some (.ar false .i16 x.2)] 240) (fun x => (-1 ≤ x.1 ∧ x.1 < d) ∧ x.2.length = xs.length ∧ (∀ j, j < d → sm nd j ≤ x.2.getD j 0 ∧ x.2.getD j 0 ≤ 32767) ∧ ∀ j : Nat, x.1 < j → j + 1 < d → x.2.getD j 0 < x.2.getD (j + 1) 0) (fun x => (x.1 + 1).toNat) (IntKind.i64.wrap ((d : Int) - 1), us) ⟨by dsimp only; omega, hul, hA, fun j h1 h2 => by dsimp only at h1; omega⟩ (Ren.relOf [] rfl (by repeat constructor) ⟨rfl, trivial⟩) ?_
  clear hul hA us
  rintro ⟨k, zs⟩ ⟨hk, hzl, hA, hB⟩
  dsimp only at hk hzl hA hB ⊢
  refine WpN.toS (WpN.seq (WpN.vc ?_))
  conv=>whnf
  refine ⟨fun hc => ?_, fun hc => ?_⟩
  rotate_left
  · have hc := of_decide_eq_false hc
    conv=>whnf
    refine ⟨rfl, ?_⟩
    conv=>whnf
    refine ⟨[], .tu [], [none, some (.ar false .i16 zs)], rfl, rfl, ⟨rfl, trivial⟩, zs, rfl, rfl, hzl, fun j hj => ⟨by have := hnd.s j (by omega); have := (hA j hj).1; omega, (hA j hj).2⟩, fun j hj => hB j (by omega) hj⟩
  have hc := of_decide_eq_true hc
  obtain ⟨k, rfl⟩ := Int.eq_ofNat_of_zero_le hc
  have ek : IntKind.i64.wrap ((k : Int) - 1) = k - 1 := IntWalk.i64_in _ (by omega)
  have ek1 : IntKind.i64.wrap ((k : Int) + 1) = ((k + 1 : Nat) : Int) := by rw [IntWalk.i64_in _ (by omega)]; rfl
  have h9 : 0 + Int.toNat (k : Int) = k := by simp
  have h8 : 0 + Int.toNat ((k + 1 : Nat) : Int) = k + 1 := by simp
  conv=>whnf
  refine WpN.seq (WpN.block (WpN.seq (WpN.vc ?_)))
  conv=>whnf
  refine WpN.cut (ι := Int) (fun p => [(0, .c (.p 0 0)), (1, .c (.sl 1 0 d cap)), (2, .c (.i .i64 d)), (8, .c (.is .i64 nd)), (23, .c (.i .i64 k)), (24, .c (.i .i64 p))]) (fun _=>[none, some (.ar false .i16 zs)]) (fun p => p = cu zs d (k + 1)) (WpN.vc ?_) ?_
  · conv=>whnf
    rw [ed]
    refine ⟨fun h0 => ?_, fun h0 => ?_⟩
    · have h0 : (k : Int) ≠ d - 1 := by simpa using h0
      conv=>whnf
      rw [ek1]
      refine ⟨by omega, ?_⟩
      conv=>whnf
      refine ⟨by omega, ?_⟩
      conv=>whnf
      rw [h8]
      have := hA (k + 1) (by omega)
      have := hnd.s (k + 1) (by omega)
      rw [IntWalk.i64_in _ (by omega)]
      exact ⟨_, by unfold cu; rw [if_neg (by omega)], Ren.relOf [] rfl (by repeat constructor) ⟨rfl, trivial⟩⟩
    · have h0 : (k : Int) = d - 1 := by simpa using h0
      conv=>whnf
      exact ⟨32768, by unfold cu; rw [if_pos (by omega)], Ren.relOf [] rfl (by repeat constructor) ⟨rfl, trivial⟩⟩
  rintro _ rfl
  have hnk := hnd.lo (k + 1) (by omega)
  have hs0 := hnd.s k (by omega)
  have hs1 := hnd.s (k + 1) (by omega)
  have hsk : sm nd (k + 1) = sm nd k + nd.getD (k + 1) 0 := rfl
  have hcu : (sm nd (k + 1) ≤ cu zs d (k + 1) ∧ cu zs d (k + 1) ≤ 32768) ∧ (k + 1 < d → cu zs d (k + 1) = zs.getD (k + 1) 0) := by
    unfold cu
    split
    · exact ⟨by omega, fun h => by omega⟩
    · have := hA (k + 1) (by omega); exact ⟨by omega, fun _=>rfl⟩
  have ey : IntKind.i16.wrap (IntKind.i64.wrap (cu zs d (k + 1) - nd.getD (Int.toNat ((k + 1 : Nat) : Int)) 0)) = cu zs d (k + 1) - nd.getD (k + 1) 0 := by
    rw [IntWalk.i64_in _ (by show _ ≤ cu zs d (k + 1) - nd.getD (k + 1) 0 ∧ cu zs d (k + 1) - nd.getD (k + 1) 0 ≤ _; omega)]
    exact IntWalk.i16_in _ (by show -32768 ≤ cu zs d (k + 1) - nd.getD (k + 1) 0 ∧ cu zs d (k + 1) - nd.getD (k + 1) 0 ≤ 32767; omega)
  have hzk := hA k (by omega)
  refine WpN.vc ?_
  conv=>whnf
  refine .inl ⟨by kernel_rfl, ?_⟩
  conv=>whnf
  refine ⟨by omega, ?_⟩
  conv=>whnf
  refine ⟨by omega, ?_⟩
  conv=>whnf
  rw [ek1]
  refine ⟨by rw [hnl]; omega, ?_⟩
  conv=>whnf
  rw [ey, h9]
  refine CallQ.use [] (f168 _ _) rfl rfl trivial ?_
  rintro v l' ⟨rfl, rfl⟩
  have hw : sm nd k ≤ (if zs.getD k 0 > cu zs d (k + 1) - nd.getD (k + 1) 0 then cu zs d (k + 1) - nd.getD (k + 1) 0 else zs.getD k 0) ∧ (if zs.getD k 0 > cu zs d (k + 1) - nd.getD (k + 1) 0 then cu zs d (k + 1) - nd.getD (k + 1) 0 else zs.getD k 0) ≤ 32767 ∧ (if zs.getD k 0 > cu zs d (k + 1) - nd.getD (k + 1) 0 then cu zs d (k + 1) - nd.getD (k + 1) 0 else zs.getD k 0) < cu zs d (k + 1) := by
    split <;> omega
  generalize (if zs.getD k 0 > cu zs d (k + 1) - nd.getD (k + 1) 0 then cu zs d (k + 1) - nd.getD (k + 1) 0 else zs.getD k 0) = w at hw
  conv=>whnf
  refine ⟨by omega, ?_⟩
  conv=>whnf
  refine ⟨by omega, ?_⟩
  rw [h9]
  conv=>whnf
  refine WpN.vc ?_
  conv=>whnf
  refine ⟨(IntKind.i64.wrap ((k : Int) - 1), zs.set k w), ⟨by dsimp only; omega, by simpa using hzl, fun j hj => ?_, fun j h1 h2 => ?_⟩, by dsimp only; omega, Ren.relOf [] rfl (by repeat constructor) ⟨rfl, trivial⟩⟩
  · dsimp only
    rw [getD_set (by omega)]
    split
    · rename_i h; subst h; exact ⟨hw.1, hw.2.1⟩
    · exact hA j hj
  · dsimp only at h1 ⊢
    rw [ek] at h1
    rw [getD_set (by omega), getD_set (by omega)]
    by_cases hj : k = j
    · subst hj
      rw [if_pos rfl, if_neg (by omega), ← hcu.2 h2]
      exact hw.2.2
    · rw [if_neg hj, if_neg (by omega)]
      exact hB j (by omega) h2
end Go.SX
