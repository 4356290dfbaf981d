/- A part of the proof: the SILK decoder of the given program, walked by an executor that is proved sound. No statement of the program is proved in this text. -/
import Derived.Test.YtojdfjohmicopaaGreatDoorL12
import Derived.Test.YtojdfjohmicopaaGreatDoorL13
set_option linter.all false
set_option maxRecDepth 100000
namespace Go.SX
open Go
structure RcOk (data : List Int) (b n s h : Int) : Prop where
  d : data.length ≤ 1275
  b : 0 ≤ b ∧ b ≤ 8 * data.length
  n : 0 ≤ n ∧ n ≤ 18446744073709551615
  s : 8388608 < s ∧ s ≤ 2147483648
  h : 0 ≤ h ∧ h ≤ 4294967295
theorem f82 (data : List Int) (b r n s h sc lo hi tot : Int) (rest : List C) (hr : RcOk data b n s h) (h1 : 1 ≤ sc) (h2 : 0 ≤ lo ∧ lo < hi ∧ hi ≤ tot ∧ tot ≤ 65536) (h3 : sc * tot ≤ s) : Fn0 82 [.c (.p 0 0), .c (.i .u32 sc), .c (.i .u32 lo), .c (.i .u32 hi), .c (.i .u32 tot)] (rc data b r n s h rest) fun v b' => ∃ bn n' s' h' : Int, v = .tu [] ∧ RcOk data bn n' s' h' ∧ b' = rc data bn r n' s' h' rest := by
  have hs := hr.s
  have d1 : 1 * (hi - lo) ≤ sc * (hi - lo) := Int.mul_le_mul_of_nonneg_right h1 (by omega)
  have d2 : sc * (hi - lo) ≤ sc * tot := Int.mul_le_mul_of_nonneg_left (by omega) (by omega)
  have d3 : sc * (tot - hi) ≤ sc * tot := Int.mul_le_mul_of_nonneg_left (by omega) (by omega)
  have d4 : 0 ≤ sc * (tot - hi) := Int.mul_nonneg (by omega) (by omega)
  have d5 : sc * (tot - hi) = sc * tot - sc * hi := Int.mul_sub _ _ _
  have d6 : 1 * hi ≤ sc * hi := Int.mul_le_mul_of_nonneg_right h1 (by omega)
  have e1 : IntKind.u32.wrap (hi - lo) = hi - lo := IntWalk.u32_in _ (by omega)
  have e2 : IntKind.u32.wrap (tot - hi) = tot - hi := IntWalk.u32_in _ (by omega)
  have e3 : IntKind.u32.wrap (sc * IntKind.u32.wrap (hi - lo)) = sc * (hi - lo) := by rw [e1]; exact IntWalk.u32_in _ (by omega)
  have e4 : IntKind.u32.wrap (sc * IntKind.u32.wrap (tot - hi)) = sc * (tot - hi) := by rw [e2]; exact IntWalk.u32_in _ (by omega)
  refine Fn0.run Proofs.Tryz.f82 rfl rfl rfl rfl rfl fun st m => ?_
  conv=>whnf
  refine ⟨fun hc => ?_, fun hc => ?_⟩
  · conv=>whnf
    refine CallQ.use0 (f64 data b r n (IntKind.u32.wrap (sc * IntKind.u32.wrap (hi - lo))) (IntKind.u32.wrap (h - IntKind.u32.wrap (sc * IntKind.u32.wrap (tot - hi)))) rest hr.d hr.b (by rw [e3]; omega) (wrap_within .u32 _) hr.n) (by rfl) ?_
    rintro v b' ⟨bn, n', s', h', rfl, k1, k2, k3, k4, rfl⟩
    conv=>whnf
    exact ⟨_, rfl, rfl, by repeat constructor, rfl, bn, n', s', h', rfl, ⟨hr.d, k1, k4, k2, k3⟩, rfl⟩
  · have hc : lo = 0 := by simpa using hc
    conv=>whnf
    refine CallQ.use0 (f64 data b r n (IntKind.u32.wrap (s - IntKind.u32.wrap (sc * IntKind.u32.wrap (tot - hi)))) (IntKind.u32.wrap (h - IntKind.u32.wrap (sc * IntKind.u32.wrap (tot - hi)))) rest hr.d hr.b (by rw [e4, IntWalk.u32_in _ (by omega)]; omega) (wrap_within .u32 _) hr.n) (by rfl) ?_
    rintro v b' ⟨bn, n', s', h', rfl, k1, k2, k3, k4, rfl⟩
    conv=>whnf
    exact ⟨_, rfl, rfl, by repeat constructor, rfl, bn, n', s', h', rfl, ⟨hr.d, k1, k4, k2, k3⟩, rfl⟩
theorem f83 (x y : Int) : FnS 83 [.c (.i .u64 x), .c (.i .u64 y)] [] (fun v l' => v = .c (.i .u64 (if x < y then x else y)) ∧ l' = []) := by
  refine FnS.run (b := 0) Proofs.Tryz.f83 rfl rfl rfl rfl rfl rfl ?_
  conv=>whnf
  refine ⟨fun h => ?_, fun h => ?_⟩
  · conv=>whnf
    exact ⟨[], rfl, trivial, by rw [if_pos (of_decide_eq_true h)]; rfl, rfl⟩
  · conv=>whnf
    exact ⟨[], rfl, trivial, by rw [if_neg (of_decide_eq_false h)]; rfl, rfl⟩
def icdfOk : List Int → Bool
  | [] => false
  | tot :: tab => decide (1 ≤ tot) && decide (tot ≤ 65536) && tab.all (fun x => decide (0 ≤ x) && decide (x ≤ tot)) && tab.contains tot && decide (tab.length ≤ 65536)
theorem f56s (data : List Int) (b r n s h tot : Int) (tab : List Int) (rest : List C) (hr : RcOk data b n s h) (ht : icdfOk (tot :: tab) = true) : Fn0 56 [.c (.p 0 0), .c (.is .u64 (tot :: tab))] (rc data b r n s h rest) fun v b' => ∃ (k : Nat) (bn n' s' h' : Int), v = .c (.i .u32 k) ∧ (k < tab.length ∧ ∀ j : Nat, tab[j]? = some tot → k ≤ j) ∧ RcOk data bn n' s' h' ∧ b' = rc data bn r n' s' h' rest := by
  simp only [icdfOk, Bool.and_eq_true, decide_eq_true_eq, List.all_eq_true, List.contains_iff_mem] at ht
  obtain ⟨⟨⟨⟨h1, h2⟩, h3⟩, h4⟩, h5⟩ := ht
  have hs := hr.s
  have et : IntKind.u32.wrap ((tot :: tab).getD (Int.toNat 0) 0) = tot := IntWalk.u32_in _ (by show 0 ≤ tot ∧ tot ≤ 4294967295; omega)
  have esl : List.drop (Int.toNat 1) (List.take (Int.toNat ↑(tot :: tab).length) (tot :: tab)) = tab := by simp
  refine Fn0.run Proofs.Tryz.f56 rfl rfl rfl rfl rfl fun st m => ?_
  conv=>whnf
  refine ⟨by simp, ?_⟩
  conv=>whnf
  refine ⟨by simp; omega, ?_⟩
  rw [esl]
  conv=>whnf
  rw [et]
  refine ⟨by omega, ?_⟩
  conv=>whnf
  have esc : IntKind.u32.wrap (s.tdiv tot) = s / tot := IntWalk.u32_quo _ _ (by omega)
  rw [esc]
  have k1 : s / tot * tot ≤ s := Int.ediv_mul_le s (by omega)
  have k2 : 65536 / tot ≤ s / tot := Int.ediv_le_ediv (by omega) (by omega)
  have k3 : 1 ≤ 65536 / tot := Int.le_ediv_of_mul_le (by omega) (by omega)
  have k4 : 128 ≤ s / tot := Int.le_ediv_of_mul_le (by omega) (by omega)
  have k5 : s / tot ≤ s := Int.ediv_le_self _ (by omega)
  generalize s / tot = sc at *
  refine ⟨by omega, ?_⟩
  conv=>whnf
  have hh := hr.h
  have q1 : 0 ≤ h / sc := Int.ediv_nonneg (by omega) (by omega)
  have q2 : h / sc * 128 ≤ h := Int.le_trans (Int.mul_le_mul_of_nonneg_left k4 q1) (Int.ediv_mul_le h (by omega))
  have eh : IntKind.u32.wrap (h.tdiv sc) = h / sc := IntWalk.u32_quo _ _ (by omega)
  refine CallQ.use [] (f83 _ _) rfl rfl trivial ?_
  rintro v l' ⟨rfl, rfl⟩
  conv=>whnf
  rw [eh]
  generalize h / sc = hq at *
  have ex : IntKind.u64.wrap (IntKind.u32.wrap (hq + 1)) = hq + 1 := by
    rw [IntWalk.u32_in (hq + 1) (by omega), IntWalk.u64_in _ (by omega)]
  have ey : IntKind.u64.wrap tot = tot := IntWalk.u64_in _ (by omega)
  have hsym : ∀ sym : Int, sym = IntKind.u32.wrap (tot - IntKind.u32.wrap (if IntKind.u64.wrap (IntKind.u32.wrap (hq + 1)) < IntKind.u64.wrap tot then IntKind.u64.wrap (IntKind.u32.wrap (hq + 1)) else IntKind.u64.wrap tot)) → 0 ≤ sym ∧ sym < tot := by
    intro sym hsym
    rw [ex, ey] at hsym
    rw [hsym]
    split
    · rw [IntWalk.u32_in (hq + 1) (by omega), IntWalk.u32_in _ (by omega)]; omega
    · rw [IntWalk.u32_in tot (by omega), IntWalk.u32_in _ (by omega)]; omega
  generalize hsy : IntKind.u32.wrap (tot - IntKind.u32.wrap (if IntKind.u64.wrap (IntKind.u32.wrap (hq + 1)) < IntKind.u64.wrap tot then IntKind.u64.wrap (IntKind.u32.wrap (hq + 1)) else IntKind.u64.wrap tot)) = sym at hsym
  have hsym := hsym sym rfl
  have hle : ∀ k : Nat, k < tab.length → 0 ≤ tab.getD k 0 ∧ tab.getD k 0 ≤ tot := fun k hk => by
    rw [List.getD_eq_getElem?_getD, List.getElem?_eq_getElem hk]
    exact h3 _ (List.getElem_mem hk)
  obtain ⟨j0, hj0⟩ := List.mem_iff_getElem?.1 h4
  have hj1 : j0 < tab.length := (List.getElem?_eq_some_iff.1 hj0).1
  have hj2 : tab.getD j0 0 = tot := by rw [List.getD_eq_getElem?_getD, hj0]; rfl
  have ew : ∀ k : Nat, k < tab.length → IntKind.u32.wrap (tab.getD ((k : Int)).toNat 0) = tab.getD k 0 := fun k hk => by
    have := hle k hk
    exact IntWalk.u32_in _ (by show 0 ≤ tab.getD k 0 ∧ tab.getD k 0 ≤ 4294967295; omega)
  refine WpS.loop (ι := Nat) (fun k => ⟨mkE [(0, .c (.p 0 0)), (1, .c (.is .u64 tab)), (5, .c (.i .u32 tot)), (6, .c (.i .u32 sc)), (7, .c (.i .u32 sym)), (8, .c (.i .u32 (k : Int)))], upd st 0 (rc data b r n s h rest), m + 1, 67⟩)
    (fun k => k < tab.length ∧ ∀ j, j < k → tab.getD j 0 ≤ sym) (fun k => tab.length - k) 0 ⟨by omega, fun j hj => by omega⟩ (Rel.of _ (by rw [← hsy]; repeat constructor) rfl) ?_
  rintro k ⟨hk, hpre⟩
  have hk2 := hle k hk
  refine VC_ok ?_
  conv=>whnf
  refine ⟨by omega, ?_⟩
  conv=>whnf
  refine ⟨fun hc => ?_, fun hc => ?_⟩
  · have hc := of_decide_eq_true hc
    rw [ew k hk] at hc
    conv=>whnf
    have e1 : IntKind.u32.wrap ((k : Int) + 1) = ((k + 1 : Nat) : Int) := by rw [IntWalk.u32_in _ (by omega)]; rfl
    have hall : ∀ j, j < k + 1 → tab.getD j 0 ≤ sym := fun j hj => by
      by_cases h : j = k
      · subst h; exact hc
      · exact hpre j (by omega)
    have hk3 : k + 1 < tab.length := by
      refine Nat.lt_of_not_le fun hge => ?_
      have := hall j0 (by omega)
      omega
    exact ⟨k + 1, ⟨hk3, hall⟩, by omega, Rel.of _ (by rw [← e1]; repeat constructor) rfl⟩
  · have hc := of_decide_eq_false hc
    rw [ew k hk] at hc
    conv=>whnf
    refine ⟨rfl, ?_⟩
    conv=>whnf
    refine ⟨by omega, ?_⟩
    conv=>whnf
    refine ⟨fun h0 => ?_, fun h0 => ?_⟩
    · have h0 : (k : Int) ≠ 0 := by simpa using h0
      have ek : IntKind.u32.wrap ((k : Int) - 1) = ((k - 1 : Nat) : Int) := by rw [IntWalk.u32_in _ (by omega)]; omega
      conv=>whnf
      refine ⟨by rw [ek]; omega, ?_⟩
      conv=>whnf
      have hlo := hpre (k - 1) (by omega)
      have hlo2 := hle (k - 1) (by omega)
      refine CallQ.use0 (f82 data b r n s h sc (IntKind.u32.wrap (tab.getD (IntKind.u32.wrap ((k : Int) - 1)).toNat 0)) (IntKind.u32.wrap (tab.getD (k : Int).toNat 0)) tot rest hr (by omega) (by rw [ek, ew _ (by omega), ew _ hk]; omega) k1) (by rfl) ?_
      rintro v b' ⟨bn, n', s', h', rfl, k6, rfl⟩
      conv=>whnf
      exact ⟨_, rfl, rfl, by repeat constructor, rfl, k, bn, n', s', h', rfl, ⟨hk, fun j hj => Nat.le_of_not_lt fun hl => by
        have h9 := hpre j hl
        rw [List.getD_eq_getElem?_getD, hj] at h9
        exact absurd h9 (by show ¬ tot ≤ sym; omega)⟩, k6, rfl⟩
    · conv=>whnf
      refine CallQ.use0 (f82 data b r n s h sc 0 (IntKind.u32.wrap (tab.getD (k : Int).toNat 0)) tot rest hr (by omega) (by rw [ew _ hk]; omega) k1) (by rfl) ?_
      rintro v b' ⟨bn, n', s', h', rfl, k6, rfl⟩
      conv=>whnf
      exact ⟨_, rfl, rfl, by repeat constructor, rfl, k, bn, n', s', h', rfl, ⟨hk, fun j hj => Nat.le_of_not_lt fun hl => by
        have h9 := hpre j hl
        rw [List.getD_eq_getElem?_getD, hj] at h9
        exact absurd h9 (by show ¬ tot ≤ sym; omega)⟩, k6, rfl⟩
theorem f56 (data : List Int) (b r n s h tot : Int) (tab : List Int) (rest : List C) (hr : RcOk data b n s h) (ht : icdfOk (tot :: tab) = true) : Fn0 56 [.c (.p 0 0), .c (.is .u64 (tot :: tab))] (rc data b r n s h rest) fun v b' => ∃ (k : Nat) (bn n' s' h' : Int), v = .c (.i .u32 k) ∧ k < tab.length ∧ RcOk data bn n' s' h' ∧ b' = rc data bn r n' s' h' rest :=
  (f56s data b r n s h tot tab rest hr ht).mono fun _ _ ⟨k, bn, n', s', h', h1, h2, h3, h4⟩ => ⟨k, bn, n', s', h', h1, h2.1, h3, h4⟩
theorem f56r (data : List Int) (b r n s h : Int) (row : List Int) (rest : List C) (hr : RcOk data b n s h) (ht : icdfOk row = true) : Fn0 56 [.c (.p 0 0), .c (.is .u64 row)] (rc data b r n s h rest) fun v b' => ∃ (k : Nat) (b n s h : Int), v = .c (.i .u32 k) ∧ k + 1 < row.length ∧ RcOk data b n s h ∧ b' = rc data b r n s h rest := by
  cases row with
  | nil => cases ht
  | cons tot tab => exact (f56 data b r n s h tot tab rest hr ht).mono fun _ _ ⟨k, bn, n', s', h', h1, h2, h3, h4⟩ => ⟨k, bn, n', s', h', h1, by simpa using h2, h3, h4⟩
theorem f55 (data : List Int) (b r n s h : Int) (rest : List C) (hr : RcOk data b n s h) : Fn0 55 [.c (.p 0 0), .c (.i .u64 1)] (rc data b r n s h rest) fun v b' => ∃ (x bn n' s' h' : Int), v = .c (.i .u32 x) ∧ (0 ≤ x ∧ x ≤ 1) ∧ RcOk data bn n' s' h' ∧ b' = rc data bn r n' s' h' rest := by
  have hs := hr.s
  have e1 : s.fdiv (2 ^ min (1 : Int).toNat IntKind.u32.bits) = s / 2 := by
    have : (2 : Int) ^ min (1 : Int).toNat IntKind.u32.bits = 2 := by decide
    rw [this, Int.fdiv_eq_ediv_of_nonneg _ (by decide)]
  refine Fn0.run Proofs.Tryz.f55 rfl rfl rfl rfl rfl fun st m => ?_
  conv=>whnf
  refine ⟨by decide, ?_⟩
  conv=>whnf
  rw [e1]
  refine ⟨fun hc => ?_, fun hc => ?_⟩
  · conv=>whnf
    refine CallQ.use0 (f64 data b r n (IntKind.u32.wrap (s - s / 2)) (IntKind.u32.wrap (h - s / 2)) rest hr.d hr.b (by rw [IntWalk.u32_in _ (by omega)]; omega) (wrap_within .u32 _) hr.n) (by rfl) ?_
    rintro v b' ⟨bn, n', s', h', rfl, k1, k2, k3, k4, rfl⟩
    conv=>whnf
    exact ⟨_, rfl, rfl, by repeat constructor, rfl, 0, bn, n', s', h', rfl, by decide, ⟨hr.d, k1, k4, k2, k3⟩, rfl⟩
  · conv=>whnf
    refine CallQ.use0 (f64 data b r n (s / 2) h rest hr.d hr.b (by omega) hr.h hr.n) (by rfl) ?_
    rintro v b' ⟨bn, n', s', h', rfl, k1, k2, k3, k4, rfl⟩
    conv=>whnf
    exact ⟨_, rfl, rfl, by repeat constructor, rfl, 1, bn, n', s', h', rfl, by decide, ⟨hr.d, k1, k4, k2, k3⟩, rfl⟩
theorem f17 (data : List Int) (b r n s h : Int) (rest : List C) : Fn0 17 [.c (.p 0 0)] (rc data b r n s h rest) fun v b' => v = .c (.i .u32 s) ∧ b' = rc data b r n s h rest := by
  refine Fn0.run Proofs.Tryz.f17 rfl rfl rfl rfl rfl fun st m => ?_
  conv=>whnf
  exact ⟨_, rfl, rfl, by repeat constructor, rfl, rfl, rfl⟩
theorem f28 (data : List Int) (d0 : C) (b r n s h : Int) (rest : List C) (hd : data.length ≤ 1275) : Fn0 28 [.c (.p 0 0), .c (.is .u8 data)] (.st (d0 :: .i .u64 b :: .i .u64 r :: .i .u64 n :: .i .u32 s :: .i .u32 h :: rest)) fun v b' => ∃ (bn n' s' h' : Int), v = .tu [] ∧ RcOk data bn n' s' h' ∧ b' = rc data bn 0 n' s' h' rest := by
  refine Fn0.run Proofs.Tryz.f28 rfl rfl rfl rfl rfl fun st m => ?_
  conv=>whnf
  refine CallQ.use0 (f63 data 0 0 9 128 h 7 rest hd (by omega) (by decide)) (by rfl) ?_
  rintro v b' ⟨x, bn, rfl, hx, hbn, rfl⟩
  conv=>whnf
  refine CallQ.use0 (f64 data bn 0 9 128 (IntKind.u32.wrap (127 - x)) rest hd hbn (by decide) (wrap_within .u32 _) (by decide)) (by rfl) ?_
  rintro v b' ⟨bn2, n', s', h', rfl, k1, k2, k3, k4, rfl⟩
  conv=>whnf
  exact ⟨_, rfl, rfl, by repeat constructor, rfl, bn2, n', s', h', rfl, ⟨hd, k1, k4, k2, k3⟩, rfl⟩
theorem f30 (x : Int) : FnS 30 [.c (.i .u32 x)] [] fun v l' => ∃ y : Int, v = .c (.i .i64 y) ∧ l' = [] := by
  have w8 : ∀ n : Int, 0 ≤ IntKind.u8.wrap n ∧ IntKind.u8.wrap n < ((256 : Nat) : Int) := fun n => ⟨(wrap_within .u8 n).1, Int.lt_of_le_of_lt (wrap_within .u8 n).2 (by decide)⟩
  refine FnS.run (b := 0) Proofs.Tryz.f30 rfl rfl rfl rfl rfl rfl ?_
  conv=>whnf
  refine ⟨fun _=>?_, fun _=>?_⟩
  all_goals
    conv=>whnf
    try (refine ⟨by decide, ?_⟩; conv=>whnf)
    refine ⟨fun _=>?_, fun _=>?_⟩
  all_goals
    conv=>whnf
    try (refine ⟨by decide, ?_⟩; conv=>whnf)
    refine ⟨w8 _, ?_⟩
    conv=>whnf
    exact ⟨[], rfl, trivial, _, rfl, rfl⟩
theorem f18 (data : List Int) (b r n s h : Int) (rest : List C) : Fn0 18 [.c (.p 0 0)] (rc data b r n s h rest) fun v b' => (∃ y : Int, v = .c (.i .u64 y)) ∧ b' = rc data b r n s h rest := by
  refine Fn0.run Proofs.Tryz.f18 rfl rfl rfl rfl rfl fun st m => ?_
  conv=>whnf
  refine CallQ.use [] (f30 s) rfl rfl trivial ?_
  rintro v l' ⟨y, rfl, rfl⟩
  conv=>whnf
  refine ⟨fun _=>?_, fun _=>?_⟩
  · conv=>whnf
    exact ⟨_, rfl, rfl, by repeat constructor, rfl, ⟨_, rfl⟩, rfl⟩
  · conv=>whnf
    refine ⟨fun _=>?_, fun _=>?_⟩
    · conv=>whnf
      exact ⟨_, rfl, rfl, by repeat constructor, rfl, ⟨_, rfl⟩, rfl⟩
    · conv=>whnf
      exact ⟨_, rfl, rfl, by repeat constructor, rfl, ⟨_, rfl⟩, rfl⟩
def T90 : List Int := [256, 0, 53, 106, 256]
theorem t90 : FnS 90 [] [] fun v l' => v = .c (.is .u64 T90) ∧ l' = [] := by
  refine FnS.runF (b := 0) Proofs.Tryz.f90 rfl rfl rfl rfl rfl rfl ?_
  conv=>whnf
  exact ⟨rfl, [], rfl, trivial, rfl, rfl⟩
def T91 : List Int := [256, 0, 41, 61, 90, 131, 146, 174, 256]
theorem t91 : FnS 91 [] [] fun v l' => v = .c (.is .u64 T91) ∧ l' = [] := by
  refine FnS.runF (b := 0) Proofs.Tryz.f91 rfl rfl rfl rfl rfl rfl ?_
  conv=>whnf
  exact ⟨rfl, [], rfl, trivial, rfl, rfl⟩
def T124 : List Int := [256, 7, 9, 10, 11, 12, 22, 46, 54, 55, 56, 59, 82, 174, 197, 200, 201, 202, 210, 234, 244, 245, 246, 247, 249, 256]
theorem t124 : FnS 124 [] [] fun v l' => v = .c (.is .u64 T124) ∧ l' = [] := by
  refine FnS.runF (b := 0) Proofs.Tryz.f124 rfl rfl rfl rfl rfl rfl ?_
  conv=>whnf
  exact ⟨rfl, [], rfl, trivial, rfl, rfl⟩
def T125 : List Int := [256, 85, 171, 256]
theorem t125 : FnS 125 [] [] fun v l' => v = .c (.is .u64 T125) ∧ l' = [] := by
  refine FnS.runF (b := 0) Proofs.Tryz.f125 rfl rfl rfl rfl rfl rfl ?_
  conv=>whnf
  exact ⟨rfl, [], rfl, trivial, rfl, rfl⟩
def T126 : List Int := [256, 51, 102, 154, 205, 256]
theorem t126 : FnS 126 [] [] fun v l' => v = .c (.is .u64 T126) ∧ l' = [] := by
  refine FnS.runF (b := 0) Proofs.Tryz.f126 rfl rfl rfl rfl rfl rfl ?_
  conv=>whnf
  exact ⟨rfl, [], rfl, trivial, rfl, rfl⟩
def T128 : List Int := [256, 192, 256]
theorem t128 : FnS 128 [] [] fun v l' => v = .c (.is .u64 T128) ∧ l' = [] := by
  refine FnS.runF (b := 0) Proofs.Tryz.f128 rfl rfl rfl rfl rfl rfl ?_
  conv=>whnf
  exact ⟨rfl, [], rfl, trivial, rfl, rfl⟩
def T134 : List Int := [256, 24, 98, 246, 256]
theorem t134 : FnS 134 [] [] fun v l' => v = .c (.is .u64 T134) ∧ l' = [] := by
  refine FnS.runF (b := 0) Proofs.Tryz.f134 rfl rfl rfl rfl rfl rfl ?_
  conv=>whnf
  exact ⟨rfl, [], rfl, trivial, rfl, rfl⟩
def T135 : List Int := [256, 26, 256]
theorem t135 : FnS 135 [] [] fun v l' => v = .c (.is .u64 T135) ∧ l' = [] := by
  refine FnS.runF (b := 0) Proofs.Tryz.f135 rfl rfl rfl rfl rfl rfl ?_
  conv=>whnf
  exact ⟨rfl, [], rfl, trivial, rfl, rfl⟩
def T137 : List Int := [256, 32, 144, 212, 241, 253, 254, 255, 256]
theorem t137 : FnS 137 [] [] fun v l' => v = .c (.is .u64 T137) ∧ l' = [] := by
  refine FnS.runF (b := 0) Proofs.Tryz.f137 rfl rfl rfl rfl rfl rfl ?_
  conv=>whnf
  exact ⟨rfl, [], rfl, trivial, rfl, rfl⟩
def T138 : List Int := [256, 1, 4, 30, 101, 195, 245, 254, 256]
theorem t138 : FnS 138 [] [] fun v l' => v = .c (.is .u64 T138) ∧ l' = [] := by
  refine FnS.runF (b := 0) Proofs.Tryz.f138 rfl rfl rfl rfl rfl rfl ?_
  conv=>whnf
  exact ⟨rfl, [], rfl, trivial, rfl, rfl⟩
def T139 : List Int := [256, 2, 19, 64, 124, 186, 233, 252, 256]
theorem t139 : FnS 139 [] [] fun v l' => v = .c (.is .u64 T139) ∧ l' = [] := by
  refine FnS.runF (b := 0) Proofs.Tryz.f139 rfl rfl rfl rfl rfl rfl ?_
  conv=>whnf
  exact ⟨rfl, [], rfl, trivial, rfl, rfl⟩
def T140 : List Int := [256, 32, 64, 96, 128, 160, 192, 224, 256]
theorem t140 : FnS 140 [] [] fun v l' => v = .c (.is .u64 T140) ∧ l' = [] := by
  refine FnS.runF (b := 0) Proofs.Tryz.f140 rfl rfl rfl rfl rfl rfl ?_
  conv=>whnf
  exact ⟨rfl, [], rfl, trivial, rfl, rfl⟩
def T142 : List Int := [256, 6, 11, 22, 53, 185, 206, 214, 218, 221, 223, 225, 227, 228, 229, 230, 231, 232, 233, 234, 235, 236, 237, 238, 239, 240, 241, 242, 243, 244, 245, 246, 247, 248, 249, 250, 251, 252, 253, 254, 255, 256]
theorem t142 : FnS 142 [] [] fun v l' => v = .c (.is .u64 T142) ∧ l' = [] := by
  refine FnS.runF (b := 0) Proofs.Tryz.f142 rfl rfl rfl rfl rfl rfl ?_
  conv=>whnf
  exact ⟨rfl, [], rfl, trivial, rfl, rfl⟩
def T144 : List Int := [256, 44, 78, 108, 127, 148, 160, 171, 174, 177, 179, 195, 197, 199, 200, 205, 207, 208, 211, 214, 215, 216, 218, 220, 222, 225, 226, 235, 244, 246, 253, 255, 256]
theorem t144 : FnS 144 [] [] fun v l' => v = .c (.is .u64 T144) ∧ l' = [] := by
  refine FnS.runF (b := 0) Proofs.Tryz.f144 rfl rfl rfl rfl rfl rfl ?_
  conv=>whnf
  exact ⟨rfl, [], rfl, trivial, rfl, rfl⟩
def T145 : List Int := [256, 1, 11, 12, 20, 23, 31, 39, 53, 66, 80, 81, 95, 107, 120, 131, 142, 154, 165, 175, 185, 196, 204, 213, 221, 228, 236, 237, 238, 244, 245, 251, 256]
theorem t145 : FnS 145 [] [] fun v l' => v = .c (.is .u64 T145) ∧ l' = [] := by
  refine FnS.runF (b := 0) Proofs.Tryz.f145 rfl rfl rfl rfl rfl rfl ?_
  conv=>whnf
  exact ⟨rfl, [], rfl, trivial, rfl, rfl⟩
def T146 : List Int := [256, 31, 52, 55, 72, 73, 81, 98, 102, 103, 121, 137, 141, 143, 146, 147, 157, 158, 161, 177, 188, 204, 206, 208, 211, 213, 224, 225, 229, 238, 246, 253, 256]
theorem t146 : FnS 146 [] [] fun v l' => v = .c (.is .u64 T146) ∧ l' = [] := by
  refine FnS.runF (b := 0) Proofs.Tryz.f146 rfl rfl rfl rfl rfl rfl ?_
  conv=>whnf
  exact ⟨rfl, [], rfl, trivial, rfl, rfl⟩
def T147 : List Int := [256, 1, 5, 21, 26, 44, 55, 60, 74, 89, 90, 93, 105, 118, 132, 146, 152, 166, 178, 180, 186, 187, 199, 211, 222, 232, 235, 245, 250, 251, 252, 253, 256]
theorem t147 : FnS 147 [] [] fun v l' => v = .c (.is .u64 T147) ∧ l' = [] := by
  refine FnS.runF (b := 0) Proofs.Tryz.f147 rfl rfl rfl rfl rfl rfl ?_
  conv=>whnf
  exact ⟨rfl, [], rfl, trivial, rfl, rfl⟩
def T152 : List Int := [256, 156, 216, 240, 249, 253, 255, 256]
theorem t152 : FnS 152 [] [] fun v l' => v = .c (.is .u64 T152) ∧ l' = [] := by
  refine FnS.runF (b := 0) Proofs.Tryz.f152 rfl rfl rfl rfl rfl rfl ?_
  conv=>whnf
  exact ⟨rfl, [], rfl, trivial, rfl, rfl⟩
def T163 : List Int := [250, 3, 6, 3, 3, 3, 4, 3, 3, 3, 461]
theorem t163 : FnS 163 [] [] fun v l' => v = .c (.is .i64 T163) ∧ l' = [] := by
  refine FnS.runF (b := 0) Proofs.Tryz.f163 rfl rfl rfl rfl rfl rfl ?_
  conv=>whnf
  exact ⟨rfl, [], rfl, trivial, rfl, rfl⟩
def T164 : List Int := [100, 3, 40, 3, 3, 3, 5, 14, 14, 10, 11, 3, 8, 9, 7, 3, 347]
theorem t164 : FnS 164 [] [] fun v l' => v = .c (.is .i64 T164) ∧ l' = [] := by
  refine FnS.runF (b := 0) Proofs.Tryz.f164 rfl rfl rfl rfl rfl rfl ?_
  conv=>whnf
  exact ⟨rfl, [], rfl, trivial, rfl, rfl⟩
def T169 : List Int := [256, 13, 35, 64, 75, 256]
theorem t169 : FnS 169 [] [] fun v l' => v = .c (.is .u64 T169) ∧ l' = [] := by
  refine FnS.runF (b := 0) Proofs.Tryz.f169 rfl rfl rfl rfl rfl rfl ?_
  conv=>whnf
  exact ⟨rfl, [], rfl, trivial, rfl, rfl⟩
def T178 : List Int := [256, 77, 157, 256]
theorem t178 : FnS 178 [] [] fun v l' => v = .c (.is .u64 T178) ∧ l' = [] := by
  refine FnS.runF (b := 0) Proofs.Tryz.f178 rfl rfl rfl rfl rfl rfl ?_
  conv=>whnf
  exact ⟨rfl, [], rfl, trivial, rfl, rfl⟩
def T179 : List Int := [256, 185, 200, 213, 226, 235, 244, 250, 256]
theorem t179 : FnS 179 [] [] fun v l' => v = .c (.is .u64 T179) ∧ l' = [] := by
  refine FnS.runF (b := 0) Proofs.Tryz.f179 rfl rfl rfl rfl rfl rfl ?_
  conv=>whnf
  exact ⟨rfl, [], rfl, trivial, rfl, rfl⟩
def T180 : List Int := [256, 57, 91, 112, 132, 147, 160, 172, 185, 195, 205, 214, 224, 233, 241, 248, 256]
theorem t180 : FnS 180 [] [] fun v l' => v = .c (.is .u64 T180) ∧ l' = [] := by
  refine FnS.runF (b := 0) Proofs.Tryz.f180 rfl rfl rfl rfl rfl rfl ?_
  conv=>whnf
  exact ⟨rfl, [], rfl, trivial, rfl, rfl⟩
def T181 : List Int := [256, 15, 31, 45, 57, 69, 81, 92, 103, 114, 124, 133, 142, 151, 160, 168, 176, 184, 192, 199, 206, 212, 218, 223, 227, 232, 236, 240, 244, 247, 251, 254, 256]
theorem t181 : FnS 181 [] [] fun v l' => v = .c (.is .u64 T181) ∧ l' = [] := by
  refine FnS.runF (b := 0) Proofs.Tryz.f181 rfl rfl rfl rfl rfl rfl ?_
  conv=>whnf
  exact ⟨rfl, [], rfl, trivial, rfl, rfl⟩
def T185 : List Int := [256, 128, 192, 256]
theorem t185 : FnS 185 [] [] fun v l' => v = .c (.is .u64 T185) ∧ l' = [] := by
  refine FnS.runF (b := 0) Proofs.Tryz.f185 rfl rfl rfl rfl rfl rfl ?_
  conv=>whnf
  exact ⟨rfl, [], rfl, trivial, rfl, rfl⟩
def T186 : List Int := [256, 64, 128, 192, 256]
theorem t186 : FnS 186 [] [] fun v l' => v = .c (.is .u64 T186) ∧ l' = [] := by
  refine FnS.runF (b := 0) Proofs.Tryz.f186 rfl rfl rfl rfl rfl rfl ?_
  conv=>whnf
  exact ⟨rfl, [], rfl, trivial, rfl, rfl⟩
def T187 : List Int := [256, 33, 63, 99, 116, 150, 199, 217, 238, 256]
theorem t187 : FnS 187 [] [] fun v l' => v = .c (.is .u64 T187) ∧ l' = [] := by
  refine FnS.runF (b := 0) Proofs.Tryz.f187 rfl rfl rfl rfl rfl rfl ?_
  conv=>whnf
  exact ⟨rfl, [], rfl, trivial, rfl, rfl⟩
def T188 : List Int := [256, 15, 66, 78, 124, 169, 182, 215, 242, 256]
theorem t188 : FnS 188 [] [] fun v l' => v = .c (.is .u64 T188) ∧ l' = [] := by
  refine FnS.runF (b := 0) Proofs.Tryz.f188 rfl rfl rfl rfl rfl rfl ?_
  conv=>whnf
  exact ⟨rfl, [], rfl, trivial, rfl, rfl⟩
def T194 : List Int := [-13732, -10050, -8266, -7526, -6500, -5000, -2950, -820, 820, 2950, 5000, 6500, 7526, 8266, 10050, 13732]
theorem t194 : FnS 194 [] [] fun v l' => v = .c (.is .i32 T194) ∧ l' = [] := by
  refine FnS.runF (b := 0) Proofs.Tryz.f194 rfl rfl rfl rfl rfl rfl ?_
  conv=>whnf
  exact ⟨rfl, [], rfl, trivial, rfl, rfl⟩
def T205 : List Int := [4096, 4095, 4091, 4085, 4076, 4065, 4052, 4036, 4017, 3997, 3973, 3948, 3920, 3889, 3857, 3822, 3784, 3745, 3703, 3659, 3613, 3564, 3513, 3461, 3406, 3349, 3290, 3229, 3166, 3102, 3035, 2967, 2896, 2824, 2751, 2676, 2599, 2520, 2440, 2359, 2276, 2191, 2106, 2019, 1931, 1842, 1751, 1660, 1568, 1474, 1380, 1285, 1189, 1093, 995, 897, 799, 700, 601, 501, 401, 301, 201, 101, 0, -101, -201, -301, -401, -501, -601, -700, -799, -897, -995, -1093, -1189, -1285, -1380, -1474, -1568, -1660, -1751, -1842, -1931, -2019, -2106, -2191, -2276, -2359, -2440, -2520, -2599, -2676, -2751, -2824, -2896, -2967, -3035, -3102, -3166, -3229, -3290, -3349, -3406, -3461, -3513, -3564, -3613, -3659, -3703, -3745, -3784, -3822, -3857, -3889, -3920, -3948, -3973, -3997, -4017, -4036, -4052, -4065, -4076, -4085, -4091, -4095, -4096]
theorem t205 : FnS 205 [] [] fun v l' => v = .c (.is .i32 T205) ∧ l' = [] := by
  refine FnS.runF (b := 0) Proofs.Tryz.f205 rfl rfl rfl rfl rfl rfl ?_
  conv=>whnf
  exact ⟨rfl, [], rfl, trivial, rfl, rfl⟩
def T206 : List Int := [0, 9, 6, 3, 4, 5, 8, 1, 2, 7]
theorem t206 : FnS 206 [] [] fun v l' => v = .c (.is .u8 T206) ∧ l' = [] := by
  refine FnS.runF (b := 0) Proofs.Tryz.f206 rfl rfl rfl rfl rfl rfl ?_
  conv=>whnf
  exact ⟨rfl, [], rfl, trivial, rfl, rfl⟩
def T207 : List Int := [0, 15, 8, 7, 4, 11, 12, 3, 2, 13, 10, 5, 6, 9, 14, 1]
theorem t207 : FnS 207 [] [] fun v l' => v = .c (.is .u8 T207) ∧ l' = [] := by
  refine FnS.runF (b := 0) Proofs.Tryz.f207 rfl rfl rfl rfl rfl rfl ?_
  conv=>whnf
  exact ⟨rfl, [], rfl, trivial, rfl, rfl⟩
def T211 : List Int := [256, 64, 128, 192, 256]
theorem t211 : FnS 211 [] [] fun v l' => v = .c (.is .u64 T211) ∧ l' = [] := by
  refine FnS.runF (b := 0) Proofs.Tryz.f211 rfl rfl rfl rfl rfl rfl ?_
  conv=>whnf
  exact ⟨rfl, [], rfl, trivial, rfl, rfl⟩
def T212 : List Int := [256, 43, 85, 128, 171, 213, 256]
theorem t212 : FnS 212 [] [] fun v l' => v = .c (.is .u64 T212) ∧ l' = [] := by
  refine FnS.runF (b := 0) Proofs.Tryz.f212 rfl rfl rfl rfl rfl rfl ?_
  conv=>whnf
  exact ⟨rfl, [], rfl, trivial, rfl, rfl⟩
def T213 : List Int := [256, 32, 64, 96, 128, 160, 192, 224, 256]
theorem t213 : FnS 213 [] [] fun v l' => v = .c (.is .u64 T213) ∧ l' = [] := by
  refine FnS.runF (b := 0) Proofs.Tryz.f213 rfl rfl rfl rfl rfl rfl ?_
  conv=>whnf
  exact ⟨rfl, [], rfl, trivial, rfl, rfl⟩
def T214 : List Int := [256, 3, 6, 12, 23, 44, 74, 106, 125, 136, 146, 158, 171, 184, 196, 207, 216, 224, 231, 237, 241, 243, 245, 247, 248, 249, 250, 251, 252, 253, 254, 255, 256]
theorem t214 : FnS 214 [] [] fun v l' => v = .c (.is .u64 T214) ∧ l' = [] := by
  refine FnS.runF (b := 0) Proofs.Tryz.f214 rfl rfl rfl rfl rfl rfl ?_
  conv=>whnf
  exact ⟨rfl, [], rfl, trivial, rfl, rfl⟩
def T215 : List Int := [256, 46, 48, 50, 53, 57, 63, 73, 88, 114, 152, 182, 204, 219, 229, 236, 242, 246, 250, 252, 254, 256]
theorem t215 : FnS 215 [] [] fun v l' => v = .c (.is .u64 T215) ∧ l' = [] := by
  refine FnS.runF (b := 0) Proofs.Tryz.f215 rfl rfl rfl rfl rfl rfl ?_
  conv=>whnf
  exact ⟨rfl, [], rfl, trivial, rfl, rfl⟩
def T217 : List Int := [256, 143, 193, 256]
theorem t217 : FnS 217 [] [] fun v l' => v = .c (.is .u64 T217) ∧ l' = [] := by
  refine FnS.runF (b := 0) Proofs.Tryz.f217 rfl rfl rfl rfl rfl rfl ?_
  conv=>whnf
  exact ⟨rfl, [], rfl, trivial, rfl, rfl⟩
def T219 : List Int := [256, 68, 80, 101, 118, 137, 159, 189, 213, 230, 246, 256]
theorem t219 : FnS 219 [] [] fun v l' => v = .c (.is .u64 T219) ∧ l' = [] := by
  refine FnS.runF (b := 0) Proofs.Tryz.f219 rfl rfl rfl rfl rfl rfl ?_
  conv=>whnf
  exact ⟨rfl, [], rfl, trivial, rfl, rfl⟩
def T221 : List Int := [256, 91, 137, 176, 195, 209, 221, 229, 236, 242, 247, 252, 256]
theorem t221 : FnS 221 [] [] fun v l' => v = .c (.is .u64 T221) ∧ l' = [] := by
  refine FnS.runF (b := 0) Proofs.Tryz.f221 rfl rfl rfl rfl rfl rfl ?_
  conv=>whnf
  exact ⟨rfl, [], rfl, trivial, rfl, rfl⟩
def T223 : List Int := [256, 33, 55, 73, 89, 104, 118, 132, 145, 158, 168, 177, 186, 194, 200, 206, 212, 217, 221, 225, 229, 232, 235, 238, 240, 242, 244, 246, 248, 250, 252, 253, 254, 255, 256]
theorem t223 : FnS 223 [] [] fun v l' => v = .c (.is .u64 T223) ∧ l' = [] := by
  refine FnS.runF (b := 0) Proofs.Tryz.f223 rfl rfl rfl rfl rfl rfl ?_
  conv=>whnf
  exact ⟨rfl, [], rfl, trivial, rfl, rfl⟩
def T231 : List Int := [256, 136, 256]
theorem t231 : FnS 231 [] [] fun v l' => v = .c (.is .u64 T231) ∧ l' = [] := by
  refine FnS.runF (b := 0) Proofs.Tryz.f231 rfl rfl rfl rfl rfl rfl ?_
  conv=>whnf
  exact ⟨rfl, [], rfl, trivial, rfl, rfl⟩
def T232 : List Int := [256, 2, 256]
theorem t232 : FnS 232 [] [] fun v l' => v = .c (.is .u64 T232) ∧ l' = [] := by
  refine FnS.runF (b := 0) Proofs.Tryz.f232 rfl rfl rfl rfl rfl rfl ?_
  conv=>whnf
  exact ⟨rfl, [], rfl, trivial, rfl, rfl⟩
def T233 : List Int := [256, 207, 256]
theorem t233 : FnS 233 [] [] fun v l' => v = .c (.is .u64 T233) ∧ l' = [] := by
  refine FnS.runF (b := 0) Proofs.Tryz.f233 rfl rfl rfl rfl rfl rfl ?_
  conv=>whnf
  exact ⟨rfl, [], rfl, trivial, rfl, rfl⟩
def T234 : List Int := [256, 189, 256]
theorem t234 : FnS 234 [] [] fun v l' => v = .c (.is .u64 T234) ∧ l' = [] := by
  refine FnS.runF (b := 0) Proofs.Tryz.f234 rfl rfl rfl rfl rfl rfl ?_
  conv=>whnf
  exact ⟨rfl, [], rfl, trivial, rfl, rfl⟩
def T235 : List Int := [256, 179, 256]
theorem t235 : FnS 235 [] [] fun v l' => v = .c (.is .u64 T235) ∧ l' = [] := by
  refine FnS.runF (b := 0) Proofs.Tryz.f235 rfl rfl rfl rfl rfl rfl ?_
  conv=>whnf
  exact ⟨rfl, [], rfl, trivial, rfl, rfl⟩
def T236 : List Int := [256, 174, 256]
theorem t236 : FnS 236 [] [] fun v l' => v = .c (.is .u64 T236) ∧ l' = [] := by
  refine FnS.runF (b := 0) Proofs.Tryz.f236 rfl rfl rfl rfl rfl rfl ?_
  conv=>whnf
  exact ⟨rfl, [], rfl, trivial, rfl, rfl⟩
def T237 : List Int := [256, 163, 256]
theorem t237 : FnS 237 [] [] fun v l' => v = .c (.is .u64 T237) ∧ l' = [] := by
  refine FnS.runF (b := 0) Proofs.Tryz.f237 rfl rfl rfl rfl rfl rfl ?_
  conv=>whnf
  exact ⟨rfl, [], rfl, trivial, rfl, rfl⟩
def T238 : List Int := [256, 157, 256]
theorem t238 : FnS 238 [] [] fun v l' => v = .c (.is .u64 T238) ∧ l' = [] := by
  refine FnS.runF (b := 0) Proofs.Tryz.f238 rfl rfl rfl rfl rfl rfl ?_
  conv=>whnf
  exact ⟨rfl, [], rfl, trivial, rfl, rfl⟩
def T239 : List Int := [256, 58, 256]
theorem t239 : FnS 239 [] [] fun v l' => v = .c (.is .u64 T239) ∧ l' = [] := by
  refine FnS.runF (b := 0) Proofs.Tryz.f239 rfl rfl rfl rfl rfl rfl ?_
  conv=>whnf
  exact ⟨rfl, [], rfl, trivial, rfl, rfl⟩
def T240 : List Int := [256, 245, 256]
theorem t240 : FnS 240 [] [] fun v l' => v = .c (.is .u64 T240) ∧ l' = [] := by
  refine FnS.runF (b := 0) Proofs.Tryz.f240 rfl rfl rfl rfl rfl rfl ?_
  conv=>whnf
  exact ⟨rfl, [], rfl, trivial, rfl, rfl⟩
def T241 : List Int := [256, 238, 256]
theorem t241 : FnS 241 [] [] fun v l' => v = .c (.is .u64 T241) ∧ l' = [] := by
  refine FnS.runF (b := 0) Proofs.Tryz.f241 rfl rfl rfl rfl rfl rfl ?_
  conv=>whnf
  exact ⟨rfl, [], rfl, trivial, rfl, rfl⟩
def T242 : List Int := [256, 232, 256]
theorem t242 : FnS 242 [] [] fun v l' => v = .c (.is .u64 T242) ∧ l' = [] := by
  refine FnS.runF (b := 0) Proofs.Tryz.f242 rfl rfl rfl rfl rfl rfl ?_
  conv=>whnf
  exact ⟨rfl, [], rfl, trivial, rfl, rfl⟩
def T243 : List Int := [256, 225, 256]
theorem t243 : FnS 243 [] [] fun v l' => v = .c (.is .u64 T243) ∧ l' = [] := by
  refine FnS.runF (b := 0) Proofs.Tryz.f243 rfl rfl rfl rfl rfl rfl ?_
  conv=>whnf
  exact ⟨rfl, [], rfl, trivial, rfl, rfl⟩
def T244 : List Int := [256, 220, 256]
theorem t244 : FnS 244 [] [] fun v l' => v = .c (.is .u64 T244) ∧ l' = [] := by
  refine FnS.runF (b := 0) Proofs.Tryz.f244 rfl rfl rfl rfl rfl rfl ?_
  conv=>whnf
  exact ⟨rfl, [], rfl, trivial, rfl, rfl⟩
def T245 : List Int := [256, 211, 256]
theorem t245 : FnS 245 [] [] fun v l' => v = .c (.is .u64 T245) ∧ l' = [] := by
  refine FnS.runF (b := 0) Proofs.Tryz.f245 rfl rfl rfl rfl rfl rfl ?_
  conv=>whnf
  exact ⟨rfl, [], rfl, trivial, rfl, rfl⟩
def T246 : List Int := [256, 1, 256]
theorem t246 : FnS 246 [] [] fun v l' => v = .c (.is .u64 T246) ∧ l' = [] := by
  refine FnS.runF (b := 0) Proofs.Tryz.f246 rfl rfl rfl rfl rfl rfl ?_
  conv=>whnf
  exact ⟨rfl, [], rfl, trivial, rfl, rfl⟩
def T247 : List Int := [256, 210, 256]
theorem t247 : FnS 247 [] [] fun v l' => v = .c (.is .u64 T247) ∧ l' = [] := by
  refine FnS.runF (b := 0) Proofs.Tryz.f247 rfl rfl rfl rfl rfl rfl ?_
  conv=>whnf
  exact ⟨rfl, [], rfl, trivial, rfl, rfl⟩
def T248 : List Int := [256, 190, 256]
theorem t248 : FnS 248 [] [] fun v l' => v = .c (.is .u64 T248) ∧ l' = [] := by
  refine FnS.runF (b := 0) Proofs.Tryz.f248 rfl rfl rfl rfl rfl rfl ?_
  conv=>whnf
  exact ⟨rfl, [], rfl, trivial, rfl, rfl⟩
def T249 : List Int := [256, 178, 256]
theorem t249 : FnS 249 [] [] fun v l' => v = .c (.is .u64 T249) ∧ l' = [] := by
  refine FnS.runF (b := 0) Proofs.Tryz.f249 rfl rfl rfl rfl rfl rfl ?_
  conv=>whnf
  exact ⟨rfl, [], rfl, trivial, rfl, rfl⟩
def T250 : List Int := [256, 169, 256]
theorem t250 : FnS 250 [] [] fun v l' => v = .c (.is .u64 T250) ∧ l' = [] := by
  refine FnS.runF (b := 0) Proofs.Tryz.f250 rfl rfl rfl rfl rfl rfl ?_
  conv=>whnf
  exact ⟨rfl, [], rfl, trivial, rfl, rfl⟩
def T251 : List Int := [256, 162, 256]
theorem t251 : FnS 251 [] [] fun v l' => v = .c (.is .u64 T251) ∧ l' = [] := by
  refine FnS.runF (b := 0) Proofs.Tryz.f251 rfl rfl rfl rfl rfl rfl ?_
  conv=>whnf
  exact ⟨rfl, [], rfl, trivial, rfl, rfl⟩
def T252 : List Int := [256, 152, 256]
theorem t252 : FnS 252 [] [] fun v l' => v = .c (.is .u64 T252) ∧ l' = [] := by
  refine FnS.runF (b := 0) Proofs.Tryz.f252 rfl rfl rfl rfl rfl rfl ?_
  conv=>whnf
  exact ⟨rfl, [], rfl, trivial, rfl, rfl⟩
def T253 : List Int := [256, 48, 256]
theorem t253 : FnS 253 [] [] fun v l' => v = .c (.is .u64 T253) ∧ l' = [] := by
  refine FnS.runF (b := 0) Proofs.Tryz.f253 rfl rfl rfl rfl rfl rfl ?_
  conv=>whnf
  exact ⟨rfl, [], rfl, trivial, rfl, rfl⟩
def T254 : List Int := [256, 242, 256]
theorem t254 : FnS 254 [] [] fun v l' => v = .c (.is .u64 T254) ∧ l' = [] := by
  refine FnS.runF (b := 0) Proofs.Tryz.f254 rfl rfl rfl rfl rfl rfl ?_
  conv=>whnf
  exact ⟨rfl, [], rfl, trivial, rfl, rfl⟩
def T255 : List Int := [256, 235, 256]
theorem t255 : FnS 255 [] [] fun v l' => v = .c (.is .u64 T255) ∧ l' = [] := by
  refine FnS.runF (b := 0) Proofs.Tryz.f255 rfl rfl rfl rfl rfl rfl ?_
  conv=>whnf
  exact ⟨rfl, [], rfl, trivial, rfl, rfl⟩
def T256 : List Int := [256, 224, 256]
theorem t256 : FnS 256 [] [] fun v l' => v = .c (.is .u64 T256) ∧ l' = [] := by
  refine FnS.runF (b := 0) Proofs.Tryz.f256 rfl rfl rfl rfl rfl rfl ?_
  conv=>whnf
  exact ⟨rfl, [], rfl, trivial, rfl, rfl⟩
def T257 : List Int := [256, 214, 256]
theorem t257 : FnS 257 [] [] fun v l' => v = .c (.is .u64 T257) ∧ l' = [] := by
  refine FnS.runF (b := 0) Proofs.Tryz.f257 rfl rfl rfl rfl rfl rfl ?_
  conv=>whnf
  exact ⟨rfl, [], rfl, trivial, rfl, rfl⟩
def T258 : List Int := [256, 205, 256]
theorem t258 : FnS 258 [] [] fun v l' => v = .c (.is .u64 T258) ∧ l' = [] := by
  refine FnS.runF (b := 0) Proofs.Tryz.f258 rfl rfl rfl rfl rfl rfl ?_
  conv=>whnf
  exact ⟨rfl, [], rfl, trivial, rfl, rfl⟩
def T259 : List Int := [256, 190, 256]
theorem t259 : FnS 259 [] [] fun v l' => v = .c (.is .u64 T259) ∧ l' = [] := by
  refine FnS.runF (b := 0) Proofs.Tryz.f259 rfl rfl rfl rfl rfl rfl ?_
  conv=>whnf
  exact ⟨rfl, [], rfl, trivial, rfl, rfl⟩
def T260 : List Int := [256, 1, 256]
theorem t260 : FnS 260 [] [] fun v l' => v = .c (.is .u64 T260) ∧ l' = [] := by
  refine FnS.runF (b := 0) Proofs.Tryz.f260 rfl rfl rfl rfl rfl rfl ?_
  conv=>whnf
  exact ⟨rfl, [], rfl, trivial, rfl, rfl⟩
def T261 : List Int := [256, 162, 256]
theorem t261 : FnS 261 [] [] fun v l' => v = .c (.is .u64 T261) ∧ l' = [] := by
  refine FnS.runF (b := 0) Proofs.Tryz.f261 rfl rfl rfl rfl rfl rfl ?_
  conv=>whnf
  exact ⟨rfl, [], rfl, trivial, rfl, rfl⟩
def T262 : List Int := [256, 152, 256]
theorem t262 : FnS 262 [] [] fun v l' => v = .c (.is .u64 T262) ∧ l' = [] := by
  refine FnS.runF (b := 0) Proofs.Tryz.f262 rfl rfl rfl rfl rfl rfl ?_
  conv=>whnf
  exact ⟨rfl, [], rfl, trivial, rfl, rfl⟩
def T263 : List Int := [256, 147, 256]
theorem t263 : FnS 263 [] [] fun v l' => v = .c (.is .u64 T263) ∧ l' = [] := by
  refine FnS.runF (b := 0) Proofs.Tryz.f263 rfl rfl rfl rfl rfl rfl ?_
  conv=>whnf
  exact ⟨rfl, [], rfl, trivial, rfl, rfl⟩
def T264 : List Int := [256, 144, 256]
theorem t264 : FnS 264 [] [] fun v l' => v = .c (.is .u64 T264) ∧ l' = [] := by
  refine FnS.runF (b := 0) Proofs.Tryz.f264 rfl rfl rfl rfl rfl rfl ?_
  conv=>whnf
  exact ⟨rfl, [], rfl, trivial, rfl, rfl⟩
def T265 : List Int := [256, 141, 256]
theorem t265 : FnS 265 [] [] fun v l' => v = .c (.is .u64 T265) ∧ l' = [] := by
  refine FnS.runF (b := 0) Proofs.Tryz.f265 rfl rfl rfl rfl rfl rfl ?_
  conv=>whnf
  exact ⟨rfl, [], rfl, trivial, rfl, rfl⟩
def T266 : List Int := [256, 138, 256]
theorem t266 : FnS 266 [] [] fun v l' => v = .c (.is .u64 T266) ∧ l' = [] := by
  refine FnS.runF (b := 0) Proofs.Tryz.f266 rfl rfl rfl rfl rfl rfl ?_
  conv=>whnf
  exact ⟨rfl, [], rfl, trivial, rfl, rfl⟩
def T267 : List Int := [256, 8, 256]
theorem t267 : FnS 267 [] [] fun v l' => v = .c (.is .u64 T267) ∧ l' = [] := by
  refine FnS.runF (b := 0) Proofs.Tryz.f267 rfl rfl rfl rfl rfl rfl ?_
  conv=>whnf
  exact ⟨rfl, [], rfl, trivial, rfl, rfl⟩
def T268 : List Int := [256, 203, 256]
theorem t268 : FnS 268 [] [] fun v l' => v = .c (.is .u64 T268) ∧ l' = [] := by
  refine FnS.runF (b := 0) Proofs.Tryz.f268 rfl rfl rfl rfl rfl rfl ?_
  conv=>whnf
  exact ⟨rfl, [], rfl, trivial, rfl, rfl⟩
def T269 : List Int := [256, 187, 256]
theorem t269 : FnS 269 [] [] fun v l' => v = .c (.is .u64 T269) ∧ l' = [] := by
  refine FnS.runF (b := 0) Proofs.Tryz.f269 rfl rfl rfl rfl rfl rfl ?_
  conv=>whnf
  exact ⟨rfl, [], rfl, trivial, rfl, rfl⟩
def T270 : List Int := [256, 176, 256]
theorem t270 : FnS 270 [] [] fun v l' => v = .c (.is .u64 T270) ∧ l' = [] := by
  refine FnS.runF (b := 0) Proofs.Tryz.f270 rfl rfl rfl rfl rfl rfl ?_
  conv=>whnf
  exact ⟨rfl, [], rfl, trivial, rfl, rfl⟩
def T271 : List Int := [256, 168, 256]
theorem t271 : FnS 271 [] [] fun v l' => v = .c (.is .u64 T271) ∧ l' = [] := by
  refine FnS.runF (b := 0) Proofs.Tryz.f271 rfl rfl rfl rfl rfl rfl ?_
  conv=>whnf
  exact ⟨rfl, [], rfl, trivial, rfl, rfl⟩
def T272 : List Int := [256, 161, 256]
theorem t272 : FnS 272 [] [] fun v l' => v = .c (.is .u64 T272) ∧ l' = [] := by
  refine FnS.runF (b := 0) Proofs.Tryz.f272 rfl rfl rfl rfl rfl rfl ?_
  conv=>whnf
  exact ⟨rfl, [], rfl, trivial, rfl, rfl⟩
def T273 : List Int := [256, 154, 256]
theorem t273 : FnS 273 [] [] fun v l' => v = .c (.is .u64 T273) ∧ l' = [] := by
  refine FnS.runF (b := 0) Proofs.Tryz.f273 rfl rfl rfl rfl rfl rfl ?_
  conv=>whnf
  exact ⟨rfl, [], rfl, trivial, rfl, rfl⟩
end Go.SX
