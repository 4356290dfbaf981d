/- A part of the proof: the SILK decoder of the given program, walked by an executor that is proved sound. No statement of the program is proved in this text. -/
import Derived.Test.YtojdfjohmicopaaGreatDoorL18
set_option linter.all false
set_option maxRecDepth 100000
namespace Go.SX
open Go
theorem f314 (d cap : Nat) (xs : List Int) (a b s : Int) (hd : d ≤ 16 ∧ d ≤ xs.length) (hab : 0 ≤ a ∧ a < d ∧ 0 ≤ b ∧ b < d) : FnS 314 [.c (.sl 0 0 d cap), .c (.i .i64 a), .c (.i .i64 b), .c (.p 1 0)] [some (.ar false .i16 xs), some (.st [.i .i64 s])] fun v l' => ∃ x y s' : Int, v = .tu [.c (.i .i64 x), .c (.i .i64 y)] ∧ l' = [some (.ar false .i16 xs), some (.st [.i .i64 s'])] ∧ ((x = a ∧ y = b) ∨ (x = b ∧ y = a)) := by
  refine FnS.run (b := 2) Proofs.Tryz.f314 rfl rfl rfl rfl rfl rfl ?_
  conv=>whnf
  refine .inl ⟨by kernel_rfl, ?_⟩
  conv=>whnf
  repeat (first
      | (refine ⟨fun _=>?_, fun h => absurd h (by decide)⟩; conv=>whnf)
      | (refine ⟨fun h => absurd h (by decide), fun _=>?_⟩; conv=>whnf)
      | (refine ⟨by first | decide | omega | (simp only [List.length_set]; omega), ?_⟩; conv=>whnf))
  refine CallQ.use [] (f284 _ _) rfl rfl trivial ?_
  rintro v l' ⟨rfl, rfl⟩
  conv=>whnf
  refine ⟨fun _=>?_, fun _=>?_⟩
  · conv=>whnf
    exact ⟨[some (.ar false .i16 xs), some (.st [.i .i64 _])], rfl, ⟨rfl, rfl, trivial⟩, b, a, _, rfl, rfl, .inr ⟨rfl, rfl⟩⟩
  · conv=>whnf
    exact ⟨[some (.ar false .i16 xs), some (.st [.i .i64 s])], rfl, ⟨rfl, rfl, trivial⟩, a, b, s, rfl, rfl, .inl ⟨rfl, rfl⟩⟩
theorem f302 (d cap : Nat) (xs : List Int) (a b c s : Int) (hd : d ≤ 16 ∧ d ≤ xs.length) (ha : 0 ≤ a ∧ a < d) (hb : 0 ≤ b ∧ b < d) (hc : 0 ≤ c ∧ c < d) : FnS 302 [.c (.sl 0 0 d cap), .c (.i .i64 a), .c (.i .i64 b), .c (.i .i64 c), .c (.p 1 0)] [some (.ar false .i16 xs), some (.st [.i .i64 s])] fun v l' => ∃ x s' : Int, v = .c (.i .i64 x) ∧ l' = [some (.ar false .i16 xs), some (.st [.i .i64 s'])] ∧ (x = a ∨ x = b ∨ x = c) := by
  refine FnS.run (b := 2) Proofs.Tryz.f302 rfl rfl rfl rfl rfl rfl ?_
  conv=>whnf
  refine CallQ.use [0, 1] (f314 d cap xs _ _ _ hd (by omega)) rfl rfl ⟨rfl, rfl, trivial⟩ ?_
  rintro v l' ⟨x1, y1, s1, rfl, rfl, h1⟩
  conv=>whnf
  refine CallQ.use [0, 1] (f314 d cap xs _ _ _ hd (by omega)) rfl rfl ⟨rfl, rfl, trivial⟩ ?_
  rintro v l' ⟨x2, y2, s2, rfl, rfl, h2⟩
  conv=>whnf
  refine CallQ.use [0, 1] (f314 d cap xs _ _ _ hd (by omega)) rfl rfl ⟨rfl, rfl, trivial⟩ ?_
  rintro v l' ⟨x3, y3, s3, rfl, rfl, h3⟩
  conv=>whnf
  exact ⟨[some (.ar false .i16 xs), some (.st [.i .i64 s3])], rfl, ⟨rfl, rfl, trivial⟩, y3, s3, rfl, rfl, by omega⟩
theorem quo4 {n : Int} (h : 13 ≤ n ∧ n ≤ 16) : IntKind.i64.wrap (n.tdiv 4) = n / 4 := IntWalk.i64_quo _ _ (by omega)
theorem f281 (d cap : Nat) (xs : List Int) (a b : Int) (hd : d ≤ 16 ∧ d ≤ xs.length) (hab : 0 ≤ a ∧ 12 < b - a ∧ b ≤ d) : FnS 281 [.c (.sl 0 0 d cap), .c (.i .i64 a), .c (.i .i64 b)] [some (.ar false .i16 xs)] fun v l' => ∃ p h : Int, v = .tu [.c (.i .i64 p), .c (.i .i64 h)] ∧ l' = [some (.ar false .i16 xs)] ∧ (a ≤ p ∧ p < b) := by
  have en : IntKind.i64.wrap (b - a) = b - a := IntWalk.i64_in _ (by omega)
  have eq := quo4 (n := b - a) (by omega)
  refine FnS.run (b := 1) Proofs.Tryz.f281 rfl rfl rfl rfl rfl rfl ?_
  conv=>whnf
  rw [en]
  refine ⟨by decide, ?_⟩
  conv=>whnf
  try rw [eq]
  refine ⟨by decide, ?_⟩
  conv=>whnf
  try rw [eq]
  refine ⟨by decide, ?_⟩
  conv=>whnf
  try rw [eq]
  have k1 : IntKind.i64.wrap ((b - a) / 4 * 1) = (b - a) / 4 := by rw [IntWalk.i64_in _ (by omega)]; omega
  have k2 : IntKind.i64.wrap ((b - a) / 4 * 2) = (b - a) / 4 * 2 := IntWalk.i64_in _ (by omega)
  have k3 : IntKind.i64.wrap ((b - a) / 4 * 3) = (b - a) / 4 * 3 := IntWalk.i64_in _ (by omega)
  have j1 : IntKind.i64.wrap (a + IntKind.i64.wrap ((b - a) / 4 * 1)) = a + (b - a) / 4 := by rw [k1]; exact IntWalk.i64_in _ (by omega)
  have j2 : IntKind.i64.wrap (a + IntKind.i64.wrap ((b - a) / 4 * 2)) = a + (b - a) / 4 * 2 := by rw [k2]; exact IntWalk.i64_in _ (by omega)
  have j3 : IntKind.i64.wrap (a + IntKind.i64.wrap ((b - a) / 4 * 3)) = a + (b - a) / 4 * 3 := by rw [k3]; exact IntWalk.i64_in _ (by omega)
  refine ⟨fun _=>?_, fun h => absurd (of_decide_eq_false h) (by omega)⟩
  conv=>whnf
  refine ⟨fun h => absurd (of_decide_eq_true h) (by omega), fun _=>?_⟩
  conv=>whnf
  refine CallQ.use [0, 1] (f302 d cap xs _ _ _ _ hd (by rw [j1]; omega) (by rw [j2]; omega) (by rw [j3]; omega)) rfl rfl ⟨rfl, rfl, trivial⟩ ?_
  rintro v l' ⟨x, s, rfl, rfl, hx⟩
  rw [j1, j2, j3] at hx
  conv=>whnf
  refine ⟨fun _=>?_, fun _=>?_⟩
  · conv=>whnf
    exact ⟨[some (.ar false .i16 xs)], rfl, ⟨rfl, trivial⟩, x, _, rfl, rfl, by omega⟩
  · conv=>whnf
    refine ⟨fun _=>?_, fun _=>?_⟩
    · conv=>whnf
      exact ⟨[some (.ar false .i16 xs)], rfl, ⟨rfl, trivial⟩, x, _, rfl, rfl, by omega⟩
    · conv=>whnf
      exact ⟨[some (.ar false .i16 xs)], rfl, ⟨rfl, trivial⟩, x, _, rfl, rfl, by omega⟩
theorem f300 (s : Int) : FnS 300 [.c (.p 0 0)] [some (.st [.i .u64 s])] fun v l' => ∃ x : Int, v = .c (.i .u64 x) ∧ l' = [some (.st [.i .u64 x])] := by
  refine FnS.run (b := 1) Proofs.Tryz.f300 rfl rfl rfl rfl rfl rfl ?_
  conv=>whnf
  refine .inl ⟨by kernel_rfl, ?_⟩
  conv=>whnf
  refine ⟨by decide, ?_⟩
  conv=>whnf
  refine .inl ⟨by kernel_rfl, ?_⟩
  conv=>whnf
  refine ⟨by decide, ?_⟩
  conv=>whnf
  refine .inl ⟨by kernel_rfl, ?_⟩
  conv=>whnf
  refine ⟨by decide, ?_⟩
  conv=>whnf
  exact ⟨[some (.st [.i .u64 _])], rfl, ⟨rfl, trivial⟩, _, rfl, rfl⟩
theorem f130 (x : Nat) (hx : x < 17) : FnS 130 [.c (.i .u64 x)] [] fun v l' => ∃ r : Int, v = .c (.i .i64 r) ∧ l' = [] ∧ (0 ≤ r ∧ r ≤ 5) ∧ (13 ≤ x → (r = 4 ∧ x < 16) ∨ (r = 5 ∧ x = 16)) := by
  refine FnS.run (b := 0) Proofs.Tryz.f130 rfl rfl rfl rfl rfl rfl ?_
  conv=>whnf
  refine ⟨fun h => absurd (of_decide_eq_true h) (by omega), fun _=>?_⟩
  conv=>whnf
  refine ⟨fun h => absurd (of_decide_eq_true h) (by omega), fun _=>?_⟩
  conv=>whnf
  refine ⟨fun h => absurd (of_decide_eq_true h) (by omega), fun _=>?_⟩
  conv=>whnf
  refine ⟨by have : IntKind.u8.wrap (x : Int) = x := IntWalk.u8_in _ (by omega); rw [this]; constructor; omega; show (x : Int) < 256; omega, ?_⟩
  conv=>whnf
  refine ⟨[], rfl, trivial, _, rfl, rfl, ?_⟩
  rename_i h1 h2 h3
  clear h1 h2 h3
  revert x
  decide +kernel
theorem f204 (x : Nat) (hx : x < 17) : FnS 204 [.c (.i .u64 x)] [] fun v l' => ∃ r : Int, v = .c (.i .i64 r) ∧ l' = [] ∧ (0 ≤ r ∧ r ≤ 5) ∧ (13 ≤ x → (r = 4 ∧ x < 16) ∨ (r = 5 ∧ x = 16)) := by
  refine FnS.run (b := 0) Proofs.Tryz.f204 rfl rfl rfl rfl rfl rfl ?_
  conv=>whnf
  refine ⟨fun h => absurd h (by decide), fun _=>?_⟩
  conv=>whnf
  refine CallQ.use [] (f130 x hx) rfl rfl trivial ?_
  rintro v l' ⟨r, rfl, rfl, h1⟩
  conv=>whnf
  exact ⟨[], rfl, trivial, r, rfl, rfl, h1⟩
theorem f299 (x : Nat) (hx : 13 ≤ x ∧ x < 17) : FnS 299 [.c (.i .i64 x)] [] fun v l' => ∃ r : Int, v = .c (.i .u64 r) ∧ l' = [] ∧ ((r = 16 ∧ x < 16) ∨ (r = 32 ∧ x = 16)) := by
  refine FnS.run (b := 0) Proofs.Tryz.f299 rfl rfl rfl rfl rfl rfl ?_
  conv=>whnf
  rw [IntWalk.u64_in _ (by omega)]
  refine CallQ.use [] (f204 x (by omega)) rfl rfl trivial ?_
  rintro v l' ⟨r, rfl, rfl, h1, h2⟩
  conv=>whnf
  refine ⟨h1.1, ?_⟩
  conv=>whnf
  refine ⟨[], rfl, trivial, _, rfl, rfl, ?_⟩
  rcases h2 hx.1 with ⟨rfl, h⟩ | ⟨rfl, h⟩
  · exact .inl ⟨by decide, h⟩
  · exact .inr ⟨by decide, h⟩
theorem f280 (d cap : Nat) (xs : List Int) (a b : Int) (hd : d ≤ 16 ∧ d ≤ xs.length) (hab : 0 ≤ a ∧ 12 < b - a ∧ b ≤ d) : FnS 280 [.c (.sl 0 0 d cap), .c (.i .i64 a), .c (.i .i64 b)] [some (.ar false .i16 xs)] fun v l' => ∃ ys, v = .tu [] ∧ l' = [some (.ar false .i16 ys)] ∧ Srt d xs ys := by
  obtain ⟨n, hn⟩ : ∃ n : Nat, b - a = n := ⟨(b - a).toNat, by omega⟩
  have en : IntKind.i64.wrap (b - a) = n := by rw [IntWalk.i64_in _ (by omega)]; exact hn
  have eq := quo4 (n := (n : Int)) (by omega)
  have k2 : IntKind.i64.wrap ((n : Int) / 4 * 2) = n / 4 * 2 := IntWalk.i64_in _ (by omega)
  have k3 : IntKind.i64.wrap (a + (n : Int) / 4 * 2) = a + n / 4 * 2 := IntWalk.i64_in _ (by omega)
  have k4 : IntKind.i64.wrap (a + (n : Int) / 4 * 2 - 1) = a + n / 4 * 2 - 1 := IntWalk.i64_in _ (by omega)
  have k5 : IntKind.i64.wrap (a + (n : Int) / 4 * 2 + 1) = a + n / 4 * 2 + 1 := IntWalk.i64_in _ (by omega)
  refine FnS.run (b := 1) Proofs.Tryz.f280 rfl rfl rfl rfl rfl rfl ?_
  conv=>whnf
  rw [en]
  refine ⟨fun _=>?_, fun h => absurd (of_decide_eq_false h) (by omega)⟩
  conv=>whnf
  refine CallQ.use [] (f299 n (by omega)) rfl rfl trivial ?_
  rintro v l' ⟨M, rfl, rfl, hM⟩
  conv=>whnf
  refine ⟨by decide, ?_⟩
  rw [eq]
  conv=>whnf
  rw [k2, k3, k4]
  refine WpS.loop (ι := Int × Int × List Int) (fun x => mkSt [(0, .c (.sl 0 0 d cap)), (1, .c (.i .i64 a)), (6, .c (.i .i64 n)), (7, .c (.p 1 0)), (8, .c (.i .u64 M)), (9, .c (.i .i64 x.1))] [some (.ar false .i16 x.2.2), some (.st [.i .u64 x.2.1])] 65) (fun x => (a + n / 4 * 2 - 1 ≤ x.1 ∧ x.1 ≤ a + n / 4 * 2 + 2) ∧ Srt d xs x.2.2) (fun x => (a + n / 4 * 2 + 2 - x.1).toNat) (a + n / 4 * 2 - 1, IntKind.u64.wrap n, xs) ⟨by dsimp only; omega, .refl _ _⟩ (Ren.relOf [] rfl (by repeat constructor) ⟨rfl, rfl, trivial⟩) ?_
  rintro ⟨i, s, ys⟩ ⟨hi, hs⟩
  dsimp only at hi hs ⊢
  have hsl := hs.1
  have ei : IntKind.i64.wrap (i + 1) = i + 1 := IntWalk.i64_in _ (by omega)
  refine VC_ok ?_
  conv=>whnf
  refine ⟨by decide, ?_⟩
  rw [eq]
  conv=>whnf
  rw [k2, k3, k5]
  refine ⟨fun hc => ?_, fun hc => ?_⟩
  · have hc := of_decide_eq_true hc
    conv=>whnf
    refine CallQ.use [1] (f300 s) rfl rfl ⟨rfl, trivial⟩ ?_
    rintro v l' ⟨r, rfl, rfl⟩
    conv=>whnf
    have hm : IntKind.u64.wrap (M - 1) = M - 1 := IntWalk.u64_in _ (by omega)
    rw [hm]
    have hb := and_mask .u64 r (M - 1) (by omega) (by show M - 1 ≤ 18446744073709551615; omega)
    generalize bits .and .u64 r (M - 1) = o at hb
    have ho : IntKind.i64.wrap o = o := IntWalk.i64_in _ (by omega)
    rw [ho]
    have ho2 : IntKind.i64.wrap (o - n) = o - n := IntWalk.i64_in _ (by omega)
    refine ⟨fun hc2 => ?_, fun hc2 => ?_⟩
    · have hc2 := of_decide_eq_true hc2
      conv=>whnf
      rw [ho2]
      have ho3 : IntKind.i64.wrap (a + (o - n)) = a + (o - n) := IntWalk.i64_in _ (by omega)
      refine .inl ⟨by kernel_rfl, ?_⟩
      conv=>whnf
      repeat (first
          | (refine ⟨fun _=>?_, fun h => absurd h (by decide)⟩; conv=>whnf)
          | (refine ⟨fun h => absurd h (by decide), fun _=>?_⟩; conv=>whnf)
          | (refine ⟨by first | decide | omega | (simp only [List.length_set]; omega), ?_⟩; conv=>whnf))
      exact ⟨(IntKind.i64.wrap (i + 1), r, ((ys.set (0 + (i).toNat) (ys.getD (0 + (IntKind.i64.wrap (a + (o - n))).toNat) 0)).set (0 + (IntKind.i64.wrap (a + (o - n))).toNat) (ys.getD (0 + (i).toNat) 0))), ⟨by dsimp only; omega, hs.swap hd.2 (by omega) (by omega)⟩, by dsimp only; omega, Ren.relOf [] rfl (by repeat constructor) ⟨rfl, rfl, trivial⟩⟩
    · have hc2 := of_decide_eq_false hc2
      conv=>whnf
      have ho3 : IntKind.i64.wrap (a + o) = a + o := IntWalk.i64_in _ (by omega)
      refine .inl ⟨by kernel_rfl, ?_⟩
      conv=>whnf
      repeat (first
          | (refine ⟨fun _=>?_, fun h => absurd h (by decide)⟩; conv=>whnf)
          | (refine ⟨fun h => absurd h (by decide), fun _=>?_⟩; conv=>whnf)
          | (refine ⟨by first | decide | omega | (simp only [List.length_set]; omega), ?_⟩; conv=>whnf))
      exact ⟨(IntKind.i64.wrap (i + 1), r, ((ys.set (0 + (i).toNat) (ys.getD (0 + (IntKind.i64.wrap (a + o)).toNat) 0)).set (0 + (IntKind.i64.wrap (a + o)).toNat) (ys.getD (0 + (i).toNat) 0))), ⟨by dsimp only; omega, hs.swap hd.2 (by omega) (by omega)⟩, by dsimp only; omega, Ren.relOf [] rfl (by repeat constructor) ⟨rfl, rfl, trivial⟩⟩
  · conv=>whnf
    refine ⟨rfl, ?_⟩
    conv=>whnf
    exact ⟨[some (.ar false .i16 ys)], rfl, ⟨rfl, trivial⟩, ys, rfl, rfl, hs⟩
theorem f203 : ∀ (n d cap : Nat) (xs : List Int) (a b lim : Int), (d ≤ 16 ∧ d ≤ xs.length) → (0 ≤ a ∧ a ≤ b ∧ b ≤ d) → (0 ≤ lim ∧ lim ≤ 5) → (b - a).toNat = n → FnS 203 [.c (.sl 0 0 d cap), .c (.i .i64 a), .c (.i .i64 b), .c (.i .i64 lim)] [some (.ar false .i16 xs)] fun v l' => ∃ ys, v = .tu [] ∧ l' = [some (.ar false .i16 ys)] ∧ Srt d xs ys := by
  intro n
  induction n using Nat.strongRecOn with
  | _ n ih =>
  intro d cap xs a b lim hd hab hlim hn
  refine FnS.run (b := 1) Proofs.Tryz.f203 rfl rfl rfl rfl rfl rfl ?_
  conv=>whnf
  refine WpS.loop (ι := Int × Int × Int × Bool × Bool × List Int) (fun x => mkSt [(0, .c (.sl 0 0 d cap)), (1, .c (.i .i64 x.1)), (2, .c (.i .i64 x.2.1)), (3, .c (.i .i64 x.2.2.1)), (8, .c (.b x.2.2.2.1)), (9, .c (.b x.2.2.2.2.1))] [some (.ar false .i16 x.2.2.2.2.2)] 134)
    (fun x => (0 ≤ x.1 ∧ x.1 ≤ x.2.1 ∧ x.2.1 ≤ d ∧ (x.2.1 - x.1).toNat ≤ n) ∧ (0 ≤ x.2.2.1 ∧ x.2.2.1 ≤ 5) ∧ Srt d xs x.2.2.2.2.2) (fun x => (x.2.1 - x.1).toNat) (a, b, lim, true, true, xs) ⟨by dsimp only; omega, hlim, .refl _ _⟩ (Ren.relOf [] rfl (by repeat constructor) ⟨rfl, trivial⟩) ?_
  clear hab hlim hn a b lim
  rintro ⟨a, b, lim, wb, wp, ys⟩ ⟨hab, hlim, hs⟩
  dsimp only at hab hlim hs ⊢
  have hsl := hs.1
  have en : IntKind.i64.wrap (b - a) = b - a := IntWalk.i64_in _ (by omega)
  refine WpN.toS (WpN.block (WpN.seq (WpN.vc ?_)))
  conv=>whnf
  rw [en]
  refine WpN.seq (WpN.vc ?_)
  conv=>whnf
  refine ⟨fun _=>?_, fun hc => ?_⟩
  · conv=>whnf
    refine CallQ.use0 (f278 d cap ys _ _ (by omega) (by omega)) (by rfl) ?_
    rintro v b' ⟨zs, rfl, rfl, h2⟩
    conv=>whnf
    refine ⟨rfl, ?_⟩
    conv=>whnf
    exact ⟨[some (.ar false .i16 zs)], rfl, ⟨rfl, trivial⟩, zs, rfl, rfl, hs.trans h2⟩
  have hc := of_decide_eq_false hc
  conv=>whnf
  refine WpN.seq (WpN.vc ?_)
  conv=>whnf
  refine ⟨fun _=>?_, fun hc0 => ?_⟩
  · conv=>whnf
    refine CallQ.use0 (f279 d cap ys _ _ (by omega) (by omega)) (by rfl) ?_
    rintro v b' ⟨zs, rfl, rfl, h2⟩
    conv=>whnf
    refine ⟨rfl, ?_⟩
    conv=>whnf
    exact ⟨[some (.ar false .i16 zs)], rfl, ⟨rfl, trivial⟩, zs, rfl, rfl, hs.trans h2⟩
  have hc0 : lim ≠ 0 := by simpa using hc0
  conv=>whnf
  refine WpN.cut (ι := Int × List Int) (fun x => [(0, .c (.sl 0 0 d cap)), (1, .c (.i .i64 a)), (2, .c (.i .i64 b)), (3, .c (.i .i64 x.1)), (8, .c (.b wb)), (9, .c (.b wp)), (10, .c (.i .i64 (b - a)))]) (fun x => [some (.ar false .i16 x.2)]) (fun x => (0 ≤ x.1 ∧ x.1 ≤ 5) ∧ Srt d xs x.2) (WpN.vc ?_) ?_
  · conv=>whnf
    refine ⟨fun _=>?_, fun _=>?_⟩
    · conv=>whnf
      refine CallQ.use [0] (f280 d cap ys _ _ (by omega) (by omega)) rfl rfl ⟨rfl, trivial⟩ ?_
      rintro v l' ⟨zs, rfl, rfl, h2⟩
      conv=>whnf
      have el : IntKind.i64.wrap (lim - 1) = lim - 1 := IntWalk.i64_in _ (by omega)
      exact ⟨(IntKind.i64.wrap (lim - 1), zs), ⟨by dsimp only; omega, hs.trans h2⟩, Ren.relOf [] rfl (by repeat constructor) ⟨rfl, trivial⟩⟩
    · conv=>whnf
      exact ⟨(lim, ys), ⟨hlim, hs⟩, Ren.relOf [] rfl (by repeat constructor) ⟨rfl, trivial⟩⟩
  clear hs hsl ys hlim hc0
  rintro ⟨lim, ys⟩ ⟨hlim, hs⟩
  dsimp only at hlim hs ⊢
  have hsl := hs.1
  refine WpN.seq (WpN.vc ?_)
  conv=>whnf
  refine CallQ.use [0] (f281 d cap ys _ _ (by omega) (by omega)) rfl rfl ⟨rfl, trivial⟩ ?_
  rintro v l' ⟨p, hh, rfl, rfl, hp⟩
  conv=>whnf
  refine WpN.cut (ι := Int × Int × List Int) (fun x => [(0, .c (.sl 0 0 d cap)), (1, .c (.i .i64 a)), (2, .c (.i .i64 b)), (3, .c (.i .i64 lim)), (8, .c (.b wb)), (9, .c (.b wp)), (10, .c (.i .i64 (b - a))), (11, .c (.i .i64 x.1)), (12, .c (.i .i64 x.2.1))]) (fun x => [some (.ar false .i16 x.2.2)]) (fun x => (a ≤ x.1 ∧ x.1 < b) ∧ Srt d xs x.2.2) (WpN.vc ?_) ?_
  · conv=>whnf
    refine ⟨fun _=>?_, fun _=>?_⟩
    · conv=>whnf
      refine CallQ.use0 (f282 d cap ys _ _ (by omega) (by omega)) (by rfl) ?_
      rintro v b' ⟨zs, rfl, rfl, h2⟩
      conv=>whnf
      have e1 : IntKind.i64.wrap (b - 1) = b - 1 := IntWalk.i64_in _ (by omega)
      have e2 : IntKind.i64.wrap (p - a) = p - a := IntWalk.i64_in _ (by omega)
      have e3 : IntKind.i64.wrap (IntKind.i64.wrap (b - 1) - IntKind.i64.wrap (p - a)) = b - 1 - (p - a) := by rw [e1, e2]; exact IntWalk.i64_in _ (by omega)
      exact ⟨(IntKind.i64.wrap (IntKind.i64.wrap (b - 1) - IntKind.i64.wrap (p - a)), 1, zs), ⟨by dsimp only; omega, hs.trans h2⟩, Ren.relOf [] rfl (by repeat constructor) ⟨rfl, trivial⟩⟩
    · conv=>whnf
      exact ⟨(p, hh, ys), ⟨hp, hs⟩, Ren.relOf [] rfl (by repeat constructor) ⟨rfl, trivial⟩⟩
  clear hs hsl hp p hh ys
  rintro ⟨p, hh, ys⟩ ⟨hp, hs⟩
  dsimp only at hp hs ⊢
  have hsl := hs.1
  refine WpN.cut (ι := List Int) (fun x => [(0, .c (.sl 0 0 d cap)), (1, .c (.i .i64 a)), (2, .c (.i .i64 b)), (3, .c (.i .i64 lim)), (8, .c (.b wb)), (9, .c (.b wp)), (10, .c (.i .i64 (b - a))), (11, .c (.i .i64 p))]) (fun x => [some (.ar false .i16 x)]) (fun x => Srt d xs x) (WpN.vc ?_) ?_
  · conv=>whnf
    cases wb <;> cases wp <;> conv=>whnf
    all_goals
      repeat (first
          | (refine ⟨fun _=>?_, fun h => absurd h (by decide)⟩; conv=>whnf)
          | (refine ⟨fun h => absurd h (by decide), fun _=>?_⟩; conv=>whnf))
    all_goals first
      | exact ⟨ys, hs, Ren.relOf [] rfl (by repeat constructor) ⟨rfl, trivial⟩⟩
      | (refine ⟨fun _=>?_, fun _=>?_⟩
         · conv=>whnf
           refine CallQ.use0 (f283 d cap ys _ _ (by omega) (by omega)) (by rfl) ?_
           rintro v b' ⟨zs, t, rfl, rfl, h2⟩
           conv=>whnf
           refine ⟨fun _=>?_, fun _=>?_⟩
           · conv=>whnf
             refine ⟨rfl, ?_⟩
             conv=>whnf
             exact ⟨[some (.ar false .i16 zs)], rfl, ⟨rfl, trivial⟩, zs, rfl, rfl, hs.trans h2⟩
           · conv=>whnf
             exact ⟨zs, hs.trans h2, Ren.relOf [] rfl (by repeat constructor) ⟨rfl, trivial⟩⟩
         · conv=>whnf
           exact ⟨ys, hs, Ren.relOf [] rfl (by repeat constructor) ⟨rfl, trivial⟩⟩)
  clear hs hsl ys
  rintro ys hs
  have hsl := hs.1
  refine WpN.cut (ι := List Int) (fun x => [(0, .c (.sl 0 0 d cap)), (1, .c (.i .i64 a)), (2, .c (.i .i64 b)), (3, .c (.i .i64 lim)), (8, .c (.b wb)), (9, .c (.b wp)), (10, .c (.i .i64 (b - a))), (11, .c (.i .i64 p))]) (fun x => [some (.ar false .i16 x)]) (fun x => Srt d xs x) (WpN.vc ?_) ?_
  · conv=>whnf
    refine .inl ⟨by kernel_rfl, ?_⟩
    conv=>whnf
    generalize hx : decide (a > 0) = x
    cases x
    · conv=>whnf
      repeat (first
          | (refine ⟨fun _=>?_, fun h => absurd h (by decide)⟩; conv=>whnf)
          | (refine ⟨fun h => absurd h (by decide), fun _=>?_⟩; conv=>whnf))
      exact ⟨ys, hs, Ren.relOf [] rfl (by repeat constructor) ⟨rfl, trivial⟩⟩
    · have hx := of_decide_eq_true hx
      have e1 : IntKind.i64.wrap (a - 1) = a - 1 := IntWalk.i64_in _ (by omega)
      conv=>whnf
      repeat (first
          | (refine ⟨fun _=>?_, fun h => absurd h (by decide)⟩; conv=>whnf)
          | (refine ⟨fun h => absurd h (by decide), fun _=>?_⟩; conv=>whnf)
          | (refine ⟨by first | decide | omega | (simp only [List.length_set]; omega), ?_⟩; conv=>whnf))
      refine CallQ.use [] (f284 _ _) rfl rfl trivial ?_
      rintro v l' ⟨rfl, rfl⟩
      conv=>whnf
      repeat (first
          | (refine ⟨fun _=>?_, fun h => absurd h (by decide)⟩; conv=>whnf)
          | (refine ⟨fun h => absurd h (by decide), fun _=>?_⟩; conv=>whnf)
          | (refine ⟨by first | decide | omega | (simp only [List.length_set]; omega), ?_⟩; conv=>whnf))
      refine ⟨fun _=>?_, fun _=>?_⟩
      · conv=>whnf
        refine CallQ.use0 (f285 d cap ys _ _ _ (by omega) (by omega)) (by rfl) ?_
        rintro v b' ⟨zs, r, rfl, rfl, h2, hr⟩
        conv=>whnf
        exact ⟨(r, b, lim, wb, wp, zs), ⟨by dsimp only; omega, hlim, hs.trans h2⟩, by dsimp only; omega, Ren.relOf [] rfl (by repeat constructor) ⟨rfl, trivial⟩⟩
      · conv=>whnf
        exact ⟨ys, hs, Ren.relOf [] rfl (by repeat constructor) ⟨rfl, trivial⟩⟩
  clear hs hsl ys
  rintro ys hs
  have hsl := hs.1
  refine WpN.vc ?_
  conv=>whnf
  refine CallQ.use0 (f286 d cap ys _ _ _ (by omega) (by omega)) (by rfl) ?_
  rintro v b' ⟨zs, r, t, rfl, rfl, h2, hr⟩
  have hzl := h2.1
  have e1 : IntKind.i64.wrap (r - a) = r - a := IntWalk.i64_in _ (by omega)
  have e2 : IntKind.i64.wrap (b - r) = b - r := IntWalk.i64_in _ (by omega)
  have e3 : IntKind.i64.wrap (r + 1) = r + 1 := IntWalk.i64_in _ (by omega)
  conv=>whnf
  refine ⟨by decide, ?_⟩
  conv=>whnf
  refine ⟨fun _=>?_, fun _=>?_⟩
  · conv=>whnf
    refine CallQ.use [0] (ih (r - a).toNat (by omega) d cap zs a r lim (by omega) (by omega) hlim rfl) rfl rfl ⟨rfl, trivial⟩ ?_
    rintro v l' ⟨us, rfl, rfl, h3⟩
    conv=>whnf
    exact ⟨(IntKind.i64.wrap (r + 1), b, lim, _, t, us), ⟨by dsimp only; omega, hlim, (hs.trans h2).trans h3⟩, by dsimp only; omega, Ren.relOf [] rfl (by repeat constructor) ⟨rfl, trivial⟩⟩
  · conv=>whnf
    rw [e3]
    refine CallQ.use [0] (ih (b - (r + 1)).toNat (by omega) d cap zs (r + 1) b lim (by omega) (by omega) hlim rfl) rfl rfl ⟨rfl, trivial⟩ ?_
    rintro v l' ⟨us, rfl, rfl, h3⟩
    conv=>whnf
    exact ⟨(a, r, lim, _, t, us), ⟨by dsimp only; omega, hlim, (hs.trans h2).trans h3⟩, by dsimp only; omega, Ren.relOf [] rfl (by repeat constructor) ⟨rfl, trivial⟩⟩
theorem f165 (d cap : Nat) (xs : List Int) (hd : d ≤ 16 ∧ d ≤ xs.length) : FnS 165 [.c (.sl 0 0 d cap)] [some (.ar false .i16 xs)] fun v l' => ∃ ys, v = .tu [] ∧ l' = [some (.ar false .i16 ys)] ∧ Srt d xs ys := by
  refine FnS.run (b := 1) Proofs.Tryz.f165 rfl rfl rfl rfl rfl rfl ?_
  conv=>whnf
  rw [IntWalk.u64_in _ (by omega)]
  refine CallQ.use [] (f204 d (by omega)) rfl rfl trivial ?_
  rintro v l' ⟨r, rfl, rfl, hr, _⟩
  conv=>whnf
  refine CallQ.use [0] (f203 _ d cap xs 0 d r hd (by omega) hr rfl) rfl rfl ⟨rfl, trivial⟩ ?_
  rintro v l' ⟨us, rfl, rfl, h3⟩
  conv=>whnf
  exact ⟨[some (.ar false .i16 us)], rfl, ⟨rfl, trivial⟩, us, rfl, rfl, h3⟩
end Go.SX
