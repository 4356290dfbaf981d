/- A part of the proof: the SILK decoder of the given program, walked by an executor that is proved sound. No statement of the program is proved in this text. -/
import Derived.Test.YtojdfjohmicopaaGreatDoorL17
set_option linter.all false
set_option maxRecDepth 100000
namespace Go.SX
open Go
theorem WpN.cutS {b n : Nat} {x y : Code} {e : Nat → Option V} {st : Nat → Option B} {nx : Nat} {Q : Exit → (Nat → Option V) → (Nat → Option B) → Nat → Prop} {ι : Type} (I : ι → S) (Inv : ι → Prop) (hn : ∀ i, (I i).n = n)
    (h : WpN b n x e st nx (seqK (fun e st nx => ∃ i, Inv i ∧ Rel b ⟨e, st, nx, n⟩ (I i)) Q))
    (h2 : ∀ i, Inv i → WpN b n y (I i).env (I i).st (I i).nx Q) : WpN b n (.seq x y) e st nx Q := by
  refine WpN.seq (h.mono fun z e st nx hz => ?_)
  cases z with
  | normal => obtain ⟨i, h3, h4⟩ := hz; exact (h2 i h3).weaken h4 (hn i)
  | _ => exact hz
theorem f283 (d cap : Nat) (xs : List Int) (a b : Int) (hd : d ≤ 16 ∧ d ≤ xs.length) (hab : 0 ≤ a ∧ a < b ∧ b ≤ d) : Fn0 283 [.c (.sl 0 0 d cap), .c (.i .i64 a), .c (.i .i64 b)] (.ar false .i16 xs) fun v b' => ∃ ys t, v = .c (.b t) ∧ b' = .ar false .i16 ys ∧ Srt d xs ys := by
  have ea : IntKind.i64.wrap (a + 1) = a + 1 := IntWalk.i64_in _ (by omega)
  have eb : IntKind.i64.wrap (b - a) = b - a := IntWalk.i64_in _ (by omega)
  refine Fn0.run Proofs.Tryz.f283 rfl rfl rfl rfl rfl fun st m => ?_
  conv=>whnf
  refine WpS.loop (ι := Nat × List Int) (fun x => ⟨mkE [(0, .c (.sl 0 0 d cap)), (1, .c (.i .i64 a)), (2, .c (.i .i64 b)), (7, .c (.i .i64 (IntKind.i64.wrap (a + 1)))), (8, .c (.i .i64 0))], upd st 0 (.ar false .i16 xs), m + 1, 133⟩) (fun x => x.1 = 0) (fun x => 0) (0, xs) rfl (Rel.of _ (by repeat constructor) (Only0.eq (by repeat constructor) rfl)) ?_
  rintro - -
  refine VC_ok ?_
  conv=>whnf
  refine ⟨fun _=>?_, fun h => absurd h (by decide)⟩
  conv=>whnf
  refine WpS.loop (ι := Int) (fun x => ⟨mkE [(0, .c (.sl 0 0 d cap)), (1, .c (.i .i64 a)), (2, .c (.i .i64 b)), (7, .c (.i .i64 x))], upd st 0 (.ar false .i16 xs), m + 1, 133⟩) (fun x => a + 1 ≤ x ∧ x ≤ b) (fun x => (b - x).toNat) (IntKind.i64.wrap (a + 1)) (by omega) (Rel.of _ (by repeat constructor) (Only0.eq (by repeat constructor) rfl)) ?_
  rintro i hi
  have ei : IntKind.i64.wrap (i + 1) = i + 1 := IntWalk.i64_in _ (by omega)
  have ej : IntKind.i64.wrap (i - 1) = i - 1 := IntWalk.i64_in _ (by omega)
  refine VC_ok ?_
  conv=>whnf
  refine .inl ⟨by kernel_rfl, ?_⟩
  conv=>whnf
  generalize hx : decide (i < b) = x
  cases x
  · conv=>whnf
    repeat (first
        | (refine ⟨fun _=>?_, fun h => absurd h (by decide)⟩; conv=>whnf)
        | (refine ⟨fun h => absurd h (by decide), fun _=>?_⟩; conv=>whnf)
        | (refine ⟨by first | decide | omega | (simp only [List.length_set]; omega), ?_⟩; conv=>whnf))
    refine ⟨rfl, ?_⟩
    conv=>whnf
    refine ⟨fun _=>?_, fun _=>?_⟩
    · conv=>whnf
      refine ⟨rfl, ?_⟩
      conv=>whnf
      exact ⟨_, rfl, rfl, by repeat constructor, rfl, xs, true, rfl, rfl, .refl _ _⟩
    · conv=>whnf
      refine ⟨fun _=>?_, fun h => absurd (of_decide_eq_false h) (by omega)⟩
      conv=>whnf
      refine ⟨rfl, ?_⟩
      conv=>whnf
      exact ⟨_, rfl, rfl, by repeat constructor, rfl, xs, false, rfl, rfl, .refl _ _⟩
  · have hx := of_decide_eq_true hx
    conv=>whnf
    repeat (first
        | (refine ⟨fun _=>?_, fun h => absurd h (by decide)⟩; conv=>whnf)
        | (refine ⟨fun h => absurd h (by decide), fun _=>?_⟩; conv=>whnf)
        | (refine ⟨by first | decide | omega | (simp only [List.length_set]; omega), ?_⟩; conv=>whnf))
    refine CallQ.use [] (f284 _ _) rfl rfl trivial ?_
    rintro v l' ⟨rfl, rfl⟩
    conv=>whnf
    repeat (first
        | (refine ⟨fun _=>?_, fun h => absurd h (by decide)⟩; conv=>whnf)
        | (refine ⟨fun h => absurd h (by decide), fun _=>?_⟩; conv=>whnf)
        | (refine ⟨by first | decide | omega | (simp only [List.length_set]; omega), ?_⟩; conv=>whnf))
    refine ⟨fun _=>?_, fun _=>?_⟩
    · conv=>whnf
      exact ⟨IntKind.i64.wrap (i + 1), by omega, by omega, Rel.of _ (by repeat constructor) (Only0.eq (by repeat constructor) rfl)⟩
    · conv=>whnf
      refine ⟨rfl, ?_⟩
      conv=>whnf
      refine ⟨fun _=>?_, fun _=>?_⟩
      · conv=>whnf
        refine ⟨rfl, ?_⟩
        conv=>whnf
        exact ⟨_, rfl, rfl, by repeat constructor, rfl, xs, true, rfl, rfl, .refl _ _⟩
      · conv=>whnf
        refine ⟨fun _=>?_, fun h => absurd (of_decide_eq_false h) (by omega)⟩
        conv=>whnf
        refine ⟨rfl, ?_⟩
        conv=>whnf
        exact ⟨_, rfl, rfl, by repeat constructor, rfl, xs, false, rfl, rfl, .refl _ _⟩
theorem f285 (d cap : Nat) (xs : List Int) (a b p : Int) (hd : d ≤ 16 ∧ d ≤ xs.length) (hab : 0 ≤ a ∧ a < b ∧ b ≤ d ∧ a ≤ p ∧ p < b) : Fn0 285 [.c (.sl 0 0 d cap), .c (.i .i64 a), .c (.i .i64 b), .c (.i .i64 p)] (.ar false .i16 xs) fun v b' => ∃ ys r, v = .c (.i .i64 r) ∧ b' = .ar false .i16 ys ∧ Srt d xs ys ∧ (a + 1 ≤ r ∧ r ≤ b) := by
  have ea : IntKind.i64.wrap (a + 1) = a + 1 := IntWalk.i64_in _ (by omega)
  have eb : IntKind.i64.wrap (b - 1) = b - 1 := IntWalk.i64_in _ (by omega)
  refine Fn0.wp Proofs.Tryz.f285 rfl rfl rfl rfl rfl fun st m => ?_
  refine WpN.seq (WpN.vc ?_)
  conv=>whnf
  refine WpN.seq (WpN.vc ?_)
  conv=>whnf
  refine .inl ⟨by kernel_rfl, ?_⟩
  conv=>whnf
  repeat (first
      | (refine ⟨fun _=>?_, fun h => absurd h (by decide)⟩; conv=>whnf)
      | (refine ⟨fun h => absurd h (by decide), fun _=>?_⟩; conv=>whnf)
      | (refine ⟨by first | decide | omega | (simp only [List.length_set]; omega), ?_⟩; conv=>whnf))
  have hs1 : Srt d xs ((xs.set (0 + (a).toNat) (xs.getD (0 + (p).toNat) 0)).set (0 + (p).toNat) (xs.getD (0 + (a).toNat) 0)) := (Srt.refl d xs).swap hd.2 (by omega) (by omega)
  generalize ((xs.set (0 + (a).toNat) (xs.getD (0 + (p).toNat) 0)).set (0 + (p).toNat) (xs.getD (0 + (a).toNat) 0)) = ys at hs1
  refine WpN.seq (WpN.vc ?_)
  conv=>whnf
  refine WpN.cutS (ι := Int × Int × List Int) (fun x => ⟨mkE [(0, .c (.sl 0 0 d cap)), (1, .c (.i .i64 a)), (9, .c (.i .i64 x.1))], upd st 0 (.ar false .i16 x.2.2), m + 1, 84⟩) (fun x => (a + 1 ≤ x.1 ∧ x.1 ≤ b) ∧ Srt d xs x.2.2) (fun _=>rfl) (WpN.block (WpN.of (WpS.loop (ι := Int × Int × List Int) (fun x => ⟨mkE [(0, .c (.sl 0 0 d cap)), (1, .c (.i .i64 a)), (9, .c (.i .i64 x.1)), (10, .c (.i .i64 x.2.1))], upd st 0 (.ar false .i16 x.2.2), m + 1, 84⟩) (fun x => (a + 1 ≤ x.1 ∧ x.1 ≤ b ∧ a ≤ x.2.1 ∧ x.2.1 < b) ∧ Srt d xs x.2.2) (fun x => (x.2.1 + 1 - x.1).toNat) (IntKind.i64.wrap (a + 1), IntKind.i64.wrap (b - 1), ys) ⟨by dsimp only; omega, hs1⟩ (Rel.of _ (by repeat constructor) (Only0.eq (by repeat constructor) rfl)) ?_))) ?_
  · clear hs1 ys
    rintro ⟨i, j, ys⟩ ⟨hij, hs⟩
    dsimp only at hij hs ⊢
    have hsl := hs.1
    refine WpN.toS (WpN.block ?_)
    refine WpN.cutS (ι := Int) (fun x => ⟨mkE [(0, .c (.sl 0 0 d cap)), (1, .c (.i .i64 a)), (9, .c (.i .i64 x)), (10, .c (.i .i64 j))], upd st 0 (.ar false .i16 ys), m + 1, 84⟩) (fun x => i ≤ x ∧ x ≤ b) (fun _=>rfl) (WpN.vc ?_) ?_
    · conv=>whnf
      refine WpS.loop (ι := Int) (fun x => ⟨mkE [(0, .c (.sl 0 0 d cap)), (1, .c (.i .i64 a)), (9, .c (.i .i64 x)), (10, .c (.i .i64 j))], upd st 0 (.ar false .i16 ys), m + 1, 84⟩) (fun x => i ≤ x ∧ x ≤ b) (fun x => (b - x).toNat) i (by omega) (Rel.of _ (by repeat constructor) (Only0.eq (by repeat constructor) rfl)) ?_
      rintro k hk
      have ek : IntKind.i64.wrap (k + 1) = k + 1 := IntWalk.i64_in _ (by omega)
      refine VC_ok ?_
      conv=>whnf
      refine .inl ⟨by kernel_rfl, ?_⟩
      conv=>whnf
      generalize hx : decide (k ≤ j) = x
      cases x
      · conv=>whnf
        repeat (first
            | (refine ⟨fun _=>?_, fun h => absurd h (by decide)⟩; conv=>whnf)
            | (refine ⟨fun h => absurd h (by decide), fun _=>?_⟩; conv=>whnf)
            | (refine ⟨by first | decide | omega | (simp only [List.length_set]; omega), ?_⟩; conv=>whnf))
        refine ⟨rfl, ?_⟩
        conv=>whnf
        exact ⟨k, by omega, Rel.of _ (by repeat constructor) (Only0.eq (by repeat constructor) rfl)⟩
      · have hx := of_decide_eq_true hx
        conv=>whnf
        repeat (first
            | (refine ⟨fun _=>?_, fun h => absurd h (by decide)⟩; conv=>whnf)
            | (refine ⟨fun h => absurd h (by decide), fun _=>?_⟩; conv=>whnf)
            | (refine ⟨by first | decide | omega | (simp only [List.length_set]; omega), ?_⟩; conv=>whnf))
        refine CallQ.use [] (f284 _ _) rfl rfl trivial ?_
        rintro v l' ⟨rfl, rfl⟩
        conv=>whnf
        repeat (first
            | (refine ⟨fun _=>?_, fun h => absurd h (by decide)⟩; conv=>whnf)
            | (refine ⟨fun h => absurd h (by decide), fun _=>?_⟩; conv=>whnf)
            | (refine ⟨by first | decide | omega | (simp only [List.length_set]; omega), ?_⟩; conv=>whnf))
        refine ⟨fun _=>?_, fun _=>?_⟩
        · conv=>whnf
          exact ⟨IntKind.i64.wrap (k + 1), by omega, by omega, Rel.of _ (by repeat constructor) (Only0.eq (by repeat constructor) rfl)⟩
        · conv=>whnf
          refine ⟨rfl, ?_⟩
          conv=>whnf
          exact ⟨k, by omega, Rel.of _ (by repeat constructor) (Only0.eq (by repeat constructor) rfl)⟩
    rintro i2 hi2
    refine WpN.cutS (ι := Int) (fun x => ⟨mkE [(0, .c (.sl 0 0 d cap)), (1, .c (.i .i64 a)), (9, .c (.i .i64 i2)), (10, .c (.i .i64 x))], upd st 0 (.ar false .i16 ys), m + 1, 84⟩) (fun x => a ≤ x ∧ x ≤ j) (fun _=>rfl) (WpN.vc ?_) ?_
    · conv=>whnf
      refine WpS.loop (ι := Int) (fun x => ⟨mkE [(0, .c (.sl 0 0 d cap)), (1, .c (.i .i64 a)), (9, .c (.i .i64 i2)), (10, .c (.i .i64 x))], upd st 0 (.ar false .i16 ys), m + 1, 84⟩) (fun x => a ≤ x ∧ x ≤ j) (fun x => (x - a).toNat) j (by omega) (Rel.of _ (by repeat constructor) (Only0.eq (by repeat constructor) rfl)) ?_
      rintro k hk
      have ek : IntKind.i64.wrap (k - 1) = k - 1 := IntWalk.i64_in _ (by omega)
      refine VC_ok ?_
      conv=>whnf
      refine .inl ⟨by kernel_rfl, ?_⟩
      conv=>whnf
      generalize hx : decide (i2 ≤ k) = x
      cases x
      · conv=>whnf
        repeat (first
            | (refine ⟨fun _=>?_, fun h => absurd h (by decide)⟩; conv=>whnf)
            | (refine ⟨fun h => absurd h (by decide), fun _=>?_⟩; conv=>whnf)
            | (refine ⟨by first | decide | omega | (simp only [List.length_set]; omega), ?_⟩; conv=>whnf))
        refine ⟨rfl, ?_⟩
        conv=>whnf
        exact ⟨k, by omega, Rel.of _ (by repeat constructor) (Only0.eq (by repeat constructor) rfl)⟩
      · have hx := of_decide_eq_true hx
        conv=>whnf
        repeat (first
            | (refine ⟨fun _=>?_, fun h => absurd h (by decide)⟩; conv=>whnf)
            | (refine ⟨fun h => absurd h (by decide), fun _=>?_⟩; conv=>whnf)
            | (refine ⟨by first | decide | omega | (simp only [List.length_set]; omega), ?_⟩; conv=>whnf))
        refine CallQ.use [] (f284 _ _) rfl rfl trivial ?_
        rintro v l' ⟨rfl, rfl⟩
        conv=>whnf
        repeat (first
            | (refine ⟨fun _=>?_, fun h => absurd h (by decide)⟩; conv=>whnf)
            | (refine ⟨fun h => absurd h (by decide), fun _=>?_⟩; conv=>whnf)
            | (refine ⟨by first | decide | omega | (simp only [List.length_set]; omega), ?_⟩; conv=>whnf))
        refine ⟨fun _=>?_, fun _=>?_⟩
        · conv=>whnf
          exact ⟨IntKind.i64.wrap (k - 1), by omega, by omega, Rel.of _ (by repeat constructor) (Only0.eq (by repeat constructor) rfl)⟩
        · conv=>whnf
          refine ⟨rfl, ?_⟩
          conv=>whnf
          exact ⟨k, by omega, Rel.of _ (by repeat constructor) (Only0.eq (by repeat constructor) rfl)⟩
    rintro j2 hj2
    have ei : IntKind.i64.wrap (i2 + 1) = i2 + 1 := IntWalk.i64_in _ (by omega)
    have ej : IntKind.i64.wrap (j2 - 1) = j2 - 1 := IntWalk.i64_in _ (by omega)
    refine WpN.vc ?_
    conv=>whnf
    refine ⟨fun _=>?_, fun hc => ?_⟩
    · conv=>whnf
      refine ⟨rfl, ?_⟩
      conv=>whnf
      exact ⟨(i2, j2, ys), ⟨by dsimp only; omega, hs⟩, Rel.of _ (by repeat constructor) (Only0.eq (by repeat constructor) rfl)⟩
    · have hc := of_decide_eq_false hc
      conv=>whnf
      refine .inl ⟨by kernel_rfl, ?_⟩
      conv=>whnf
      repeat (first
          | (refine ⟨fun _=>?_, fun h => absurd h (by decide)⟩; conv=>whnf)
          | (refine ⟨fun h => absurd h (by decide), fun _=>?_⟩; conv=>whnf)
          | (refine ⟨by first | decide | omega | (simp only [List.length_set]; omega), ?_⟩; conv=>whnf))
      exact ⟨(IntKind.i64.wrap (i2 + 1), IntKind.i64.wrap (j2 - 1), ((ys.set (0 + (i2).toNat) (ys.getD (0 + (j2).toNat) 0)).set (0 + (j2).toNat) (ys.getD (0 + (i2).toNat) 0))), ⟨by dsimp only; omega, hs.swap hd.2 (by omega) (by omega)⟩, by dsimp only; omega, Rel.of _ (by repeat constructor) (Only0.eq (by repeat constructor) rfl)⟩
  rintro ⟨i, j, ys⟩ ⟨hi, hs⟩
  dsimp only at hi hs ⊢
  refine WpN.vc ?_
  conv=>whnf
  exact ⟨_, rfl, rfl, by repeat constructor, rfl, ys, i, rfl, rfl, hs, hi⟩
theorem f286 (d cap : Nat) (xs : List Int) (a b p : Int) (hd : d ≤ 16 ∧ d ≤ xs.length) (hab : 0 ≤ a ∧ a < b ∧ b ≤ d ∧ a ≤ p ∧ p < b) : Fn0 286 [.c (.sl 0 0 d cap), .c (.i .i64 a), .c (.i .i64 b), .c (.i .i64 p)] (.ar false .i16 xs) fun v b' => ∃ ys r t, v = .tu [.c (.i .i64 r), .c (.b t)] ∧ b' = .ar false .i16 ys ∧ Srt d xs ys ∧ (a ≤ r ∧ r < b) := by
  have ea : IntKind.i64.wrap (a + 1) = a + 1 := IntWalk.i64_in _ (by omega)
  have eb : IntKind.i64.wrap (b - 1) = b - 1 := IntWalk.i64_in _ (by omega)
  refine Fn0.wp Proofs.Tryz.f286 rfl rfl rfl rfl rfl fun st m => ?_
  refine WpN.seq (WpN.vc ?_)
  conv=>whnf
  refine WpN.seq (WpN.vc ?_)
  conv=>whnf
  refine .inl ⟨by kernel_rfl, ?_⟩
  conv=>whnf
  repeat (first
      | (refine ⟨fun _=>?_, fun h => absurd h (by decide)⟩; conv=>whnf)
      | (refine ⟨fun h => absurd h (by decide), fun _=>?_⟩; conv=>whnf)
      | (refine ⟨by first | decide | omega | (simp only [List.length_set]; omega), ?_⟩; conv=>whnf))
  have hs1 : Srt d xs ((xs.set (0 + (a).toNat) (xs.getD (0 + (p).toNat) 0)).set (0 + (p).toNat) (xs.getD (0 + (a).toNat) 0)) := (Srt.refl d xs).swap hd.2 (by omega) (by omega)
  generalize ((xs.set (0 + (a).toNat) (xs.getD (0 + (p).toNat) 0)).set (0 + (p).toNat) (xs.getD (0 + (a).toNat) 0)) = ys at hs1
  refine WpN.seq (WpN.vc ?_)
  conv=>whnf
  have hsl1 := hs1.1
  refine WpN.cutS (ι := Int) (fun x => ⟨mkE [(0, .c (.sl 0 0 d cap)), (1, .c (.i .i64 a)), (10, .c (.i .i64 x)), (11, .c (.i .i64 (IntKind.i64.wrap (b - 1))))], upd st 0 (.ar false .i16 ys), m + 1, 168⟩) (fun x => a + 1 ≤ x ∧ x ≤ b) (fun _=>rfl) (WpN.vc ?_) ?_
  · conv=>whnf
    refine WpS.loop (ι := Int) (fun x => ⟨mkE [(0, .c (.sl 0 0 d cap)), (1, .c (.i .i64 a)), (10, .c (.i .i64 x)), (11, .c (.i .i64 (IntKind.i64.wrap (b - 1))))], upd st 0 (.ar false .i16 ys), m + 1, 168⟩) (fun x => a + 1 ≤ x ∧ x ≤ b) (fun x => (b - x).toNat) (IntKind.i64.wrap (a + 1)) (by omega) (Rel.of _ (by repeat constructor) (Only0.eq (by repeat constructor) rfl)) ?_
    rintro k hk
    have ek : IntKind.i64.wrap (k + 1) = k + 1 := IntWalk.i64_in _ (by omega)
    refine VC_ok ?_
    conv=>whnf
    refine .inl ⟨by kernel_rfl, ?_⟩
    conv=>whnf
    generalize hx : decide (k ≤ IntKind.i64.wrap (b - 1)) = x
    cases x
    · conv=>whnf
      repeat (first
          | (refine ⟨fun _=>?_, fun h => absurd h (by decide)⟩; conv=>whnf)
          | (refine ⟨fun h => absurd h (by decide), fun _=>?_⟩; conv=>whnf)
          | (refine ⟨by first | decide | omega | (simp only [List.length_set]; omega), ?_⟩; conv=>whnf))
      refine ⟨rfl, ?_⟩
      conv=>whnf
      exact ⟨k, by omega, Rel.of _ (by repeat constructor) (Only0.eq (by repeat constructor) rfl)⟩
    · have hx := of_decide_eq_true hx
      conv=>whnf
      repeat (first
          | (refine ⟨fun _=>?_, fun h => absurd h (by decide)⟩; conv=>whnf)
          | (refine ⟨fun h => absurd h (by decide), fun _=>?_⟩; conv=>whnf)
          | (refine ⟨by first | decide | omega | (simp only [List.length_set]; omega), ?_⟩; conv=>whnf))
      refine CallQ.use [] (f284 _ _) rfl rfl trivial ?_
      rintro v l' ⟨rfl, rfl⟩
      conv=>whnf
      repeat (first
          | (refine ⟨fun _=>?_, fun h => absurd h (by decide)⟩; conv=>whnf)
          | (refine ⟨fun h => absurd h (by decide), fun _=>?_⟩; conv=>whnf)
          | (refine ⟨by first | decide | omega | (simp only [List.length_set]; omega), ?_⟩; conv=>whnf))
      refine ⟨fun _=>?_, fun _=>?_⟩
      · conv=>whnf
        exact ⟨IntKind.i64.wrap (k + 1), by omega, by omega, Rel.of _ (by repeat constructor) (Only0.eq (by repeat constructor) rfl)⟩
      · conv=>whnf
        refine ⟨rfl, ?_⟩
        conv=>whnf
        exact ⟨k, by omega, Rel.of _ (by repeat constructor) (Only0.eq (by repeat constructor) rfl)⟩
  rintro i hi
  refine WpN.cutS (ι := Int) (fun x => ⟨mkE [(0, .c (.sl 0 0 d cap)), (1, .c (.i .i64 a)), (10, .c (.i .i64 i)), (11, .c (.i .i64 x))], upd st 0 (.ar false .i16 ys), m + 1, 168⟩) (fun x => a ≤ x ∧ x < b) (fun _=>rfl) (WpN.vc ?_) ?_
  · conv=>whnf
    refine WpS.loop (ι := Int) (fun x => ⟨mkE [(0, .c (.sl 0 0 d cap)), (1, .c (.i .i64 a)), (10, .c (.i .i64 i)), (11, .c (.i .i64 x))], upd st 0 (.ar false .i16 ys), m + 1, 168⟩) (fun x => a ≤ x ∧ x < b) (fun x => (x - a).toNat) (IntKind.i64.wrap (b - 1)) (by omega) (Rel.of _ (by repeat constructor) (Only0.eq (by repeat constructor) rfl)) ?_
    rintro k hk
    have ek : IntKind.i64.wrap (k - 1) = k - 1 := IntWalk.i64_in _ (by omega)
    refine VC_ok ?_
    conv=>whnf
    refine .inl ⟨by kernel_rfl, ?_⟩
    conv=>whnf
    generalize hx : decide (i ≤ k) = x
    cases x
    · conv=>whnf
      repeat (first
          | (refine ⟨fun _=>?_, fun h => absurd h (by decide)⟩; conv=>whnf)
          | (refine ⟨fun h => absurd h (by decide), fun _=>?_⟩; conv=>whnf)
          | (refine ⟨by first | decide | omega | (simp only [List.length_set]; omega), ?_⟩; conv=>whnf))
      refine ⟨rfl, ?_⟩
      conv=>whnf
      exact ⟨k, by omega, Rel.of _ (by repeat constructor) (Only0.eq (by repeat constructor) rfl)⟩
    · have hx := of_decide_eq_true hx
      conv=>whnf
      repeat (first
          | (refine ⟨fun _=>?_, fun h => absurd h (by decide)⟩; conv=>whnf)
          | (refine ⟨fun h => absurd h (by decide), fun _=>?_⟩; conv=>whnf)
          | (refine ⟨by first | decide | omega | (simp only [List.length_set]; omega), ?_⟩; conv=>whnf))
      refine CallQ.use [] (f284 _ _) rfl rfl trivial ?_
      rintro v l' ⟨rfl, rfl⟩
      conv=>whnf
      repeat (first
          | (refine ⟨fun _=>?_, fun h => absurd h (by decide)⟩; conv=>whnf)
          | (refine ⟨fun h => absurd h (by decide), fun _=>?_⟩; conv=>whnf)
          | (refine ⟨by first | decide | omega | (simp only [List.length_set]; omega), ?_⟩; conv=>whnf))
      refine ⟨fun _=>?_, fun _=>?_⟩
      · conv=>whnf
        exact ⟨IntKind.i64.wrap (k - 1), by omega, by omega, Rel.of _ (by repeat constructor) (Only0.eq (by repeat constructor) rfl)⟩
      · conv=>whnf
        refine ⟨rfl, ?_⟩
        conv=>whnf
        exact ⟨k, by omega, Rel.of _ (by repeat constructor) (Only0.eq (by repeat constructor) rfl)⟩
  rintro j hj
  have ei : IntKind.i64.wrap (i + 1) = i + 1 := IntWalk.i64_in _ (by omega)
  have ej : IntKind.i64.wrap (j - 1) = j - 1 := IntWalk.i64_in _ (by omega)
  refine WpN.seq (WpN.vc ?_)
  conv=>whnf
  refine ⟨fun _=>?_, fun hc => ?_⟩
  · conv=>whnf
    refine .inl ⟨by kernel_rfl, ?_⟩
    conv=>whnf
    repeat (first
        | (refine ⟨fun _=>?_, fun h => absurd h (by decide)⟩; conv=>whnf)
        | (refine ⟨fun h => absurd h (by decide), fun _=>?_⟩; conv=>whnf)
        | (refine ⟨by first | decide | omega | (simp only [List.length_set]; omega), ?_⟩; conv=>whnf))
    exact ⟨_, rfl, rfl, by repeat constructor, rfl, ((ys.set (0 + (j).toNat) (ys.getD (0 + (a).toNat) 0)).set (0 + (a).toNat) (ys.getD (0 + (j).toNat) 0)), j, true, rfl, rfl, hs1.swap hd.2 (by omega) (by omega), hj⟩
  have hc := of_decide_eq_false hc
  conv=>whnf
  refine WpN.seq (WpN.vc ?_)
  conv=>whnf
  refine .inl ⟨by kernel_rfl, ?_⟩
  conv=>whnf
  repeat (first
      | (refine ⟨fun _=>?_, fun h => absurd h (by decide)⟩; conv=>whnf)
      | (refine ⟨fun h => absurd h (by decide), fun _=>?_⟩; conv=>whnf)
      | (refine ⟨by first | decide | omega | (simp only [List.length_set]; omega), ?_⟩; conv=>whnf))
  have hs2 : Srt d xs ((ys.set (0 + (i).toNat) (ys.getD (0 + (j).toNat) 0)).set (0 + (j).toNat) (ys.getD (0 + (i).toNat) 0)) := hs1.swap hd.2 (by omega) (by omega)
  generalize ((ys.set (0 + (i).toNat) (ys.getD (0 + (j).toNat) 0)).set (0 + (j).toNat) (ys.getD (0 + (i).toNat) 0)) = zs at hs2
  refine WpN.seq (WpN.vc ?_)
  conv=>whnf
  refine WpN.seq (WpN.vc ?_)
  conv=>whnf
  refine WpN.cutS (ι := Int × Int × List Int) (fun x => ⟨mkE [(0, .c (.sl 0 0 d cap)), (1, .c (.i .i64 a)), (11, .c (.i .i64 x.2.1))], upd st 0 (.ar false .i16 x.2.2), m + 1, 168⟩) (fun x => (a ≤ x.2.1 ∧ x.2.1 < b) ∧ Srt d xs x.2.2) (fun _=>rfl) (WpN.block (WpN.of (WpS.loop (ι := Int × Int × List Int) (fun x => ⟨mkE [(0, .c (.sl 0 0 d cap)), (1, .c (.i .i64 a)), (10, .c (.i .i64 x.1)), (11, .c (.i .i64 x.2.1))], upd st 0 (.ar false .i16 x.2.2), m + 1, 168⟩) (fun x => (a + 1 ≤ x.1 ∧ x.1 ≤ b ∧ a ≤ x.2.1 ∧ x.2.1 < b) ∧ Srt d xs x.2.2) (fun x => (x.2.1 + 1 - x.1).toNat) (IntKind.i64.wrap (i + 1), IntKind.i64.wrap (j - 1), zs) ⟨by dsimp only; omega, hs2⟩ (Rel.of _ (by repeat constructor) (Only0.eq (by repeat constructor) rfl)) ?_))) ?_
  · clear hs1 hs2 hsl1 hc ei ej hi hj
    rintro ⟨i, j, ys⟩ ⟨hij, hs⟩
    dsimp only at hij hs ⊢
    have hsl := hs.1
    refine WpN.toS (WpN.block ?_)
    refine WpN.cutS (ι := Int) (fun x => ⟨mkE [(0, .c (.sl 0 0 d cap)), (1, .c (.i .i64 a)), (10, .c (.i .i64 x)), (11, .c (.i .i64 j))], upd st 0 (.ar false .i16 ys), m + 1, 168⟩) (fun x => i ≤ x ∧ x ≤ b) (fun _=>rfl) (WpN.vc ?_) ?_
    · conv=>whnf
      refine WpS.loop (ι := Int) (fun x => ⟨mkE [(0, .c (.sl 0 0 d cap)), (1, .c (.i .i64 a)), (10, .c (.i .i64 x)), (11, .c (.i .i64 j))], upd st 0 (.ar false .i16 ys), m + 1, 168⟩) (fun x => i ≤ x ∧ x ≤ b) (fun x => (b - x).toNat) i (by omega) (Rel.of _ (by repeat constructor) (Only0.eq (by repeat constructor) rfl)) ?_
      rintro k hk
      have ek : IntKind.i64.wrap (k + 1) = k + 1 := IntWalk.i64_in _ (by omega)
      refine VC_ok ?_
      conv=>whnf
      refine .inl ⟨by kernel_rfl, ?_⟩
      conv=>whnf
      generalize hx : decide (k ≤ j) = x
      cases x
      · conv=>whnf
        repeat (first
            | (refine ⟨fun _=>?_, fun h => absurd h (by decide)⟩; conv=>whnf)
            | (refine ⟨fun h => absurd h (by decide), fun _=>?_⟩; conv=>whnf)
            | (refine ⟨by first | decide | omega | (simp only [List.length_set]; omega), ?_⟩; conv=>whnf))
        refine ⟨rfl, ?_⟩
        conv=>whnf
        exact ⟨k, by omega, Rel.of _ (by repeat constructor) (Only0.eq (by repeat constructor) rfl)⟩
      · have hx := of_decide_eq_true hx
        conv=>whnf
        repeat (first
            | (refine ⟨fun _=>?_, fun h => absurd h (by decide)⟩; conv=>whnf)
            | (refine ⟨fun h => absurd h (by decide), fun _=>?_⟩; conv=>whnf)
            | (refine ⟨by first | decide | omega | (simp only [List.length_set]; omega), ?_⟩; conv=>whnf))
        refine CallQ.use [] (f284 _ _) rfl rfl trivial ?_
        rintro v l' ⟨rfl, rfl⟩
        conv=>whnf
        repeat (first
            | (refine ⟨fun _=>?_, fun h => absurd h (by decide)⟩; conv=>whnf)
            | (refine ⟨fun h => absurd h (by decide), fun _=>?_⟩; conv=>whnf)
            | (refine ⟨by first | decide | omega | (simp only [List.length_set]; omega), ?_⟩; conv=>whnf))
        refine ⟨fun _=>?_, fun _=>?_⟩
        · conv=>whnf
          exact ⟨IntKind.i64.wrap (k + 1), by omega, by omega, Rel.of _ (by repeat constructor) (Only0.eq (by repeat constructor) rfl)⟩
        · conv=>whnf
          refine ⟨rfl, ?_⟩
          conv=>whnf
          exact ⟨k, by omega, Rel.of _ (by repeat constructor) (Only0.eq (by repeat constructor) rfl)⟩
    rintro i2 hi2
    refine WpN.cutS (ι := Int) (fun x => ⟨mkE [(0, .c (.sl 0 0 d cap)), (1, .c (.i .i64 a)), (10, .c (.i .i64 i2)), (11, .c (.i .i64 x))], upd st 0 (.ar false .i16 ys), m + 1, 168⟩) (fun x => a ≤ x ∧ x ≤ j) (fun _=>rfl) (WpN.vc ?_) ?_
    · conv=>whnf
      refine WpS.loop (ι := Int) (fun x => ⟨mkE [(0, .c (.sl 0 0 d cap)), (1, .c (.i .i64 a)), (10, .c (.i .i64 i2)), (11, .c (.i .i64 x))], upd st 0 (.ar false .i16 ys), m + 1, 168⟩) (fun x => a ≤ x ∧ x ≤ j) (fun x => (x - a).toNat) j (by omega) (Rel.of _ (by repeat constructor) (Only0.eq (by repeat constructor) rfl)) ?_
      rintro k hk
      have ek : IntKind.i64.wrap (k - 1) = k - 1 := IntWalk.i64_in _ (by omega)
      refine VC_ok ?_
      conv=>whnf
      refine .inl ⟨by kernel_rfl, ?_⟩
      conv=>whnf
      generalize hx : decide (i2 ≤ k) = x
      cases x
      · conv=>whnf
        repeat (first
            | (refine ⟨fun _=>?_, fun h => absurd h (by decide)⟩; conv=>whnf)
            | (refine ⟨fun h => absurd h (by decide), fun _=>?_⟩; conv=>whnf)
            | (refine ⟨by first | decide | omega | (simp only [List.length_set]; omega), ?_⟩; conv=>whnf))
        refine ⟨rfl, ?_⟩
        conv=>whnf
        exact ⟨k, by omega, Rel.of _ (by repeat constructor) (Only0.eq (by repeat constructor) rfl)⟩
      · have hx := of_decide_eq_true hx
        conv=>whnf
        repeat (first
            | (refine ⟨fun _=>?_, fun h => absurd h (by decide)⟩; conv=>whnf)
            | (refine ⟨fun h => absurd h (by decide), fun _=>?_⟩; conv=>whnf)
            | (refine ⟨by first | decide | omega | (simp only [List.length_set]; omega), ?_⟩; conv=>whnf))
        refine CallQ.use [] (f284 _ _) rfl rfl trivial ?_
        rintro v l' ⟨rfl, rfl⟩
        conv=>whnf
        repeat (first
            | (refine ⟨fun _=>?_, fun h => absurd h (by decide)⟩; conv=>whnf)
            | (refine ⟨fun h => absurd h (by decide), fun _=>?_⟩; conv=>whnf)
            | (refine ⟨by first | decide | omega | (simp only [List.length_set]; omega), ?_⟩; conv=>whnf))
        refine ⟨fun _=>?_, fun _=>?_⟩
        · conv=>whnf
          exact ⟨IntKind.i64.wrap (k - 1), by omega, by omega, Rel.of _ (by repeat constructor) (Only0.eq (by repeat constructor) rfl)⟩
        · conv=>whnf
          refine ⟨rfl, ?_⟩
          conv=>whnf
          exact ⟨k, by omega, Rel.of _ (by repeat constructor) (Only0.eq (by repeat constructor) rfl)⟩
    rintro j2 hj2
    have ei : IntKind.i64.wrap (i2 + 1) = i2 + 1 := IntWalk.i64_in _ (by omega)
    have ej : IntKind.i64.wrap (j2 - 1) = j2 - 1 := IntWalk.i64_in _ (by omega)
    refine WpN.vc ?_
    conv=>whnf
    refine ⟨fun _=>?_, fun hc => ?_⟩
    · conv=>whnf
      refine ⟨rfl, ?_⟩
      conv=>whnf
      exact ⟨(i2, j2, ys), ⟨by dsimp only; omega, hs⟩, Rel.of _ (by repeat constructor) (Only0.eq (by repeat constructor) rfl)⟩
    · have hc := of_decide_eq_false hc
      conv=>whnf
      refine .inl ⟨by kernel_rfl, ?_⟩
      conv=>whnf
      repeat (first
          | (refine ⟨fun _=>?_, fun h => absurd h (by decide)⟩; conv=>whnf)
          | (refine ⟨fun h => absurd h (by decide), fun _=>?_⟩; conv=>whnf)
          | (refine ⟨by first | decide | omega | (simp only [List.length_set]; omega), ?_⟩; conv=>whnf))
      exact ⟨(IntKind.i64.wrap (i2 + 1), IntKind.i64.wrap (j2 - 1), ((ys.set (0 + (i2).toNat) (ys.getD (0 + (j2).toNat) 0)).set (0 + (j2).toNat) (ys.getD (0 + (i2).toNat) 0))), ⟨by dsimp only; omega, hs.swap hd.2 (by omega) (by omega)⟩, by dsimp only; omega, Rel.of _ (by repeat constructor) (Only0.eq (by repeat constructor) rfl)⟩
  clear hs1 hs2 hsl1 hc ei ej hi hj
  rintro ⟨i, j, ys⟩ ⟨hi, hs⟩
  dsimp only at hi hs ⊢
  have hsl := hs.1
  refine WpN.vc ?_
  conv=>whnf
  refine .inl ⟨by kernel_rfl, ?_⟩
  conv=>whnf
  repeat (first
      | (refine ⟨fun _=>?_, fun h => absurd h (by decide)⟩; conv=>whnf)
      | (refine ⟨fun h => absurd h (by decide), fun _=>?_⟩; conv=>whnf)
      | (refine ⟨by first | decide | omega | (simp only [List.length_set]; omega), ?_⟩; conv=>whnf))
  exact ⟨_, rfl, rfl, by repeat constructor, rfl, ((ys.set (0 + (j).toNat) (ys.getD (0 + (a).toNat) 0)).set (0 + (a).toNat) (ys.getD (0 + (j).toNat) 0)), j, false, rfl, rfl, hs.swap hd.2 (by omega) (by omega), hi⟩
end Go.SX
