/- A part of the proof: the SILK decoder of the given program, walked by an executor that is proved sound. No statement of the program is proved in this text. -/
import Derived.Shelf.Strconv.Itoa4
import Derived.Lib.ItoaLen
import Derived.Test.YtojdfjohmicopaaGreatDoorL23
import Derived.Test.YtojdfjohmicopaaGreatDoorL39
set_option linter.all false
set_option maxRecDepth 100000
namespace Go.SX
open Go
theorem f28a : FnS 28 [.c (.p 0 0), .c (.is .u8 [199, 1])] [some (.st [.nsl, .i .u64 0, .i .u64 0, .i .u64 0, .i .u32 0, .i .u32 0])] fun v l' => v = .tu [] ∧ l' = [some (.st (dcd 16 0 33 2147483648 478117887))] := by
  refine FnS.wpR (b := 1) Proofs.Tryz.f28 rfl rfl rfl rfl rfl rfl ?_
  repeat' (first
      | (refine ⟨fun _=>?_, fun h => absurd h (by decide)⟩
         conv=>whnf)
      | (refine ⟨fun h => absurd h (by decide), fun _=>?_⟩
         conv=>whnf)
      | (refine WpN.seq (WpN.vc ?_)
         conv=>whnf)
      | (refine WpN.vc ?_
         conv=>whnf)
      | (refine WpS.rounds (WpS.round (VC_ok ?_))
         conv=>whnf)
      | (refine WpS.round (VC_ok ?_)
         conv=>whnf)
      | (refine And.intro (by first | rfl | decide) ?_
         conv=>whnf)
      | (refine .inl ⟨by decide +kernel, ?_⟩
         conv=>whnf)
      | refine CallQ.inlineN Proofs.Tryz.f64 rfl rfl rfl rfl rfl ?_
      | (refine CallQ.use [0] (f63a _ _ _) rfl rfl ⟨rfl, trivial⟩ ?_
         rintro v l' ⟨rfl, rfl⟩
         conv=>whnf)
      | fail)
  refine .inr (WpS.draw [0, 0, 0, 0, 1, 0, 0, 2, 0, 0, 0, 0, 0, 3] (fun st2 => ∃ b n s : Int, st2 0 = some (.st (dcd b 0 n s 28))) (by kernel_rfl) ?_)
  conv=>whnf
  refine ⟨.c (.i .u32 28), ⟨⟨_, _, _, rfl⟩, fun st2 ⟨b2, n2, s2, h2⟩ => ⟨_, h2, .inl rfl⟩⟩, ?_⟩
  conv=>whnf
  refine And.intro (by decide) ?_
  conv=>whnf
  refine ⟨⟨_, _, _, rfl⟩, ?_⟩
  refine CallQ.use [0] (f63b _ _ _) rfl rfl ⟨rfl, trivial⟩ ?_
  rintro v l' ⟨rfl, rfl⟩
  refine ⟨⟨_, _, _, rfl⟩, ?_⟩
  conv=>whnf
  repeat' (first
      | (refine ⟨fun _=>?_, fun h => absurd h (by decide)⟩
         conv=>whnf)
      | (refine ⟨fun h => absurd h (by decide), fun _=>?_⟩
         conv=>whnf)
      | (refine WpN.seq (WpN.vc ?_)
         conv=>whnf)
      | (refine WpN.vc ?_
         conv=>whnf)
      | (refine WpS.rounds (WpS.round (VC_ok ?_))
         conv=>whnf)
      | (refine WpS.round (VC_ok ?_)
         conv=>whnf)
      | (refine And.intro (by first | rfl | decide) ?_
         conv=>whnf)
      | (refine .inl ⟨by decide +kernel, ?_⟩
         conv=>whnf)
      | fail)
  refine .inr (WpS.draw [0, 0, 0, 0, 1, 0, 0, 2, 0, 0, 0, 0, 0, 3] (fun st2 => ∃ b n s : Int, st2 0 = some (.st (dcd b 0 n s 7295))) (by kernel_rfl) ?_)
  conv=>whnf
  refine ⟨.c (.i .u32 7295), ⟨⟨_, _, _, rfl⟩, fun st2 ⟨b2, n2, s2, h2⟩ => ⟨_, h2, .inl rfl⟩⟩, ?_⟩
  conv=>whnf
  refine And.intro (by decide) ?_
  conv=>whnf
  refine ⟨⟨_, _, _, rfl⟩, ?_⟩
  refine CallQ.use [0] (f63c _ _ _) rfl rfl ⟨rfl, trivial⟩ ?_
  rintro v l' ⟨rfl, rfl⟩
  refine ⟨⟨_, _, _, rfl⟩, ?_⟩
  conv=>whnf
  repeat' (first
      | (refine ⟨fun _=>?_, fun h => absurd h (by decide)⟩
         conv=>whnf)
      | (refine ⟨fun h => absurd h (by decide), fun _=>?_⟩
         conv=>whnf)
      | (refine WpN.seq (WpN.vc ?_)
         conv=>whnf)
      | (refine WpN.vc ?_
         conv=>whnf)
      | (refine WpS.rounds (WpS.round (VC_ok ?_))
         conv=>whnf)
      | (refine WpS.round (VC_ok ?_)
         conv=>whnf)
      | (refine And.intro (by first | rfl | decide) ?_
         conv=>whnf)
      | (refine .inl ⟨by decide +kernel, ?_⟩
         conv=>whnf)
      | fail)
  refine .inr (WpS.draw [0, 0, 0, 0, 1, 0, 0, 2, 0, 0, 0, 0, 0, 3] (fun st2 => ∃ b n s : Int, st2 0 = some (.st (dcd b 0 n s 1867647))) (by kernel_rfl) ?_)
  conv=>whnf
  refine ⟨.c (.i .u32 1867647), ⟨⟨_, _, _, rfl⟩, fun st2 ⟨b2, n2, s2, h2⟩ => ⟨_, h2, .inl rfl⟩⟩, ?_⟩
  conv=>whnf
  refine And.intro (by decide) ?_
  conv=>whnf
  refine ⟨⟨_, _, _, rfl⟩, ?_⟩
  refine CallQ.use [0] (f63d _ _ _) rfl rfl ⟨rfl, trivial⟩ ?_
  rintro v l' ⟨rfl, rfl⟩
  refine ⟨⟨_, _, _, rfl⟩, ?_⟩
  conv=>whnf
  repeat' (first
      | (refine ⟨fun _=>?_, fun h => absurd h (by decide)⟩
         conv=>whnf)
      | (refine ⟨fun h => absurd h (by decide), fun _=>?_⟩
         conv=>whnf)
      | (refine WpN.seq (WpN.vc ?_)
         conv=>whnf)
      | (refine WpN.vc ?_
         conv=>whnf)
      | (refine WpS.rounds (WpS.round (VC_ok ?_))
         conv=>whnf)
      | (refine WpS.round (VC_ok ?_)
         conv=>whnf)
      | (refine And.intro (by first | rfl | decide) ?_
         conv=>whnf)
      | (refine .inl ⟨by decide +kernel, ?_⟩
         conv=>whnf)
      | fail)
  exact ⟨[], .tu [], [some (.st (dcd 16 0 33 2147483648 478117887))], by kernel_rfl, by kernel_rfl, (by repeat' (first | exact trivial | refine And.intro ?_ ?_ | kernel_rfl)), rfl, rfl⟩
theorem f84a : FnS 84 [.c (.p 0 0), .c (.i .u32 250)] [some (.st (dcd 16 0 33 2147483648 478117887))] fun v l' => v = .c (.i .u32 194) ∧ l' = [some (.st (dcd 16 0 33 8589934 5671517))] := by
  refine FnS.wpR (b := 1) Proofs.Tryz.f84 rfl rfl rfl rfl rfl rfl ?_
  repeat' (first
      | (refine ⟨fun _=>?_, fun h => absurd h (by decide)⟩
         conv=>whnf)
      | (refine ⟨fun h => absurd h (by decide), fun _=>?_⟩
         conv=>whnf)
      | (refine WpN.seq (WpN.vc ?_)
         conv=>whnf)
      | (refine WpN.vc ?_
         conv=>whnf)
      | (refine WpS.rounds (WpS.round (VC_ok ?_))
         conv=>whnf)
      | (refine WpS.round (VC_ok ?_)
         conv=>whnf)
      | (refine And.intro (by first | rfl | decide) ?_
         conv=>whnf)
      | (refine .inl ⟨by decide +kernel, ?_⟩
         conv=>whnf)
      | refine CallQ.inlineN Proofs.Tryz.f81 rfl rfl rfl rfl rfl ?_
      | refine CallQ.inlineN Proofs.Tryz.f83 rfl rfl rfl rfl rfl ?_
      | refine CallQ.inlineN Proofs.Tryz.f82 rfl rfl rfl rfl rfl ?_
      | refine CallQ.inlineN Proofs.Tryz.f64 rfl rfl rfl rfl rfl ?_
      | fail)
  exact ⟨[], .c (.i .u32 194), [some (.st (dcd 16 0 33 8589934 5671517))], by kernel_rfl, by kernel_rfl, (by repeat' (first | exact trivial | refine And.intro ?_ ?_ | kernel_rfl)), rfl, rfl⟩
theorem f58a : FnS 58 [.c (.p 0 0), .c (.i .u64 2)] [some (.st (dcd 16 0 33 8589934 5671517))] fun v l' => v = .c (.i .u32 1) ∧ l' = [some (.st (dcd 16 2 35 8589934 5671517))] := by
  refine FnS.wpR (b := 1) Proofs.Tryz.f58 rfl rfl rfl rfl rfl rfl ?_
  repeat' (first
      | (refine ⟨fun _=>?_, fun h => absurd h (by decide)⟩
         conv=>whnf)
      | (refine ⟨fun h => absurd h (by decide), fun _=>?_⟩
         conv=>whnf)
      | (refine WpN.seq (WpN.vc ?_)
         conv=>whnf)
      | (refine WpN.vc ?_
         conv=>whnf)
      | (refine WpS.rounds (WpS.round (VC_ok ?_))
         conv=>whnf)
      | (refine WpS.round (VC_ok ?_)
         conv=>whnf)
      | (refine And.intro (by first | rfl | decide) ?_
         conv=>whnf)
      | (refine .inl ⟨by decide +kernel, ?_⟩
         conv=>whnf)
      | refine CallQ.inlineN Proofs.Tryz.f85 rfl rfl rfl rfl rfl ?_
      | refine CallQ.inlineN Proofs.Tryz.f102 rfl rfl rfl rfl rfl ?_
      | fail)
  exact ⟨[], .c (.i .u32 1), [some (.st (dcd 16 2 35 8589934 5671517))], by kernel_rfl, by kernel_rfl, (by repeat' (first | exact trivial | refine And.intro ?_ ?_ | kernel_rfl)), rfl, rfl⟩
theorem f57a : FnS 57 [.c (.p 0 0), .c (.i .u32 1000)] [some (.st (dcd 16 0 33 2147483648 478117887))] fun v l' => v = .tu [.c (.i .u32 777), .c (.b true)] ∧ l' = [some (.st (dcd 16 2 35 8589934 5671517))] := by
  refine FnS.wpR (b := 1) Proofs.Tryz.f57 rfl rfl rfl rfl rfl rfl ?_
  repeat' (first
      | (refine ⟨fun _=>?_, fun h => absurd h (by decide)⟩
         conv=>whnf)
      | (refine ⟨fun h => absurd h (by decide), fun _=>?_⟩
         conv=>whnf)
      | (refine WpN.seq (WpN.vc ?_)
         conv=>whnf)
      | (refine WpN.vc ?_
         conv=>whnf)
      | (refine WpS.rounds (WpS.round (VC_ok ?_))
         conv=>whnf)
      | (refine WpS.round (VC_ok ?_)
         conv=>whnf)
      | (refine And.intro (by first | rfl | decide) ?_
         conv=>whnf)
      | (refine .inl ⟨by decide +kernel, ?_⟩
         conv=>whnf)
      | (refine CallQ.use [] l30_999 rfl rfl trivial ?_
         rintro v l' ⟨rfl, rfl⟩
         conv=>whnf)
      | (refine CallQ.use [0] f84a rfl rfl ⟨rfl, trivial⟩ ?_
         rintro v l' ⟨rfl, rfl⟩
         conv=>whnf)
      | (refine CallQ.use [0] f58a rfl rfl ⟨rfl, trivial⟩ ?_
         rintro v l' ⟨rfl, rfl⟩
         conv=>whnf)
      | fail)
  exact ⟨[], .tu [.c (.i .u32 777), .c (.b true)], [some (.st (dcd 16 2 35 8589934 5671517))], by kernel_rfl, by kernel_rfl, (by repeat' (first | exact trivial | refine And.intro ?_ ?_ | kernel_rfl)), rfl, rfl⟩
theorem f17a : FnS 17 [.c (.p 0 0)] [some (.st (dcd 16 2 35 8589934 5671517))] fun v l' => v = .c (.i .u32 8589934) ∧ l' = [some (.st (dcd 16 2 35 8589934 5671517))] := by
  refine FnS.wpR (b := 1) Proofs.Tryz.f17 rfl rfl rfl rfl rfl rfl ?_
  repeat' (first
      | (refine ⟨fun _=>?_, fun h => absurd h (by decide)⟩
         conv=>whnf)
      | (refine ⟨fun h => absurd h (by decide), fun _=>?_⟩
         conv=>whnf)
      | (refine WpN.seq (WpN.vc ?_)
         conv=>whnf)
      | (refine WpN.vc ?_
         conv=>whnf)
      | (refine WpS.rounds (WpS.round (VC_ok ?_))
         conv=>whnf)
      | (refine WpS.round (VC_ok ?_)
         conv=>whnf)
      | (refine And.intro (by first | rfl | decide) ?_
         conv=>whnf)
      | (refine .inl ⟨by decide +kernel, ?_⟩
         conv=>whnf)
      | fail)
  exact ⟨[], .c (.i .u32 8589934), [some (.st (dcd 16 2 35 8589934 5671517))], by kernel_rfl, by kernel_rfl, (by repeat' (first | exact trivial | refine And.intro ?_ ?_ | kernel_rfl)), rfl, rfl⟩
theorem f18a : FnS 18 [.c (.p 0 0)] [some (.st (dcd 16 2 35 8589934 5671517))] fun v l' => v = .c (.i .u64 11) ∧ l' = [some (.st (dcd 16 2 35 8589934 5671517))] := by
  refine FnS.wpR (b := 1) Proofs.Tryz.f18 rfl rfl rfl rfl rfl rfl ?_
  repeat' (first
      | (refine ⟨fun _=>?_, fun h => absurd h (by decide)⟩
         conv=>whnf)
      | (refine ⟨fun h => absurd h (by decide), fun _=>?_⟩
         conv=>whnf)
      | (refine WpN.seq (WpN.vc ?_)
         conv=>whnf)
      | (refine WpN.vc ?_
         conv=>whnf)
      | (refine WpS.rounds (WpS.round (VC_ok ?_))
         conv=>whnf)
      | (refine WpS.round (VC_ok ?_)
         conv=>whnf)
      | (refine And.intro (by first | rfl | decide) ?_
         conv=>whnf)
      | (refine .inl ⟨by decide +kernel, ?_⟩
         conv=>whnf)
      | (refine CallQ.use [] l30_8589934 rfl rfl trivial ?_
         rintro v l' ⟨rfl, rfl⟩
         conv=>whnf)
      | fail)
  exact ⟨[], .c (.i .u64 11), [some (.st (dcd 16 2 35 8589934 5671517))], by kernel_rfl, by kernel_rfl, (by repeat' (first | exact trivial | refine And.intro ?_ ?_ | kernel_rfl)), rfl, rfl⟩
theorem f61a : FnS 61 [.c (.p 0 0)] [some (.st (dcd 16 2 35 8589934 5671517))] fun v l' => v = .c (.i .u64 88) ∧ l' = [some (.st (dcd 16 2 35 8589934 5671517))] := by
  refine FnS.wpR (b := 1) Proofs.Tryz.f61 rfl rfl rfl rfl rfl rfl ?_
  repeat' (first
      | (refine ⟨fun _=>?_, fun h => absurd h (by decide)⟩
         conv=>whnf)
      | (refine ⟨fun h => absurd h (by decide), fun _=>?_⟩
         conv=>whnf)
      | (refine WpN.seq (WpN.vc ?_)
         conv=>whnf)
      | (refine WpN.vc ?_
         conv=>whnf)
      | (refine WpS.rounds (WpS.round (VC_ok ?_))
         conv=>whnf)
      | (refine WpS.round (VC_ok ?_)
         conv=>whnf)
      | (refine And.intro (by first | rfl | decide) ?_
         conv=>whnf)
      | (refine .inl ⟨by decide +kernel, ?_⟩
         conv=>whnf)
      | (refine CallQ.use [] l30_8589934 rfl rfl trivial ?_
         rintro v l' ⟨rfl, rfl⟩
         conv=>whnf)
      | fail)
  exact ⟨[], .c (.i .u64 88), [some (.st (dcd 16 2 35 8589934 5671517))], by kernel_rfl, by kernel_rfl, (by repeat' (first | exact trivial | refine And.intro ?_ ?_ | kernel_rfl)), rfl, rfl⟩
theorem f62a : FnS 62 [.c (.p 0 0)] [some (.st (dcd 16 2 35 8589934 5671517))] fun v l' => v = .c (.i .i64 (-2)) ∧ l' = [some (.st (dcd 16 2 35 8589934 5671517))] := by
  refine FnS.wpR (b := 1) Proofs.Tryz.f62 rfl rfl rfl rfl rfl rfl ?_
  repeat' (first
      | (refine ⟨fun _=>?_, fun h => absurd h (by decide)⟩
         conv=>whnf)
      | (refine ⟨fun h => absurd h (by decide), fun _=>?_⟩
         conv=>whnf)
      | (refine WpN.seq (WpN.vc ?_)
         conv=>whnf)
      | (refine WpN.vc ?_
         conv=>whnf)
      | (refine WpS.rounds (WpS.round (VC_ok ?_))
         conv=>whnf)
      | (refine WpS.round (VC_ok ?_)
         conv=>whnf)
      | (refine And.intro (by first | rfl | decide) ?_
         conv=>whnf)
      | (refine .inl ⟨by decide +kernel, ?_⟩
         conv=>whnf)
      | fail)
  exact ⟨[], .c (.i .i64 (-2)), [some (.st (dcd 16 2 35 8589934 5671517))], by kernel_rfl, by kernel_rfl, (by repeat' (first | exact trivial | refine And.intro ?_ ?_ | kernel_rfl)), rfl, rfl⟩
@[reducible] def S26 : List C := [.i .i64 777, .b true, .i .u32 8589934, .i .u32 11, .i .u32 88, .i .i64 (-2)]
theorem f26a : FnS 26 [.c (.s (strOf [199, 1])), .c (.irs 6 [R24])] [] fun v l' => v = .tu [.c (.osl 0 1), .c (.i .i64 0)] ∧ l' = [some (.rs true 6 [S26])] := by
  refine FnS.wpD (b := 0) (n := 124) Proofs.Tryz.f26 rfl rfl rfl rfl rfl rfl idle52 enter52 rfl (by decide) ?_
  refine WpN.vc ?_
  conv=>whnf
  refine ⟨rfl, ?_⟩
  refine WpN.seq (WpN.vc ?_)
  conv=>whnf
  repeat' (first
      | (refine ⟨fun _=>?_, fun h => absurd h (by decide)⟩
         conv=>whnf)
      | (refine ⟨fun h => absurd h (by decide), fun _=>?_⟩
         conv=>whnf)
      | (refine WpN.seq (WpN.vc ?_)
         conv=>whnf)
      | (refine WpN.vc ?_
         conv=>whnf)
      | (refine WpS.rounds (WpS.round (VC_ok ?_))
         conv=>whnf)
      | (refine WpS.round (VC_ok ?_)
         conv=>whnf)
      | (refine And.intro (by first | rfl | decide) ?_
         conv=>whnf)
      | (refine .inl ⟨by decide +kernel, ?_⟩
         conv=>whnf)
      | (refine CallQ.use [2] f28a rfl rfl ⟨rfl, trivial⟩ ?_
         rintro v l' ⟨rfl, rfl⟩
         conv=>whnf)
      | (refine CallQ.use [2] f57a rfl rfl ⟨rfl, trivial⟩ ?_
         rintro v l' ⟨rfl, rfl⟩
         conv=>whnf)
      | (refine CallQ.use [2] f17a rfl rfl ⟨rfl, trivial⟩ ?_
         rintro v l' ⟨rfl, rfl⟩
         conv=>whnf)
      | (refine CallQ.use [2] f18a rfl rfl ⟨rfl, trivial⟩ ?_
         rintro v l' ⟨rfl, rfl⟩
         conv=>whnf)
      | (refine CallQ.use [2] f61a rfl rfl ⟨rfl, trivial⟩ ?_
         rintro v l' ⟨rfl, rfl⟩
         conv=>whnf)
      | (refine CallQ.use [2] f62a rfl rfl ⟨rfl, trivial⟩ ?_
         rintro v l' ⟨rfl, rfl⟩
         conv=>whnf)
      | fail)
  exact ⟨[(0, 6)], .tu [.c (.osl 0 1), .c (.i .i64 0)], [some (.rs true 6 [S26])], rfl, by kernel_rfl, (by repeat' (first | exact trivial | refine And.intro ?_ ?_ | kernel_rfl)), rfl, rfl⟩
theorem f26 : FnS 26 [.c (.s (strOf [199, 1])), .c (.irs 6 [R24])] [] fun v l' => v = .tu [.c (.irs 6 [S26]), .c (.i .i64 0)] ∧ l' = [] := by
  refine FnS.behind f26a ?_
  rintro v l' ⟨rfl, rfl⟩
  exact ⟨_, _, ⟨rfl, rfl⟩, (RelM.frz1 (b := 0) (nx := 1) (c := .osl 0 1) (c' := .irs 6 [S26]) (vs := [.c (.i .i64 0)]) (φ := 1 = 1) rfl rfl (by decide) rfl).to [] trivial rfl rfl (Nat.zero_le _)⟩
theorem f10 : FnS 10 [] [] fun v l' => v = .c (.b true) ∧ l' = [] := by
  refine FnS.wpR (b := 0) Proofs.Tryz.f10 rfl rfl rfl rfl rfl rfl ?_
  repeat' (first
      | (refine ⟨fun _=>?_, fun h => absurd h (by decide)⟩
         conv=>whnf)
      | (refine ⟨fun h => absurd h (by decide), fun _=>?_⟩
         conv=>whnf)
      | (refine WpN.seq (WpN.vc ?_)
         conv=>whnf)
      | (refine WpN.vc ?_
         conv=>whnf)
      | (refine WpS.rounds (WpS.round (VC_ok ?_))
         conv=>whnf)
      | (refine WpS.round (VC_ok ?_)
         conv=>whnf)
      | (refine And.intro (by first | rfl | decide) ?_
         conv=>whnf)
      | (refine .inl ⟨by decide +kernel, ?_⟩
         conv=>whnf)
      | (refine CallQ.use [0] f24 rfl rfl ⟨rfl, trivial⟩ ?_
         rintro v l' ⟨rfl, rfl⟩
         conv=>whnf)
      | (refine CallQ.use [] f25a rfl rfl trivial ?_
         rintro v l' ⟨rfl, rfl⟩
         conv=>whnf)
      | (refine CallQ.use [] f26 rfl rfl trivial ?_
         rintro v l' ⟨rfl, rfl⟩
         conv=>whnf)
      | fail)
  exact ⟨[], .c (.b true), [], by kernel_rfl, by kernel_rfl, trivial, rfl, rfl⟩
theorem f4w (l : List Fi) : FnS 4 [.c (.irs 4 (l.map Fi.row))] [] fun v l' => v = .c (.b true) ∧ l' = [] := f4 f10 l
end Go.SX
namespace Go.Proofs
open Go.Shelf
def Tryz.laysM173_ren : Go.Shelf.Ren := ⟨fun | 173 => 38 | 246 => 73 | 283 => 98 | 284 => 99 | 285 => 100 | 286 => 101 | 129 => 130 | 317 => 129 | 318 => 131 | 319 => 132 | 320 => 133 | 337 => 195 | 338 => 196 | n => n, fun | 2 => 2 | 3 => 3 | 9 => 9 | 4 => 4 | 171 => 164 | 0 => 0 | 53 => 117 | 37 => 49 | 5 => 5 | 173 => 167 | 212 => 193 | 51 => 37 | 20 => 20 | 213 => 194 | 46 => 50 | 232 => 238 | 233 => 239 | n => n, fun | 17 => 1 | 18 => 2 | 19 => 3 | n => n⟩
theorem Tryz.laysM173 : Go.Proofs.LaysM.n173 Tryz.prog Tryz.laysM173_ren := {
  mixed := by kernel_rfl
  f129 := Tryz.func130.trans (congrArg some (by kernel_rfl))
  f173 := Tryz.func38.trans (congrArg some (by kernel_rfl))
  f246 := Tryz.func73.trans (congrArg some (by kernel_rfl))
  f283 := Tryz.func98.trans (congrArg some (by kernel_rfl))
  f284 := Tryz.func99.trans (congrArg some (by kernel_rfl))
  f285 := Tryz.func100.trans (congrArg some (by kernel_rfl))
  f286 := Tryz.func101.trans (congrArg some (by kernel_rfl))
  f317 := Tryz.func129.trans (congrArg some (by kernel_rfl))
  f318 := Tryz.func131.trans (congrArg some (by kernel_rfl))
  f319 := Tryz.func132.trans (congrArg some (by kernel_rfl))
  f320 := Tryz.func133.trans (congrArg some (by kernel_rfl))
  f337 := Tryz.func195.trans (congrArg some (by kernel_rfl))
  f338 := Tryz.func196.trans (congrArg some (by kernel_rfl))
  t0 := Tryz.underlying0
  a0 := Tryz.isAgg0
  z0 := Tryz.sizeOf0
  v0 := Tryz.zeroValue0
  t2 := Tryz.underlying2
  a2 := Tryz.isAgg2
  z2 := Tryz.sizeOf2
  v2 := Tryz.zeroValue2
  t3 := Tryz.underlying3
  a3 := Tryz.isAgg3
  z3 := Tryz.sizeOf3
  v3 := Tryz.zeroValue3
  t4 := Tryz.underlying4
  a4 := Tryz.isAgg4
  z4 := Tryz.sizeOf4
  v4 := Tryz.zeroValue4
  t5 := Tryz.underlying5
  a5 := Tryz.isAgg5
  z5 := Tryz.sizeOf5
  v5 := Tryz.zeroValue5
  t9 := Tryz.underlying9
  a9 := Tryz.isAgg9
  z9 := Tryz.sizeOf9
  v9 := Tryz.zeroValue9
  t20 := Tryz.underlying20
  a20 := Tryz.isAgg20
  z20 := Tryz.sizeOf20
  v20 := Tryz.zeroValue20
  t37 := Tryz.underlying49
  a37 := Tryz.isAgg49
  z37 := Tryz.sizeOf49
  v37 := Tryz.zeroValue49
  t46 := Tryz.underlying50
  a46 := Tryz.isAgg50
  z46 := Tryz.sizeOf50
  v46 := Tryz.zeroValue50
  t51 := Tryz.underlying37
  a51 := Tryz.isAgg37
  z51 := Tryz.sizeOf37
  v51 := Tryz.zeroValue37
  t53 := Tryz.underlying117
  a53 := Tryz.isAgg117
  z53 := Tryz.sizeOf117
  v53 := Tryz.zeroValue117
  t171 := Tryz.underlying164
  a171 := Tryz.isAgg164
  z171 := Tryz.sizeOf164
  v171 := Tryz.zeroValue164
  t173 := Tryz.underlying167
  a173 := Tryz.isAgg167
  z173 := Tryz.sizeOf167
  v173 := Tryz.zeroValue167
  t212 := Tryz.underlying193
  a212 := Tryz.isAgg193
  z212 := Tryz.sizeOf193
  v212 := Tryz.zeroValue193
  t213 := Tryz.underlying194
  a213 := Tryz.isAgg194
  z213 := Tryz.sizeOf194
  t232 := Tryz.underlying238
  a232 := Tryz.isAgg238
  z232 := Tryz.sizeOf238
  v232 := Tryz.zeroValue238
  t233 := Tryz.underlying239
  a233 := Tryz.isAgg239
  z233 := Tryz.sizeOf239
  v233 := Tryz.zeroValue239
  g17 := by kernel_rfl
  g18 := by kernel_rfl
  g19 := by kernel_rfl
  i0 := by kernel_rfl
  i2 := by kernel_rfl
  i3 := by kernel_rfl
  i4 := by kernel_rfl
  i5 := by kernel_rfl
  i9 := by kernel_rfl
  i20 := by kernel_rfl
  i37 := by kernel_rfl
  i46 := by kernel_rfl
  i51 := by kernel_rfl
  i53 := by kernel_rfl
  i171 := by kernel_rfl
  i173 := by kernel_rfl
  i212 := by kernel_rfl
  i232 := by kernel_rfl
  i233 := by kernel_rfl
  m17 := by kernel_rfl
  m18 := by kernel_rfl
  m19 := by kernel_rfl }
open Go.RowKit Go.Sort Go.Lib in
theorem Tryz.strconv_FormatInt_10 (n : Int) (h0 : -9223372036854775808 ≤ n) (h1 : n ≤ 9223372036854775807) (w : World) (htab : Lib.TabIs Tryz.prog w "internal/strconv.uint64pow10" .u64 Lib.pow10Tab) :
    Calls Tryz.prog 38 #[.int .i64 n, .int .i64 10] w fun e w' => e = .returned (.string ⟨(Lib.itoa n).toArray⟩) ∧ ∃ k os, w' = grow (w.drewN k) os := Any.strconv_FormatInt_10 Tryz.laysM173 n h0 h1 w htab
end Go.Proofs
namespace Go.SX
open Go
def GLP : List (Nat × Array Value) := [(1, (Lib.pow10Tab.map fun z => Value.int .u64 z).toArray)]
theorem Hs.wider {H : Hp} {st : Nat → Option B} {nx : Nat} {X : Ctx} (g : Hs H st nx X) (w' : World) (hs : X.w.heap.size ≤ w'.heap.size) (hh : ∀ b, b < X.w.heap.size → w'.heap[b]? = X.w.heap[b]?) (ho : w'.os = X.w.os ∧ w'.output = X.w.output) :
    Hs H st nx ⟨X.ν, X.I, w'⟩ ∧ Step nx X ⟨X.ν, X.I, w'⟩ := by
  have hc : ∀ (b : Addr) u, X.I b.block → X.w.cell? b = some u → w'.cell? b = some u := fun b u hb h => by rw [cell_of_heap (w := X.w) (hh _ (g.imm _ hb).1)]; exact h
  exact ⟨{ blk := fun nm x h => (g.blk nm x h).mono _ rfl (fun b c hb => hh b (g.lt h hb)) (fun _ _ => rfl) (fun _ h => h) hc, inj := g.inj, sep := g.sep, bd := g.bd, fr := fun b h1 h2 => (hh b (Nat.lt_of_lt_of_le h1 g.sz)).trans (g.fr b h1 h2), sz := Nat.le_trans g.sz hs,
           imm := fun b h => ⟨Nat.lt_of_lt_of_le (g.imm b h).1 hs, (g.imm b h).2⟩, out := ⟨ho.1.trans g.out.1, ho.2.trans g.out.2⟩, gl := g.gl.mono (fun _ h => h) fun b hb => hh b (g.imm b hb).1 }, ⟨fun _ _ => rfl, fun _ h => h, hc⟩⟩
theorem tab_is (hG : GL = GLP) {X : Ctx} (h : Gl X) : Lib.TabIs Proofs.Tryz.prog X.w "internal/strconv.uint64pow10" .u64 Lib.pow10Tab := by
  obtain ⟨_, ty, fr, h1⟩ := h (1, (Lib.pow10Tab.map fun z => Value.int .u64 z).toArray) (by rw [hG]; exact List.mem_cons_self)
  have hg : Proofs.Tryz.prog.globalNamed "internal/strconv.uint64pow10" = some 1 := by kernel_rfl
  unfold Lib.TabIs World.var?
  rw [hg]
  simp only [Option.bind_some, h1]
theorem itoa_len (n : Int) (h0 : -9223372036854775808 ≤ n) (h1 : n ≤ 9223372036854775807) : (Lib.itoa n).length ≤ 21 := by
  unfold Lib.itoa
  split
  · have := Lib.nDigits_le20 n.natAbs (by omega)
    simp only [List.length_cons, Lib.decDigits_length]; omega
  · have := Lib.nDigits_le20 n.toNat (by omega)
    simp only [Lib.decDigits_length]; omega
theorem f38 (hG : GL = GLP) (n : Int) (h0 : -9223372036854775808 ≤ n) (h1 : n ≤ 9223372036854775807) :
    FnS 38 [.c (.i .i64 n), .c (.i .i64 10)] [] fun v l' => ∃ s : ByteArray, v = .c (.s s) ∧ s.size ≤ 21 ∧ l' = [] := by
  refine ⟨.c (.s ⟨(Lib.itoa n).toArray⟩), [], ⟨_, rfl, by simpa [ByteArray.size] using itoa_len n h0 h1, rfl⟩, { enter := ⟨Proofs.Tryz.f38, rfl, rfl, rfl⟩, le := Nat.le_refl _, has := fun nm h => by cases h with | c h => exact h.elim, run := fun H X us g hl hd => ?_ }⟩
  obtain ⟨u0, u1, rfl⟩ : ∃ u0 u1, us = [u0, u1] := by
    match us, hl with
    | [a, b], _ => exact ⟨a, b, rfl⟩
  have d0 := (hd 0 _ u0 rfl rfl).1
  have d1 := (hd 1 _ u1 rfl rfl).1
  cases d0 with | c d0 =>
  cases d1 with | c d1 =>
  cases d0
  cases d1
  refine (Proofs.Tryz.strconv_FormatInt_10 n h0 h1 X.w (tab_is hG g.gl)).mono fun e w' ⟨he, k, os, hw⟩ => ?_
  subst he hw
  have hh : (X.w.drewN k).heap = X.w.heap := rfl
  obtain ⟨g', s'⟩ := g.wider (Sort.grow (X.w.drewN k) os) (by rw [Sort.size_grow, hh]; omega) (fun b hb => by rw [Sort.heap_grow_old _ _ (by rw [hh]; exact hb), hh]) ⟨rfl, rfl⟩
  exact ⟨_, _, rfl, rfl, g', s', .c .s⟩
end Go.SX
