/- A part of the proof: the SILK decoder of the given program, walked by an executor that is proved sound. No statement of the program is proved in this text. -/
import Derived.Test.YtojdfjohmicopaaGreatDoorK38
set_option linter.all false
set_option maxRecDepth 100000
namespace Go.SX
open Go
@[reducible] def enc (a b : C) (w ne r v re ex nb : Int) : List C := [a, b, .i .u64 w, .i .u64 ne, .i .u32 r, .i .u32 v, .i .i64 re, .i .i64 ex, .i .u64 nb]
theorem l30_999 : FnS 30 [.c (.i .u32 999)] [] fun v l' => v = .c (.i .i64 10) ∧ l' = [] := by
  refine FnS.wpR (b := 0) Proofs.Tryz.f30 rfl rfl rfl rfl rfl rfl ?_
  repeat' (first
      | (refine ⟨fun _=>?_, fun h => absurd h (by decide)⟩
         conv=>whnf)
      | (refine ⟨fun h => absurd h (by decide), fun _=>?_⟩
         conv=>whnf)
      | (refine WpN.seq (WpN.vc ?_)
         conv=>whnf)
      | (refine WpN.vc ?_
         conv=>whnf)
      | (refine WpS.rounds (WpS.round (VC_ok ?_))
         conv=>whnf)
      | (refine WpS.round (VC_ok ?_)
         conv=>whnf)
      | (refine And.intro (by first | rfl | decide) ?_
         conv=>whnf)
      | (refine .inl ⟨by decide +kernel, ?_⟩
         conv=>whnf)
      | fail)
  exact ⟨[], .c (.i .i64 10), [], by kernel_rfl, by kernel_rfl, trivial, rfl, rfl⟩
theorem l30_8589934 : FnS 30 [.c (.i .u32 8589934)] [] fun v l' => v = .c (.i .i64 24) ∧ l' = [] := by
  refine FnS.wpR (b := 0) Proofs.Tryz.f30 rfl rfl rfl rfl rfl rfl ?_
  repeat' (first
      | (refine ⟨fun _=>?_, fun h => absurd h (by decide)⟩
         conv=>whnf)
      | (refine ⟨fun h => absurd h (by decide), fun _=>?_⟩
         conv=>whnf)
      | (refine WpN.seq (WpN.vc ?_)
         conv=>whnf)
      | (refine WpN.vc ?_
         conv=>whnf)
      | (refine WpS.rounds (WpS.round (VC_ok ?_))
         conv=>whnf)
      | (refine WpS.round (VC_ok ?_)
         conv=>whnf)
      | (refine And.intro (by first | rfl | decide) ?_
         conv=>whnf)
      | (refine .inl ⟨by decide +kernel, ?_⟩
         conv=>whnf)
      | fail)
  exact ⟨[], .c (.i .i64 24), [], by kernel_rfl, by kernel_rfl, trivial, rfl, rfl⟩
theorem f45a : FnS 45 [.c (.p 0 0), .c (.i .u32 1000), .c (.i .u32 777)] [some (.st (enc .nsl .nsl 0 0 2147483648 0 (-1) 0 33))] fun v l' => v = .tu [] ∧ l' = [some (.st (enc .nsl .nsl 1 2 8589934 1666447344 (-1) 0 35))] := by
  refine FnS.wpR (b := 1) Proofs.Tryz.f45 rfl rfl rfl rfl rfl rfl ?_
  repeat' (first
      | (refine ⟨fun _=>?_, fun h => absurd h (by decide)⟩
         conv=>whnf)
      | (refine ⟨fun h => absurd h (by decide), fun _=>?_⟩
         conv=>whnf)
      | (refine WpN.seq (WpN.vc ?_)
         conv=>whnf)
      | (refine WpN.vc ?_
         conv=>whnf)
      | (refine WpS.rounds (WpS.round (VC_ok ?_))
         conv=>whnf)
      | (refine WpS.round (VC_ok ?_)
         conv=>whnf)
      | (refine And.intro (by first | rfl | decide) ?_
         conv=>whnf)
      | (refine .inl ⟨by decide +kernel, ?_⟩
         conv=>whnf)
      | refine CallQ.inlineN Proofs.Tryz.f41 rfl rfl rfl rfl rfl ?_
      | refine CallQ.inlineN Proofs.Tryz.f74 rfl rfl rfl rfl rfl ?_
      | refine CallQ.inlineN Proofs.Tryz.f46 rfl rfl rfl rfl rfl ?_
      | refine CallQ.inlineN Proofs.Tryz.f75 rfl rfl rfl rfl rfl ?_
      | (refine CallQ.use [] l30_999 rfl rfl trivial ?_
         rintro v l' ⟨rfl, rfl⟩
         conv=>whnf)
      | fail)
  exact ⟨[], .tu [], [some (.st (enc .nsl .nsl 1 2 8589934 1666447344 (-1) 0 35))], rfl, by kernel_rfl, (by repeat' (first | exact trivial | refine And.intro ?_ ?_ | kernel_rfl)), rfl, rfl⟩
abbrev E2 : List C := enc (.osl 4 2) .nsl 1 2 8589934 1666447344 0 0 35
theorem f51a : FnS 51 [.c (.p 0 0)] [some (.st (enc .nsl .nsl 1 2 8589934 1666447344 (-1) 0 35))] fun v l' => v = .c (.sl 1 0 2 2) ∧ l' = [none, some (.ar false .u8 [199, 1])] := by
  refine FnS.wpR (b := 1) Proofs.Tryz.f51 rfl rfl rfl rfl rfl rfl ?_
  repeat' (first
      | (refine ⟨fun _=>?_, fun h => absurd h (by decide)⟩
         conv=>whnf)
      | (refine ⟨fun h => absurd h (by decide), fun _=>?_⟩
         conv=>whnf)
      | (refine WpN.seq (WpN.vc ?_)
         conv=>whnf)
      | (refine WpN.vc ?_
         conv=>whnf)
      | (refine WpS.rounds (WpS.round (VC_ok ?_))
         conv=>whnf)
      | (refine WpS.round (VC_ok ?_)
         conv=>whnf)
      | (refine And.intro (by first | rfl | decide) ?_
         conv=>whnf)
      | (refine .inl ⟨by decide +kernel, ?_⟩
         conv=>whnf)
      | refine CallQ.inlineN Proofs.Tryz.f77 rfl rfl rfl rfl rfl ?_
      | refine CallQ.inlineN Proofs.Tryz.f78 rfl rfl rfl rfl rfl ?_
      | refine CallQ.inlineN Proofs.Tryz.f80 rfl rfl rfl rfl rfl ?_
      | refine CallQ.inlineN Proofs.Tryz.f79 rfl rfl rfl rfl rfl ?_
      | refine CallQ.inlineN Proofs.Tryz.f75 rfl rfl rfl rfl rfl ?_
      | (refine CallQ.use [] l30_8589934 rfl rfl trivial ?_
         rintro v l' ⟨rfl, rfl⟩
         conv=>whnf)
      | fail)
  refine .inr (WpS.draw [0, 0, 0, 1, 0, 0, 0, 0, 1, 0, 0, 0, 0, 2, 2, 0, 2, 0] (fun st2 => st2 0 = some (.st E2)) (by kernel_rfl) ?_)
  conv=>whnf
  refine ⟨.c (.osl 4 2), ⟨rfl, fun st2 h2 => ⟨_, h2, .inl rfl⟩⟩, ?_⟩
  conv=>whnf
  refine ⟨.c .nsl, ⟨rfl, fun st2 h2 => ⟨_, h2, .inl rfl⟩⟩, ?_⟩
  conv=>whnf
  repeat' (first
      | (refine ⟨fun _=>?_, fun h => absurd h (by decide)⟩
         conv=>whnf)
      | (refine ⟨fun h => absurd h (by decide), fun _=>?_⟩
         conv=>whnf)
      | (refine WpN.seq (WpN.vc ?_)
         conv=>whnf)
      | (refine WpN.vc ?_
         conv=>whnf)
      | (refine WpS.rounds (WpS.round (VC_ok ?_))
         conv=>whnf)
      | (refine WpS.round (VC_ok ?_)
         conv=>whnf)
      | (refine And.intro (by first | rfl | decide) ?_
         conv=>whnf)
      | (refine .inl ⟨by decide +kernel, ?_⟩
         conv=>whnf)
      | refine CallQ.inlineN Proofs.Tryz.f77 rfl rfl rfl rfl rfl ?_
      | refine CallQ.inlineN Proofs.Tryz.f78 rfl rfl rfl rfl rfl ?_
      | refine CallQ.inlineN Proofs.Tryz.f80 rfl rfl rfl rfl rfl ?_
      | refine CallQ.inlineN Proofs.Tryz.f79 rfl rfl rfl rfl rfl ?_
      | refine CallQ.inlineN Proofs.Tryz.f75 rfl rfl rfl rfl rfl ?_
      | (refine CallQ.use [] l30_8589934 rfl rfl trivial ?_
         rintro v l' ⟨rfl, rfl⟩
         conv=>whnf)
      | fail)
  refine OpQ.mk _ _ _ (fun o ho => OpX.copyO (t := 49) (cd := .sl 5 0 2 2) (nm2 := 4) (n2 := 2) (v := .c (.i .i64 2)) (st' := upd _ 5 (.ar false .u8 [199, 0])) (nx' := _) ho rfl rfl (fun c2 => .inr ⟨_, rfl, by decide⟩)) ?_
  conv=>whnf
  repeat' (first
      | (refine ⟨fun _=>?_, fun h => absurd h (by decide)⟩
         conv=>whnf)
      | (refine ⟨fun h => absurd h (by decide), fun _=>?_⟩
         conv=>whnf)
      | (refine WpN.seq (WpN.vc ?_)
         conv=>whnf)
      | (refine WpN.vc ?_
         conv=>whnf)
      | (refine WpS.rounds (WpS.round (VC_ok ?_))
         conv=>whnf)
      | (refine WpS.round (VC_ok ?_)
         conv=>whnf)
      | (refine And.intro (by first | rfl | decide) ?_
         conv=>whnf)
      | (refine .inl ⟨by decide +kernel, ?_⟩
         conv=>whnf)
      | refine CallQ.inlineN Proofs.Tryz.f77 rfl rfl rfl rfl rfl ?_
      | refine CallQ.inlineN Proofs.Tryz.f78 rfl rfl rfl rfl rfl ?_
      | refine CallQ.inlineN Proofs.Tryz.f80 rfl rfl rfl rfl rfl ?_
      | refine CallQ.inlineN Proofs.Tryz.f79 rfl rfl rfl rfl rfl ?_
      | refine CallQ.inlineN Proofs.Tryz.f75 rfl rfl rfl rfl rfl ?_
      | (refine CallQ.use [] l30_8589934 rfl rfl trivial ?_
         rintro v l' ⟨rfl, rfl⟩
         conv=>whnf)
      | fail)
  refine .inr (WpS.draw [0, 0, 0, 1, 0, 0, 0, 1, 2, 0, 0, 0, 0] (fun st2 => st2 0 = some (.st E2)) (by kernel_rfl) ?_)
  conv=>whnf
  refine ⟨.c (.i .u64 1), ⟨rfl, fun st2 h2 => ⟨_, h2, .inl rfl⟩⟩, ?_⟩
  conv=>whnf
  refine ⟨.c (.i .u64 2), ⟨rfl, fun st2 h2 => ⟨_, h2, .inl rfl⟩⟩, ?_⟩
  conv=>whnf
  repeat' (first
      | (refine ⟨fun _=>?_, fun h => absurd h (by decide)⟩
         conv=>whnf)
      | (refine ⟨fun h => absurd h (by decide), fun _=>?_⟩
         conv=>whnf)
      | (refine WpN.seq (WpN.vc ?_)
         conv=>whnf)
      | (refine WpN.vc ?_
         conv=>whnf)
      | (refine WpS.rounds (WpS.round (VC_ok ?_))
         conv=>whnf)
      | (refine WpS.round (VC_ok ?_)
         conv=>whnf)
      | (refine And.intro (by first | rfl | decide) ?_
         conv=>whnf)
      | (refine .inl ⟨by decide +kernel, ?_⟩
         conv=>whnf)
      | refine CallQ.inlineN Proofs.Tryz.f77 rfl rfl rfl rfl rfl ?_
      | refine CallQ.inlineN Proofs.Tryz.f78 rfl rfl rfl rfl rfl ?_
      | refine CallQ.inlineN Proofs.Tryz.f80 rfl rfl rfl rfl rfl ?_
      | refine CallQ.inlineN Proofs.Tryz.f79 rfl rfl rfl rfl rfl ?_
      | refine CallQ.inlineN Proofs.Tryz.f75 rfl rfl rfl rfl rfl ?_
      | (refine CallQ.use [] l30_8589934 rfl rfl trivial ?_
         rintro v l' ⟨rfl, rfl⟩
         conv=>whnf)
      | fail)
  exact ⟨[(1, 5)], .c (.sl 1 0 2 2), [none, some (.ar false .u8 [199, 1])], rfl, by kernel_rfl, (by repeat' (first | exact trivial | refine And.intro ?_ ?_ | kernel_rfl)), rfl, rfl⟩
abbrev E1 : List C := enc .nsl .nsl 1 2 8589934 1666447344 (-1) 0 35
theorem f48a : FnS 48 [.c (.p 0 0)] [some (.st E1)] fun v l' => v = .c (.i .u32 8589934) ∧ l' = [some (.st E1)] := by
  refine FnS.wpR (b := 1) Proofs.Tryz.f48 rfl rfl rfl rfl rfl rfl ?_
  repeat' (first
      | (refine ⟨fun _=>?_, fun h => absurd h (by decide)⟩
         conv=>whnf)
      | (refine ⟨fun h => absurd h (by decide), fun _=>?_⟩
         conv=>whnf)
      | (refine WpN.seq (WpN.vc ?_)
         conv=>whnf)
      | (refine WpN.vc ?_
         conv=>whnf)
      | (refine WpS.rounds (WpS.round (VC_ok ?_))
         conv=>whnf)
      | (refine WpS.round (VC_ok ?_)
         conv=>whnf)
      | (refine And.intro (by first | rfl | decide) ?_
         conv=>whnf)
      | (refine .inl ⟨by decide +kernel, ?_⟩
         conv=>whnf)
      | fail)
  exact ⟨[], .c (.i .u32 8589934), [some (.st E1)], rfl, by kernel_rfl, (by repeat' (first | exact trivial | refine And.intro ?_ ?_ | kernel_rfl)), rfl, rfl⟩
theorem f49a : FnS 49 [.c (.p 0 0)] [some (.st E1)] fun v l' => v = .c (.i .u64 11) ∧ l' = [some (.st E1)] := by
  refine FnS.wpR (b := 1) Proofs.Tryz.f49 rfl rfl rfl rfl rfl rfl ?_
  repeat' (first
      | (refine ⟨fun _=>?_, fun h => absurd h (by decide)⟩
         conv=>whnf)
      | (refine ⟨fun h => absurd h (by decide), fun _=>?_⟩
         conv=>whnf)
      | (refine WpN.seq (WpN.vc ?_)
         conv=>whnf)
      | (refine WpN.vc ?_
         conv=>whnf)
      | (refine WpS.rounds (WpS.round (VC_ok ?_))
         conv=>whnf)
      | (refine WpS.round (VC_ok ?_)
         conv=>whnf)
      | (refine And.intro (by first | rfl | decide) ?_
         conv=>whnf)
      | (refine .inl ⟨by decide +kernel, ?_⟩
         conv=>whnf)
      | refine CallQ.inlineN Proofs.Tryz.f77 rfl rfl rfl rfl rfl ?_
      | refine CallQ.inlineN Proofs.Tryz.f78 rfl rfl rfl rfl rfl ?_
      | refine CallQ.inlineN Proofs.Tryz.f80 rfl rfl rfl rfl rfl ?_
      | refine CallQ.inlineN Proofs.Tryz.f79 rfl rfl rfl rfl rfl ?_
      | refine CallQ.inlineN Proofs.Tryz.f75 rfl rfl rfl rfl rfl ?_
      | (refine CallQ.use [] l30_8589934 rfl rfl trivial ?_
         rintro v l' ⟨rfl, rfl⟩
         conv=>whnf)
      | fail)
  exact ⟨[], .c (.i .u64 11), [some (.st E1)], rfl, by kernel_rfl, (by repeat' (first | exact trivial | refine And.intro ?_ ?_ | kernel_rfl)), rfl, rfl⟩
theorem f50a : FnS 50 [.c (.p 0 0)] [some (.st E1)] fun v l' => v = .c (.i .u64 88) ∧ l' = [some (.st E1)] := by
  refine FnS.wpR (b := 1) Proofs.Tryz.f50 rfl rfl rfl rfl rfl rfl ?_
  repeat' (first
      | (refine ⟨fun _=>?_, fun h => absurd h (by decide)⟩
         conv=>whnf)
      | (refine ⟨fun h => absurd h (by decide), fun _=>?_⟩
         conv=>whnf)
      | (refine WpN.seq (WpN.vc ?_)
         conv=>whnf)
      | (refine WpN.vc ?_
         conv=>whnf)
      | (refine WpS.rounds (WpS.round (VC_ok ?_))
         conv=>whnf)
      | (refine WpS.round (VC_ok ?_)
         conv=>whnf)
      | (refine And.intro (by first | rfl | decide) ?_
         conv=>whnf)
      | (refine .inl ⟨by decide +kernel, ?_⟩
         conv=>whnf)
      | refine CallQ.inlineN Proofs.Tryz.f77 rfl rfl rfl rfl rfl ?_
      | refine CallQ.inlineN Proofs.Tryz.f78 rfl rfl rfl rfl rfl ?_
      | refine CallQ.inlineN Proofs.Tryz.f80 rfl rfl rfl rfl rfl ?_
      | refine CallQ.inlineN Proofs.Tryz.f79 rfl rfl rfl rfl rfl ?_
      | refine CallQ.inlineN Proofs.Tryz.f75 rfl rfl rfl rfl rfl ?_
      | (refine CallQ.use [] l30_8589934 rfl rfl trivial ?_
         rintro v l' ⟨rfl, rfl⟩
         conv=>whnf)
      | fail)
  exact ⟨[], .c (.i .u64 88), [some (.st E1)], rfl, by kernel_rfl, (by repeat' (first | exact trivial | refine And.intro ?_ ?_ | kernel_rfl)), rfl, rfl⟩
@[reducible] def S25 : List C := [.i .i64 0, .b true, .i .u32 8589934, .i .u32 11, .i .u32 88, .i .i64 0]
theorem f25a : FnS 25 [.c (.irs 6 [R24])] [] fun v l' => v = .tu [.c (.s (strOf [199, 1])), .c (.osl 0 1), .c (.i .i64 0)] ∧ l' = [some (.rs true 6 [S25])] := by
  refine FnS.wpD (b := 0) (n := 80) Proofs.Tryz.f25 rfl rfl rfl rfl rfl rfl idle39 enter39 rfl (by decide) ?_
  refine WpN.vc ?_
  conv=>whnf
  refine ⟨rfl, ?_⟩
  refine WpN.seq (WpN.vc ?_)
  conv=>whnf
  refine WpN.seq (WpN.vc ?_)
  conv=>whnf
  refine CallQ.inlineN Proofs.Tryz.f40 rfl rfl rfl rfl rfl ?_
  repeat' (first
      | (refine ⟨fun _=>?_, fun h => absurd h (by decide)⟩
         conv=>whnf)
      | (refine ⟨fun h => absurd h (by decide), fun _=>?_⟩
         conv=>whnf)
      | (refine WpN.seq (WpN.vc ?_)
         conv=>whnf)
      | (refine WpN.vc ?_
         conv=>whnf)
      | (refine WpS.rounds (WpS.round (VC_ok ?_))
         conv=>whnf)
      | (refine WpS.round (VC_ok ?_)
         conv=>whnf)
      | (refine And.intro (by first | rfl | decide) ?_
         conv=>whnf)
      | (refine .inl ⟨by decide +kernel, ?_⟩
         conv=>whnf)
      | (refine OpQ.mk _ _ _ (fun o ho => OpX.slice0 (el := 5) rfl (by decide) ho rfl) ?_
         conv=>whnf)
      | fail)
  refine CallQ.use [3] f45a rfl rfl ⟨rfl, trivial⟩ ?_
  rintro v l' ⟨rfl, rfl⟩
  conv=>whnf
  repeat' (first
      | (refine ⟨fun _=>?_, fun h => absurd h (by decide)⟩
         conv=>whnf)
      | (refine ⟨fun h => absurd h (by decide), fun _=>?_⟩
         conv=>whnf)
      | (refine WpN.seq (WpN.vc ?_)
         conv=>whnf)
      | (refine WpN.vc ?_
         conv=>whnf)
      | (refine WpS.rounds (WpS.round (VC_ok ?_))
         conv=>whnf)
      | (refine WpS.round (VC_ok ?_)
         conv=>whnf)
      | (refine And.intro (by first | rfl | decide) ?_
         conv=>whnf)
      | (refine .inl ⟨by decide +kernel, ?_⟩
         conv=>whnf)
      | fail)
  refine .inr (WpS.draw [1, 2, 2, 0, 2, 0, 0, 2, 3, 3] (fun st2 => st2 1 = some (.st [.nsl])) (by kernel_rfl) ?_)
  conv=>whnf
  refine ⟨.c .nsl, ⟨rfl, fun st2 h2 => ⟨_, h2, .inl rfl⟩⟩, ?_⟩
  conv=>whnf
  refine ⟨rfl, ?_⟩
  refine CallQ.use [3] f48a rfl rfl ⟨rfl, trivial⟩ ?_
  rintro v l' ⟨rfl, rfl⟩
  refine ⟨rfl, ?_⟩
  conv=>whnf
  refine ⟨rfl, ?_⟩
  refine CallQ.use [3] f49a rfl rfl ⟨rfl, trivial⟩ ?_
  rintro v l' ⟨rfl, rfl⟩
  refine ⟨rfl, ?_⟩
  conv=>whnf
  refine ⟨rfl, ?_⟩
  refine CallQ.use [3] f50a rfl rfl ⟨rfl, trivial⟩ ?_
  rintro v l' ⟨rfl, rfl⟩
  refine ⟨rfl, ?_⟩
  conv=>whnf
  repeat' (first
      | (refine ⟨fun _=>?_, fun h => absurd h (by decide)⟩
         conv=>whnf)
      | (refine ⟨fun h => absurd h (by decide), fun _=>?_⟩
         conv=>whnf)
      | (refine WpN.seq (WpN.vc ?_)
         conv=>whnf)
      | (refine WpN.vc ?_
         conv=>whnf)
      | (refine WpS.rounds (WpS.round (VC_ok ?_))
         conv=>whnf)
      | (refine WpS.round (VC_ok ?_)
         conv=>whnf)
      | (refine And.intro (by first | rfl | decide) ?_
         conv=>whnf)
      | (refine .inl ⟨by decide +kernel, ?_⟩
         conv=>whnf)
      | fail)
  refine .inr (WpS.draw [2, 2, 1, 2, 2, 2] (fun st2 => st2 1 = some (.st [.osl 6 1])) (by kernel_rfl) ?_)
  conv=>whnf
  refine ⟨rfl, ?_⟩
  refine CallQ.use [3] f51a rfl rfl ⟨rfl, trivial⟩ ?_
  rintro v l' ⟨rfl, rfl⟩
  refine ⟨rfl, ?_⟩
  conv=>whnf
  refine ⟨rfl, ?_⟩
  refine OpQ.mk _ _ _ (fun o ho => OpX.toStr (el := 5) (c0 := .sl 7 0 2 2) (ys := [199, 1]) (φ := 0 + 2 ≤ 2) rfl rfl rfl ho rfl (fun X u h => ⟨_, h, rfl⟩) (by decide)) ?_
  refine ⟨rfl, ?_⟩
  conv=>whnf
  refine ⟨.c (.osl 6 1), ⟨rfl, fun st2 h2 => ⟨_, h2, .inl rfl⟩⟩, ?_⟩
  conv=>whnf
  repeat' (first
      | (refine ⟨fun _=>?_, fun h => absurd h (by decide)⟩
         conv=>whnf)
      | (refine ⟨fun h => absurd h (by decide), fun _=>?_⟩
         conv=>whnf)
      | (refine WpN.seq (WpN.vc ?_)
         conv=>whnf)
      | (refine WpN.vc ?_
         conv=>whnf)
      | (refine WpS.rounds (WpS.round (VC_ok ?_))
         conv=>whnf)
      | (refine WpS.round (VC_ok ?_)
         conv=>whnf)
      | (refine And.intro (by first | rfl | decide) ?_
         conv=>whnf)
      | (refine .inl ⟨by decide +kernel, ?_⟩
         conv=>whnf)
      | fail)
  exact ⟨[(0, 6)], .tu [.c (.s (strOf [199, 1])), .c (.osl 0 1), .c (.i .i64 0)], [some (.rs true 6 [S25])], rfl, by kernel_rfl, (by repeat' (first | exact trivial | refine And.intro ?_ ?_ | kernel_rfl)), rfl, rfl⟩
@[reducible] def dcd (b r n s h : Int) : List C := [.is .u8 [199, 1], .i .u64 b, .i .u64 r, .i .u64 n, .i .u32 s, .i .u32 h]
theorem f87y (n s h : Int) : FnS 87 [.c (.p 0 0)] [some (.st (dcd 15 0 (n) (s) (h)))] fun v l' => v = .c (.i .u32 1) ∧ l' = [some (.st (dcd 16 0 (n) (s) (h)))] := by
  refine FnS.wpR (b := 1) Proofs.Tryz.f87 rfl rfl rfl rfl rfl rfl ?_
  repeat' (first
      | (refine ⟨fun _=>?_, fun h => absurd h (by decide)⟩
         conv=>whnf)
      | (refine ⟨fun h => absurd h (by decide), fun _=>?_⟩
         conv=>whnf)
      | (refine WpN.seq (WpN.vc ?_)
         conv=>whnf)
      | (refine WpN.vc ?_
         conv=>whnf)
      | (refine WpS.rounds (WpS.round (VC_ok ?_))
         conv=>whnf)
      | (refine WpS.round (VC_ok ?_)
         conv=>whnf)
      | (refine And.intro (by first | rfl | decide) ?_
         conv=>whnf)
      | (refine .inl ⟨by decide +kernel, ?_⟩
         conv=>whnf)
      | fail)
  exact ⟨[], .c (.i .u32 1), [some (.st (dcd 16 0 (n) (s) (h)))], by kernel_rfl, by kernel_rfl, (by repeat' (first | exact trivial | refine And.intro ?_ ?_ | kernel_rfl)), rfl, rfl⟩
theorem f87z (n s h : Int) : FnS 87 [.c (.p 0 0)] [some (.st (dcd 16 0 (n) (s) (h)))] fun v l' => v = .c (.i .u32 0) ∧ l' = [some (.st (dcd 16 0 (n) (s) (h)))] := by
  refine FnS.wpR (b := 1) Proofs.Tryz.f87 rfl rfl rfl rfl rfl rfl ?_
  repeat' (first
      | (refine ⟨fun _=>?_, fun h => absurd h (by decide)⟩
         conv=>whnf)
      | (refine ⟨fun h => absurd h (by decide), fun _=>?_⟩
         conv=>whnf)
      | (refine WpN.seq (WpN.vc ?_)
         conv=>whnf)
      | (refine WpN.vc ?_
         conv=>whnf)
      | (refine WpS.rounds (WpS.round (VC_ok ?_))
         conv=>whnf)
      | (refine WpS.round (VC_ok ?_)
         conv=>whnf)
      | (refine And.intro (by first | rfl | decide) ?_
         conv=>whnf)
      | (refine .inl ⟨by decide +kernel, ?_⟩
         conv=>whnf)
      | fail)
  exact ⟨[], .c (.i .u32 0), [some (.st (dcd 16 0 (n) (s) (h)))], by kernel_rfl, by kernel_rfl, (by repeat' (first | exact trivial | refine And.intro ?_ ?_ | kernel_rfl)), rfl, rfl⟩
theorem f63a (n s h : Int) : FnS 63 [.c (.p 0 0), .c (.i .i64 7)] [some (.st (dcd 0 0 (n) (s) (h)))] fun v l' => v = .c (.i .u32 99) ∧ l' = [some (.st (dcd 7 0 (n) (s) (h)))] := by
  refine FnS.wpR (b := 1) Proofs.Tryz.f63 rfl rfl rfl rfl rfl rfl ?_
  repeat' (first
      | (refine ⟨fun _=>?_, fun h => absurd h (by decide)⟩
         conv=>whnf)
      | (refine ⟨fun h => absurd h (by decide), fun _=>?_⟩
         conv=>whnf)
      | (refine WpN.seq (WpN.vc ?_)
         conv=>whnf)
      | (refine WpN.vc ?_
         conv=>whnf)
      | (refine WpS.rounds (WpS.round (VC_ok ?_))
         conv=>whnf)
      | (refine WpS.round (VC_ok ?_)
         conv=>whnf)
      | (refine And.intro (by first | rfl | decide) ?_
         conv=>whnf)
      | (refine .inl ⟨by decide +kernel, ?_⟩
         conv=>whnf)
      | fail)
  exact ⟨[], .c (.i .u32 99), [some (.st (dcd 7 0 (n) (s) (h)))], by kernel_rfl, by kernel_rfl, (by repeat' (first | exact trivial | refine And.intro ?_ ?_ | kernel_rfl)), rfl, rfl⟩
theorem f63b (n s h : Int) : FnS 63 [.c (.p 0 0), .c (.i .i64 8)] [some (.st (dcd 7 0 (n) (s) (h)))] fun v l' => v = .c (.i .u32 128) ∧ l' = [some (.st (dcd 15 0 (n) (s) (h)))] := by
  refine FnS.wpR (b := 1) Proofs.Tryz.f63 rfl rfl rfl rfl rfl rfl ?_
  repeat' (first
      | (refine ⟨fun _=>?_, fun h => absurd h (by decide)⟩
         conv=>whnf)
      | (refine ⟨fun h => absurd h (by decide), fun _=>?_⟩
         conv=>whnf)
      | (refine WpN.seq (WpN.vc ?_)
         conv=>whnf)
      | (refine WpN.vc ?_
         conv=>whnf)
      | (refine WpS.rounds (WpS.round (VC_ok ?_))
         conv=>whnf)
      | (refine WpS.round (VC_ok ?_)
         conv=>whnf)
      | (refine And.intro (by first | rfl | decide) ?_
         conv=>whnf)
      | (refine .inl ⟨by decide +kernel, ?_⟩
         conv=>whnf)
      | fail)
  exact ⟨[], .c (.i .u32 128), [some (.st (dcd 15 0 (n) (s) (h)))], by kernel_rfl, by kernel_rfl, (by repeat' (first | exact trivial | refine And.intro ?_ ?_ | kernel_rfl)), rfl, rfl⟩
theorem f63c (n s h : Int) : FnS 63 [.c (.p 0 0), .c (.i .i64 8)] [some (.st (dcd 15 0 (n) (s) (h)))] fun v l' => v = .c (.i .u32 128) ∧ l' = [some (.st (dcd 16 0 (n) (s) (h)))] := by
  refine FnS.wpR (b := 1) Proofs.Tryz.f63 rfl rfl rfl rfl rfl rfl ?_
  repeat' (first
      | (refine ⟨fun _=>?_, fun h => absurd h (by decide)⟩
         conv=>whnf)
      | (refine ⟨fun h => absurd h (by decide), fun _=>?_⟩
         conv=>whnf)
      | (refine WpN.seq (WpN.vc ?_)
         conv=>whnf)
      | (refine WpN.vc ?_
         conv=>whnf)
      | (refine WpS.rounds (WpS.round (VC_ok ?_))
         conv=>whnf)
      | (refine WpS.round (VC_ok ?_)
         conv=>whnf)
      | (refine And.intro (by first | rfl | decide) ?_
         conv=>whnf)
      | (refine .inl ⟨by decide +kernel, ?_⟩
         conv=>whnf)
      | (refine CallQ.use [0] (f87y _ _ _) rfl rfl ⟨rfl, trivial⟩ ?_
         rintro v l' ⟨rfl, rfl⟩
         conv=>whnf)
      | (refine CallQ.use [0] (f87z _ _ _) rfl rfl ⟨rfl, trivial⟩ ?_
         rintro v l' ⟨rfl, rfl⟩
         conv=>whnf)
      | fail)
  exact ⟨[], .c (.i .u32 128), [some (.st (dcd 16 0 (n) (s) (h)))], by kernel_rfl, by kernel_rfl, (by repeat' (first | exact trivial | refine And.intro ?_ ?_ | kernel_rfl)), rfl, rfl⟩
theorem f63d (n s h : Int) : FnS 63 [.c (.p 0 0), .c (.i .i64 8)] [some (.st (dcd 16 0 (n) (s) (h)))] fun v l' => v = .c (.i .u32 0) ∧ l' = [some (.st (dcd 16 0 (n) (s) (h)))] := by
  refine FnS.wpR (b := 1) Proofs.Tryz.f63 rfl rfl rfl rfl rfl rfl ?_
  repeat' (first
      | (refine ⟨fun _=>?_, fun h => absurd h (by decide)⟩
         conv=>whnf)
      | (refine ⟨fun h => absurd h (by decide), fun _=>?_⟩
         conv=>whnf)
      | (refine WpN.seq (WpN.vc ?_)
         conv=>whnf)
      | (refine WpN.vc ?_
         conv=>whnf)
      | (refine WpS.rounds (WpS.round (VC_ok ?_))
         conv=>whnf)
      | (refine WpS.round (VC_ok ?_)
         conv=>whnf)
      | (refine And.intro (by first | rfl | decide) ?_
         conv=>whnf)
      | (refine .inl ⟨by decide +kernel, ?_⟩
         conv=>whnf)
      | (refine CallQ.use [0] (f87z _ _ _) rfl rfl ⟨rfl, trivial⟩ ?_
         rintro v l' ⟨rfl, rfl⟩
         conv=>whnf)
      | fail)
  exact ⟨[], .c (.i .u32 0), [some (.st (dcd 16 0 (n) (s) (h)))], by kernel_rfl, by kernel_rfl, (by repeat' (first | exact trivial | refine And.intro ?_ ?_ | kernel_rfl)), rfl, rfl⟩
theorem f28a : FnS 28 [.c (.p 0 0), .c (.is .u8 [199, 1])] [some (.st [.nsl, .i .u64 0, .i .u64 0, .i .u64 0, .i .u32 0, .i .u32 0])] fun v l' => v = .tu [] ∧ l' = [some (.st (dcd 16 0 33 2147483648 478117887))] := by
  refine FnS.wpR (b := 1) Proofs.Tryz.f28 rfl rfl rfl rfl rfl rfl ?_
  repeat' (first
      | (refine ⟨fun _=>?_, fun h => absurd h (by decide)⟩
         conv=>whnf)
      | (refine ⟨fun h => absurd h (by decide), fun _=>?_⟩
         conv=>whnf)
      | (refine WpN.seq (WpN.vc ?_)
         conv=>whnf)
      | (refine WpN.vc ?_
         conv=>whnf)
      | (refine WpS.rounds (WpS.round (VC_ok ?_))
         conv=>whnf)
      | (refine WpS.round (VC_ok ?_)
         conv=>whnf)
      | (refine And.intro (by first | rfl | decide) ?_
         conv=>whnf)
      | (refine .inl ⟨by decide +kernel, ?_⟩
         conv=>whnf)
      | refine CallQ.inlineN Proofs.Tryz.f64 rfl rfl rfl rfl rfl ?_
      | (refine CallQ.use [0] (f63a _ _ _) rfl rfl ⟨rfl, trivial⟩ ?_
         rintro v l' ⟨rfl, rfl⟩
         conv=>whnf)
      | fail)
  refine .inr (WpS.draw [0, 0, 0, 0, 1, 0, 0, 2, 0, 0, 0, 0, 0, 3] (fun st2 => ∃ b n s : Int, st2 0 = some (.st (dcd b 0 n s 28))) (by kernel_rfl) ?_)
  conv=>whnf
  refine ⟨.c (.i .u32 28), ⟨⟨_, _, _, rfl⟩, fun st2 ⟨b2, n2, s2, h2⟩ => ⟨_, h2, .inl rfl⟩⟩, ?_⟩
  conv=>whnf
  refine And.intro (by decide) ?_
  conv=>whnf
  refine ⟨⟨_, _, _, rfl⟩, ?_⟩
  refine CallQ.use [0] (f63b _ _ _) rfl rfl ⟨rfl, trivial⟩ ?_
  rintro v l' ⟨rfl, rfl⟩
  refine ⟨⟨_, _, _, rfl⟩, ?_⟩
  conv=>whnf
  repeat' (first
      | (refine ⟨fun _=>?_, fun h => absurd h (by decide)⟩
         conv=>whnf)
      | (refine ⟨fun h => absurd h (by decide), fun _=>?_⟩
         conv=>whnf)
      | (refine WpN.seq (WpN.vc ?_)
         conv=>whnf)
      | (refine WpN.vc ?_
         conv=>whnf)
      | (refine WpS.rounds (WpS.round (VC_ok ?_))
         conv=>whnf)
      | (refine WpS.round (VC_ok ?_)
         conv=>whnf)
      | (refine And.intro (by first | rfl | decide) ?_
         conv=>whnf)
      | (refine .inl ⟨by decide +kernel, ?_⟩
         conv=>whnf)
      | fail)
  refine .inr (WpS.draw [0, 0, 0, 0, 1, 0, 0, 2, 0, 0, 0, 0, 0, 3] (fun st2 => ∃ b n s : Int, st2 0 = some (.st (dcd b 0 n s 7295))) (by kernel_rfl) ?_)
  conv=>whnf
  refine ⟨.c (.i .u32 7295), ⟨⟨_, _, _, rfl⟩, fun st2 ⟨b2, n2, s2, h2⟩ => ⟨_, h2, .inl rfl⟩⟩, ?_⟩
  conv=>whnf
  refine And.intro (by decide) ?_
  conv=>whnf
  refine ⟨⟨_, _, _, rfl⟩, ?_⟩
  refine CallQ.use [0] (f63c _ _ _) rfl rfl ⟨rfl, trivial⟩ ?_
  rintro v l' ⟨rfl, rfl⟩
  refine ⟨⟨_, _, _, rfl⟩, ?_⟩
  conv=>whnf
  repeat' (first
      | (refine ⟨fun _=>?_, fun h => absurd h (by decide)⟩
         conv=>whnf)
      | (refine ⟨fun h => absurd h (by decide), fun _=>?_⟩
         conv=>whnf)
      | (refine WpN.seq (WpN.vc ?_)
         conv=>whnf)
      | (refine WpN.vc ?_
         conv=>whnf)
      | (refine WpS.rounds (WpS.round (VC_ok ?_))
         conv=>whnf)
      | (refine WpS.round (VC_ok ?_)
         conv=>whnf)
      | (refine And.intro (by first | rfl | decide) ?_
         conv=>whnf)
      | (refine .inl ⟨by decide +kernel, ?_⟩
         conv=>whnf)
      | fail)
  refine .inr (WpS.draw [0, 0, 0, 0, 1, 0, 0, 2, 0, 0, 0, 0, 0, 3] (fun st2 => ∃ b n s : Int, st2 0 = some (.st (dcd b 0 n s 1867647))) (by kernel_rfl) ?_)
  conv=>whnf
  refine ⟨.c (.i .u32 1867647), ⟨⟨_, _, _, rfl⟩, fun st2 ⟨b2, n2, s2, h2⟩ => ⟨_, h2, .inl rfl⟩⟩, ?_⟩
  conv=>whnf
  refine And.intro (by decide) ?_
  conv=>whnf
  refine ⟨⟨_, _, _, rfl⟩, ?_⟩
  refine CallQ.use [0] (f63d _ _ _) rfl rfl ⟨rfl, trivial⟩ ?_
  rintro v l' ⟨rfl, rfl⟩
  refine ⟨⟨_, _, _, rfl⟩, ?_⟩
  conv=>whnf
  repeat' (first
      | (refine ⟨fun _=>?_, fun h => absurd h (by decide)⟩
         conv=>whnf)
      | (refine ⟨fun h => absurd h (by decide), fun _=>?_⟩
         conv=>whnf)
      | (refine WpN.seq (WpN.vc ?_)
         conv=>whnf)
      | (refine WpN.vc ?_
         conv=>whnf)
      | (refine WpS.rounds (WpS.round (VC_ok ?_))
         conv=>whnf)
      | (refine WpS.round (VC_ok ?_)
         conv=>whnf)
      | (refine And.intro (by first | rfl | decide) ?_
         conv=>whnf)
      | (refine .inl ⟨by decide +kernel, ?_⟩
         conv=>whnf)
      | fail)
  exact ⟨[], .tu [], [some (.st (dcd 16 0 33 2147483648 478117887))], by kernel_rfl, by kernel_rfl, (by repeat' (first | exact trivial | refine And.intro ?_ ?_ | kernel_rfl)), rfl, rfl⟩
theorem f84a : FnS 84 [.c (.p 0 0), .c (.i .u32 250)] [some (.st (dcd 16 0 33 2147483648 478117887))] fun v l' => v = .c (.i .u32 194) ∧ l' = [some (.st (dcd 16 0 33 8589934 5671517))] := by
  refine FnS.wpR (b := 1) Proofs.Tryz.f84 rfl rfl rfl rfl rfl rfl ?_
  repeat' (first
      | (refine ⟨fun _=>?_, fun h => absurd h (by decide)⟩
         conv=>whnf)
      | (refine ⟨fun h => absurd h (by decide), fun _=>?_⟩
         conv=>whnf)
      | (refine WpN.seq (WpN.vc ?_)
         conv=>whnf)
      | (refine WpN.vc ?_
         conv=>whnf)
      | (refine WpS.rounds (WpS.round (VC_ok ?_))
         conv=>whnf)
      | (refine WpS.round (VC_ok ?_)
         conv=>whnf)
      | (refine And.intro (by first | rfl | decide) ?_
         conv=>whnf)
      | (refine .inl ⟨by decide +kernel, ?_⟩
         conv=>whnf)
      | refine CallQ.inlineN Proofs.Tryz.f81 rfl rfl rfl rfl rfl ?_
      | refine CallQ.inlineN Proofs.Tryz.f83 rfl rfl rfl rfl rfl ?_
      | refine CallQ.inlineN Proofs.Tryz.f82 rfl rfl rfl rfl rfl ?_
      | refine CallQ.inlineN Proofs.Tryz.f64 rfl rfl rfl rfl rfl ?_
      | fail)
  exact ⟨[], .c (.i .u32 194), [some (.st (dcd 16 0 33 8589934 5671517))], by kernel_rfl, by kernel_rfl, (by repeat' (first | exact trivial | refine And.intro ?_ ?_ | kernel_rfl)), rfl, rfl⟩
theorem f58a : FnS 58 [.c (.p 0 0), .c (.i .u64 2)] [some (.st (dcd 16 0 33 8589934 5671517))] fun v l' => v = .c (.i .u32 1) ∧ l' = [some (.st (dcd 16 2 35 8589934 5671517))] := by
  refine FnS.wpR (b := 1) Proofs.Tryz.f58 rfl rfl rfl rfl rfl rfl ?_
  repeat' (first
      | (refine ⟨fun _=>?_, fun h => absurd h (by decide)⟩
         conv=>whnf)
      | (refine ⟨fun h => absurd h (by decide), fun _=>?_⟩
         conv=>whnf)
      | (refine WpN.seq (WpN.vc ?_)
         conv=>whnf)
      | (refine WpN.vc ?_
         conv=>whnf)
      | (refine WpS.rounds (WpS.round (VC_ok ?_))
         conv=>whnf)
      | (refine WpS.round (VC_ok ?_)
         conv=>whnf)
      | (refine And.intro (by first | rfl | decide) ?_
         conv=>whnf)
      | (refine .inl ⟨by decide +kernel, ?_⟩
         conv=>whnf)
      | refine CallQ.inlineN Proofs.Tryz.f85 rfl rfl rfl rfl rfl ?_
      | refine CallQ.inlineN Proofs.Tryz.f102 rfl rfl rfl rfl rfl ?_
      | fail)
  exact ⟨[], .c (.i .u32 1), [some (.st (dcd 16 2 35 8589934 5671517))], by kernel_rfl, by kernel_rfl, (by repeat' (first | exact trivial | refine And.intro ?_ ?_ | kernel_rfl)), rfl, rfl⟩
theorem f57a : FnS 57 [.c (.p 0 0), .c (.i .u32 1000)] [some (.st (dcd 16 0 33 2147483648 478117887))] fun v l' => v = .tu [.c (.i .u32 777), .c (.b true)] ∧ l' = [some (.st (dcd 16 2 35 8589934 5671517))] := by
  refine FnS.wpR (b := 1) Proofs.Tryz.f57 rfl rfl rfl rfl rfl rfl ?_
  repeat' (first
      | (refine ⟨fun _=>?_, fun h => absurd h (by decide)⟩
         conv=>whnf)
      | (refine ⟨fun h => absurd h (by decide), fun _=>?_⟩
         conv=>whnf)
      | (refine WpN.seq (WpN.vc ?_)
         conv=>whnf)
      | (refine WpN.vc ?_
         conv=>whnf)
      | (refine WpS.rounds (WpS.round (VC_ok ?_))
         conv=>whnf)
      | (refine WpS.round (VC_ok ?_)
         conv=>whnf)
      | (refine And.intro (by first | rfl | decide) ?_
         conv=>whnf)
      | (refine .inl ⟨by decide +kernel, ?_⟩
         conv=>whnf)
      | (refine CallQ.use [] l30_999 rfl rfl trivial ?_
         rintro v l' ⟨rfl, rfl⟩
         conv=>whnf)
      | (refine CallQ.use [0] f84a rfl rfl ⟨rfl, trivial⟩ ?_
         rintro v l' ⟨rfl, rfl⟩
         conv=>whnf)
      | (refine CallQ.use [0] f58a rfl rfl ⟨rfl, trivial⟩ ?_
         rintro v l' ⟨rfl, rfl⟩
         conv=>whnf)
      | fail)
  exact ⟨[], .tu [.c (.i .u32 777), .c (.b true)], [some (.st (dcd 16 2 35 8589934 5671517))], by kernel_rfl, by kernel_rfl, (by repeat' (first | exact trivial | refine And.intro ?_ ?_ | kernel_rfl)), rfl, rfl⟩
theorem f17a : FnS 17 [.c (.p 0 0)] [some (.st (dcd 16 2 35 8589934 5671517))] fun v l' => v = .c (.i .u32 8589934) ∧ l' = [some (.st (dcd 16 2 35 8589934 5671517))] := by
  refine FnS.wpR (b := 1) Proofs.Tryz.f17 rfl rfl rfl rfl rfl rfl ?_
  repeat' (first
      | (refine ⟨fun _=>?_, fun h => absurd h (by decide)⟩
         conv=>whnf)
      | (refine ⟨fun h => absurd h (by decide), fun _=>?_⟩
         conv=>whnf)
      | (refine WpN.seq (WpN.vc ?_)
         conv=>whnf)
      | (refine WpN.vc ?_
         conv=>whnf)
      | (refine WpS.rounds (WpS.round (VC_ok ?_))
         conv=>whnf)
      | (refine WpS.round (VC_ok ?_)
         conv=>whnf)
      | (refine And.intro (by first | rfl | decide) ?_
         conv=>whnf)
      | (refine .inl ⟨by decide +kernel, ?_⟩
         conv=>whnf)
      | fail)
  exact ⟨[], .c (.i .u32 8589934), [some (.st (dcd 16 2 35 8589934 5671517))], by kernel_rfl, by kernel_rfl, (by repeat' (first | exact trivial | refine And.intro ?_ ?_ | kernel_rfl)), rfl, rfl⟩
theorem f18a : FnS 18 [.c (.p 0 0)] [some (.st (dcd 16 2 35 8589934 5671517))] fun v l' => v = .c (.i .u64 11) ∧ l' = [some (.st (dcd 16 2 35 8589934 5671517))] := by
  refine FnS.wpR (b := 1) Proofs.Tryz.f18 rfl rfl rfl rfl rfl rfl ?_
  repeat' (first
      | (refine ⟨fun _=>?_, fun h => absurd h (by decide)⟩
         conv=>whnf)
      | (refine ⟨fun h => absurd h (by decide), fun _=>?_⟩
         conv=>whnf)
      | (refine WpN.seq (WpN.vc ?_)
         conv=>whnf)
      | (refine WpN.vc ?_
         conv=>whnf)
      | (refine WpS.rounds (WpS.round (VC_ok ?_))
         conv=>whnf)
      | (refine WpS.round (VC_ok ?_)
         conv=>whnf)
      | (refine And.intro (by first | rfl | decide) ?_
         conv=>whnf)
      | (refine .inl ⟨by decide +kernel, ?_⟩
         conv=>whnf)
      | (refine CallQ.use [] l30_8589934 rfl rfl trivial ?_
         rintro v l' ⟨rfl, rfl⟩
         conv=>whnf)
      | fail)
  exact ⟨[], .c (.i .u64 11), [some (.st (dcd 16 2 35 8589934 5671517))], by kernel_rfl, by kernel_rfl, (by repeat' (first | exact trivial | refine And.intro ?_ ?_ | kernel_rfl)), rfl, rfl⟩
theorem f61a : FnS 61 [.c (.p 0 0)] [some (.st (dcd 16 2 35 8589934 5671517))] fun v l' => v = .c (.i .u64 88) ∧ l' = [some (.st (dcd 16 2 35 8589934 5671517))] := by
  refine FnS.wpR (b := 1) Proofs.Tryz.f61 rfl rfl rfl rfl rfl rfl ?_
  repeat' (first
      | (refine ⟨fun _=>?_, fun h => absurd h (by decide)⟩
         conv=>whnf)
      | (refine ⟨fun h => absurd h (by decide), fun _=>?_⟩
         conv=>whnf)
      | (refine WpN.seq (WpN.vc ?_)
         conv=>whnf)
      | (refine WpN.vc ?_
         conv=>whnf)
      | (refine WpS.rounds (WpS.round (VC_ok ?_))
         conv=>whnf)
      | (refine WpS.round (VC_ok ?_)
         conv=>whnf)
      | (refine And.intro (by first | rfl | decide) ?_
         conv=>whnf)
      | (refine .inl ⟨by decide +kernel, ?_⟩
         conv=>whnf)
      | (refine CallQ.use [] l30_8589934 rfl rfl trivial ?_
         rintro v l' ⟨rfl, rfl⟩
         conv=>whnf)
      | fail)
  exact ⟨[], .c (.i .u64 88), [some (.st (dcd 16 2 35 8589934 5671517))], by kernel_rfl, by kernel_rfl, (by repeat' (first | exact trivial | refine And.intro ?_ ?_ | kernel_rfl)), rfl, rfl⟩
theorem f62a : FnS 62 [.c (.p 0 0)] [some (.st (dcd 16 2 35 8589934 5671517))] fun v l' => v = .c (.i .i64 (-2)) ∧ l' = [some (.st (dcd 16 2 35 8589934 5671517))] := by
  refine FnS.wpR (b := 1) Proofs.Tryz.f62 rfl rfl rfl rfl rfl rfl ?_
  repeat' (first
      | (refine ⟨fun _=>?_, fun h => absurd h (by decide)⟩
         conv=>whnf)
      | (refine ⟨fun h => absurd h (by decide), fun _=>?_⟩
         conv=>whnf)
      | (refine WpN.seq (WpN.vc ?_)
         conv=>whnf)
      | (refine WpN.vc ?_
         conv=>whnf)
      | (refine WpS.rounds (WpS.round (VC_ok ?_))
         conv=>whnf)
      | (refine WpS.round (VC_ok ?_)
         conv=>whnf)
      | (refine And.intro (by first | rfl | decide) ?_
         conv=>whnf)
      | (refine .inl ⟨by decide +kernel, ?_⟩
         conv=>whnf)
      | fail)
  exact ⟨[], .c (.i .i64 (-2)), [some (.st (dcd 16 2 35 8589934 5671517))], by kernel_rfl, by kernel_rfl, (by repeat' (first | exact trivial | refine And.intro ?_ ?_ | kernel_rfl)), rfl, rfl⟩
end Go.SX
