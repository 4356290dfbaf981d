/- A part of the proof: the SILK decoder of the given program, walked by an executor that is proved sound. No statement of the program is proved in this text. -/
import Derived.Test.YtojdfjohmicopaaGreatDoorL34
set_option linter.all false
set_option maxRecDepth 100000
namespace Go.SX
open Go
def freshR (p : C) (aS : Nat) (D : Dec) : List C := [
  .is .u8 D.data, .i .u64 D.b, .i .u64 D.r, .i .u64 D.n, .i .u32 D.s, .i .u32 D.h,
  p, .i .u8 0, .b false, .b false, .i .i64 0, .i .i32 0, .nsl, .i .i32 0, .i .i32 0, .b false, .b false,
  .nsl, .nsl, .nsl, .nsl, .nsl, .nsl, .nsl, .nsl, .nsl, .nsl, .nsl, .nsl, .nsl, .nsl, .nsl, .nsl, .nsl, .nsl, .nsl,
  .nsl, .nsl, .nsl, .nsl, .sl aS 0 0 2, .nsl, .nsl, .nsl, .p 29 0,
  .b true, .b false, .b false, .b false, .i .i32 0, .i .i32 0]
theorem f69_4f (a : Nat) (q : Nat × Nat) (D : Dec) (Z : Nat → Buf) (y7 y8 : List Bool) (recs : List (List C)) (n c7 c8 : Nat) (ns bw : Int) (hD : D.Ok) (hb : bw = 1 ∨ bw = 2 ∨ bw = 3) (hns : ns = 10000000 ∨ ns = 20000000) (h3 : recs.length < 900) (hn : n ≤ 3) (hn7 : n ≤ y7.length) :
    WpN 38 104 (tlC 4 b69) (mkE [(0, .c (.p 0 0)), (1, .c (.sl 7 0 n c7)), (2, .c .nsl), (3, .c (.b false)), (4, .c (.i .i64 ns)), (5, .c (.i .u8 bw))]) (mkS (lay (in69 a q D Z y7 y8 recs) 38)) 38 (EndR Proofs.Tryz.f69.results.toList 38 104 (Post69 a q D Z y7 y8 recs)) := by
  refine WpN.seq (WpN.vc ?_)
  conv=>whnf
  refine CallQ.useF [] f13 rfl (by kernel_rfl) trivial ?_
  rintro v l' ⟨rfl, rfl⟩
  conv=>whnf
  refine WpN.seq (WpN.vc ?_)
  conv=>whnf
  refine WpN.seq (WpN.vc ?_)
  conv=>whnf
  refine WpN.seq (WpN.vc ?_)
  conv=>whnf
  refine .inl ⟨by kernel_rfl, ?_⟩
  conv=>whnf
  refine WpN.weaken (s := mkSt ([(0, .c (.p 0 0)), (1, .c (.sl 7 0 n c7)), (2, .c .nsl), (3, .c (.b false)), (4, .c (.i .i64 ns)), (5, .c (.i .u8 bw)), (14, .c (.p 40 0))]) (lay ((0, .st (cellsP (.p 31 0) (.p 29 0) [] a q D Z)) :: (7, .bl false y7) :: (8, .bl false y8) :: twoD ⟨{ D0.rcOf D with red := true }, ch0.Z, ch0.c, ch0.a⟩ ⟨{ D0 with red := true, sid := true }, ch0.Z, ch0.c, ch0.a⟩ recs) 116) 104) ?_ rfl (f69_8f a q D Z y7 y8 ⟨{ D0.rcOf D with red := true }, ch0.Z, ch0.c, ch0.a⟩ ⟨{ D0 with red := true, sid := true }, ch0.Z, ch0.c, ch0.a⟩ recs n c7 c8 ns bw ⟨⟨hD.rc, (show (0 : Int) ≤ 0 ∧ (0 : Int) ≤ 63 by decide)⟩, ch0_sk.n, ch0_sk.c⟩ ⟨(show (0 : Int) ≤ 0 ∧ (0 : Int) ≤ 63 by decide), ch0_sk.n, ch0_sk.c⟩ hb hns h3 hn hn7)
  refine Rel.trans (s' := mkSt ([(0, .c (.p 0 0)), (1, .c (.sl 7 0 n c7)), (2, .c .nsl), (3, .c (.b false)), (4, .c (.i .i64 ns)), (5, .c (.i .u8 bw)), (14, .c (.p 114 0))]) (lay ((0, .st (cellsP (.p 31 0) (.p 29 0) [] a q D Z)) :: (7, .bl false y7) :: (8, .bl false y8) :: (29, .st [.osl 30 recs.length]) :: (30, .rs true 24 recs) :: (62, .st [.nsl, .nsl]) :: (114, .st (freshR (.p 69 0) 62 D)) :: [(69, .st (cellsP .np (.p 29 0) [(1, 77), (2, 78), (3, 79), (4, 80), (5, 81), (6, 82), (7, 83), (8, 84), (9, 85), (10, 86), (11, 87), (12, 88), (13, 89), (14, 90), (15, 91), (16, 92), (17, 93), (18, 94), (19, 95), (20, 96), (21, 97), (22, 98), (23, 99), (24, 100), (25, 101), (26, 102), (27, 103), (28, 104)] ch0.a (ch0.c, ch0.c) { D0 with red := true, sid := true } ch0.Z)), (77, .ar false .u8 (ch0.Z 1).xs), (78, .ar false .u8 (ch0.Z 2).xs), (79, .ar false .i32 (ch0.Z 3).xs), (80, .ar false .i32 (ch0.Z 4).xs), (85, .ar false .i32 (ch0.Z 9).xs), (86, .ar false .i8 (ch0.Z 10).xs), (87, .ar false .i16 (ch0.Z 11).xs), (88, .ar false .i16 (ch0.Z 12).xs), (89, .ar false .u64 (ch0.Z 13).xs), (90, .ar false .i16 (ch0.Z 14).xs), (91, .ar false .i16 (ch0.Z 15).xs), (92, .ar false .i32 (ch0.Z 16).xs), (93, .ar false .i32 (ch0.Z 17).xs), (94, .ar false .i32 (ch0.Z 18).xs), (95, .ar false .i32 (ch0.Z 19).xs), (96, .ar false .i16 (ch0.Z 20).xs), (97, .ar false .i16 (ch0.Z 21).xs), (98, .ar false .i16 (ch0.Z 22).xs), (99, .ar false .i16 (ch0.Z 23).xs), (101, .ar false .i64 (ch0.Z 25).xs), (103, .ar false .i8 (ch0.Z 27).xs), (104, .ar false .i16 (ch0.Z 28).xs), (100, .un 2), (102, .un ch0.c)]) 115) 104) (Rel.lay [] (by kernel_rfl) (by repeat constructor) (by repeat' (first | exact trivial | refine And.intro ?_ ?_ | kernel_rfl))) ?_
  refine Rel.trans (Rel.nils (nm := 114) nl0 (freshR (.p 69 0) 62 D) _ 115 rfl (by kernel_rfl)) ?_
  refine Rel.trans (Rel.forget (nm := 62) (k := 2) rfl rfl) ?_
  refine Rel.trans (Rel.forget (nm := 139) (k := 0) rfl rfl) ?_
  exact (Rel.lay [(40, 114), (64, 62), (71, 69), (41, 115), (42, 116), (43, 117), (44, 118), (45, 119), (46, 120), (47, 121), (48, 122), (49, 123), (50, 124), (51, 125), (52, 126), (53, 127), (54, 128), (55, 129), (56, 130), (57, 131), (58, 132), (59, 133), (60, 134), (61, 135), (62, 136), (63, 137), (65, 138), (66, 139), (67, 140), (68, 141), (79, 77), (80, 78), (81, 79), (82, 80), (83, 81), (84, 82), (85, 83), (86, 84), (87, 85), (88, 86), (89, 87), (90, 88), (91, 89), (92, 90), (93, 91), (94, 92), (95, 93), (96, 94), (97, 95), (98, 96), (99, 97), (100, 98), (101, 99), (102, 100), (103, 101), (104, 102), (105, 103), (106, 104), (70, 30)] (by kernel_rfl) (by repeat constructor) (by repeat' (first | exact trivial | refine And.intro ?_ ?_ | kernel_rfl)))
theorem f69f (a : Nat) (q : Nat × Nat) (D : Dec) (Z : Nat → Buf) (y7 y8 : List Bool) (recs : List (List C)) (n c7 c8 : Nat) (ns bw : Int) (hD : D.Ok) (hb : bw = 1 ∨ bw = 2 ∨ bw = 3) (hns : ns = 10000000 ∨ ns = 20000000) (h3 : recs.length < 900) (hn : n ≤ 3) (hn7 : n ≤ y7.length) :
    FnS 69 [.c (.p 0 0), .c (.sl 7 0 n c7), .c .nsl, .c (.b false), .c (.i .i64 ns), .c (.i .u8 bw)] (lay (in69 a q D Z y7 y8 recs) 38) (Post69 a q D Z y7 y8 recs) := by
  refine FnS.wpR (b := 38) (c := b69) Proofs.Tryz.f69 rfl rfl rfl rfl rfl rfl ?_
  refine WpN.seq (WpN.vc ?_)
  conv=>whnf
  refine WpN.seq (WpN.vc ?_)
  conv=>whnf
  refine CallQ.use [7] (f92 y7 n c7 true hn7 (by omega)) rfl rfl ⟨rfl, trivial⟩ ?_
  rintro v l' ⟨k, rfl, rfl⟩
  conv=>whnf
  refine WpN.cut (ι := Bool) (fun k => [(0, .c (.p 0 0)), (1, .c (.sl 7 0 n c7)), (2, .c .nsl), (3, .c (.b false)), (4, .c (.i .i64 ns)), (5, .c (.i .u8 bw)), (13, .c (.b k))]) (fun _=>lay (in69 a q D Z y7 y8 recs) 38) (fun _=>True) (WpN.vc ?_) ?_
  · conv=>whnf
    repeat' first|(refine Lt (by decide) ?_;conv=>whnf)|(refine Lf (by decide) ?_;conv=>whnf)|fail
    exact ⟨k, trivial, (Rel.lay [] (by kernel_rfl) (by repeat constructor) (by repeat' (first | exact trivial | refine And.intro ?_ ?_ | kernel_rfl)))⟩
  clear k
  intro k _
  refine WpN.seq (WpN.vc ?_)
  conv=>whnf
  cases k
  · conv=>whnf
    repeat' first|(refine Lt (by decide) ?_;conv=>whnf)|(refine Lf (by decide) ?_;conv=>whnf)|fail
    exact ⟨[(38, 30)], .c (.kv .nilIface), lay ((0, .st (cellsP (.p 31 0) (.p 29 0) [] a q (D.rcOf D) Z)) :: (7, .bl false y7) :: (8, .bl false y8) :: [(29, .st [.osl 38 recs.length]), (38, .rs true 24 recs)]) 39, rfl, by kernel_rfl, stEq_lay (by repeat' (first | exact trivial | refine And.intro ?_ ?_ | kernel_rfl)) 39 0, D, recs, hD, (More.refl recs).le (by decide), rfl, rfl⟩
  · conv=>whnf
    repeat' first|(refine Lt (by decide) ?_;conv=>whnf)|(refine Lf (by decide) ?_;conv=>whnf)|fail
    exact WpN.weaken (s := mkSt ([(0, .c (.p 0 0)), (1, .c (.sl 7 0 n c7)), (2, .c .nsl), (3, .c (.b false)), (4, .c (.i .i64 ns)), (5, .c (.i .u8 bw))]) (lay (in69 a q D Z y7 y8 recs) 38) 104) (Rel.lay [] (by kernel_rfl) (by repeat constructor) (by repeat' (first | exact trivial | refine And.intro ?_ ?_ | kernel_rfl))) rfl (f69_4f a q D Z y7 y8 recs n c7 c8 ns bw hD hb hns h3 hn hn7)
theorem f69_4t (a : Nat) (q : Nat × Nat) (D : Dec) (Z : Nat → Buf) (y7 y8 : List Bool) (recs : List (List C)) (n c7 c8 : Nat) (ns bw : Int) (hD : D.Ok) (hb : bw = 1 ∨ bw = 2 ∨ bw = 3) (hns : ns = 10000000 ∨ ns = 20000000) (h3 : recs.length < 900) (hn : n ≤ 3) (hn7 : n ≤ y7.length) (hn8 : n ≤ y8.length) :
    WpN 38 104 (tlC 4 b69) (mkE [(0, .c (.p 0 0)), (1, .c (.sl 7 0 n c7)), (2, .c (.sl 8 0 n c8)), (3, .c (.b true)), (4, .c (.i .i64 ns)), (5, .c (.i .u8 bw))]) (mkS (lay (in69 a q D Z y7 y8 recs) 38)) 38 (EndR Proofs.Tryz.f69.results.toList 38 104 (Post69 a q D Z y7 y8 recs)) := by
  refine WpN.seq (WpN.vc ?_)
  conv=>whnf
  refine CallQ.useF [] f13 rfl (by kernel_rfl) trivial ?_
  rintro v l' ⟨rfl, rfl⟩
  conv=>whnf
  refine WpN.seq (WpN.vc ?_)
  conv=>whnf
  refine WpN.seq (WpN.vc ?_)
  conv=>whnf
  refine WpN.seq (WpN.vc ?_)
  conv=>whnf
  refine .inl ⟨by kernel_rfl, ?_⟩
  conv=>whnf
  refine WpN.weaken (s := mkSt ([(0, .c (.p 0 0)), (1, .c (.sl 7 0 n c7)), (2, .c (.sl 8 0 n c8)), (3, .c (.b true)), (4, .c (.i .i64 ns)), (5, .c (.i .u8 bw)), (14, .c (.p 40 0))]) (lay ((0, .st (cellsP (.p 31 0) (.p 29 0) [] a q D Z)) :: (7, .bl false y7) :: (8, .bl false y8) :: twoD ⟨{ D0.rcOf D with red := true }, ch0.Z, ch0.c, ch0.a⟩ ⟨{ D0 with red := true, sid := true }, ch0.Z, ch0.c, ch0.a⟩ recs) 116) 104) ?_ rfl (f69_8t a q D Z y7 y8 ⟨{ D0.rcOf D with red := true }, ch0.Z, ch0.c, ch0.a⟩ ⟨{ D0 with red := true, sid := true }, ch0.Z, ch0.c, ch0.a⟩ recs n c7 c8 ns bw ⟨⟨hD.rc, (show (0 : Int) ≤ 0 ∧ (0 : Int) ≤ 63 by decide)⟩, ch0_sk.n, ch0_sk.c⟩ ⟨(show (0 : Int) ≤ 0 ∧ (0 : Int) ≤ 63 by decide), ch0_sk.n, ch0_sk.c⟩ hb hns h3 hn hn7 hn8)
  refine Rel.trans (s' := mkSt ([(0, .c (.p 0 0)), (1, .c (.sl 7 0 n c7)), (2, .c (.sl 8 0 n c8)), (3, .c (.b true)), (4, .c (.i .i64 ns)), (5, .c (.i .u8 bw)), (14, .c (.p 114 0))]) (lay ((0, .st (cellsP (.p 31 0) (.p 29 0) [] a q D Z)) :: (7, .bl false y7) :: (8, .bl false y8) :: (29, .st [.osl 30 recs.length]) :: (30, .rs true 24 recs) :: (62, .st [.nsl, .nsl]) :: (114, .st (freshR (.p 69 0) 62 D)) :: [(69, .st (cellsP .np (.p 29 0) [(1, 77), (2, 78), (3, 79), (4, 80), (5, 81), (6, 82), (7, 83), (8, 84), (9, 85), (10, 86), (11, 87), (12, 88), (13, 89), (14, 90), (15, 91), (16, 92), (17, 93), (18, 94), (19, 95), (20, 96), (21, 97), (22, 98), (23, 99), (24, 100), (25, 101), (26, 102), (27, 103), (28, 104)] ch0.a (ch0.c, ch0.c) { D0 with red := true, sid := true } ch0.Z)), (77, .ar false .u8 (ch0.Z 1).xs), (78, .ar false .u8 (ch0.Z 2).xs), (79, .ar false .i32 (ch0.Z 3).xs), (80, .ar false .i32 (ch0.Z 4).xs), (85, .ar false .i32 (ch0.Z 9).xs), (86, .ar false .i8 (ch0.Z 10).xs), (87, .ar false .i16 (ch0.Z 11).xs), (88, .ar false .i16 (ch0.Z 12).xs), (89, .ar false .u64 (ch0.Z 13).xs), (90, .ar false .i16 (ch0.Z 14).xs), (91, .ar false .i16 (ch0.Z 15).xs), (92, .ar false .i32 (ch0.Z 16).xs), (93, .ar false .i32 (ch0.Z 17).xs), (94, .ar false .i32 (ch0.Z 18).xs), (95, .ar false .i32 (ch0.Z 19).xs), (96, .ar false .i16 (ch0.Z 20).xs), (97, .ar false .i16 (ch0.Z 21).xs), (98, .ar false .i16 (ch0.Z 22).xs), (99, .ar false .i16 (ch0.Z 23).xs), (101, .ar false .i64 (ch0.Z 25).xs), (103, .ar false .i8 (ch0.Z 27).xs), (104, .ar false .i16 (ch0.Z 28).xs), (100, .un 2), (102, .un ch0.c)]) 115) 104) (Rel.lay [] (by kernel_rfl) (by repeat constructor) (by repeat' (first | exact trivial | refine And.intro ?_ ?_ | kernel_rfl))) ?_
  refine Rel.trans (Rel.nils (nm := 114) nl0 (freshR (.p 69 0) 62 D) _ 115 rfl (by kernel_rfl)) ?_
  refine Rel.trans (Rel.forget (nm := 62) (k := 2) rfl rfl) ?_
  refine Rel.trans (Rel.forget (nm := 139) (k := 0) rfl rfl) ?_
  exact (Rel.lay [(40, 114), (64, 62), (71, 69), (41, 115), (42, 116), (43, 117), (44, 118), (45, 119), (46, 120), (47, 121), (48, 122), (49, 123), (50, 124), (51, 125), (52, 126), (53, 127), (54, 128), (55, 129), (56, 130), (57, 131), (58, 132), (59, 133), (60, 134), (61, 135), (62, 136), (63, 137), (65, 138), (66, 139), (67, 140), (68, 141), (79, 77), (80, 78), (81, 79), (82, 80), (83, 81), (84, 82), (85, 83), (86, 84), (87, 85), (88, 86), (89, 87), (90, 88), (91, 89), (92, 90), (93, 91), (94, 92), (95, 93), (96, 94), (97, 95), (98, 96), (99, 97), (100, 98), (101, 99), (102, 100), (103, 101), (104, 102), (105, 103), (106, 104), (70, 30)] (by kernel_rfl) (by repeat constructor) (by repeat' (first | exact trivial | refine And.intro ?_ ?_ | kernel_rfl)))
theorem f69t (a : Nat) (q : Nat × Nat) (D : Dec) (Z : Nat → Buf) (y7 y8 : List Bool) (recs : List (List C)) (n c7 c8 : Nat) (ns bw : Int) (hD : D.Ok) (hb : bw = 1 ∨ bw = 2 ∨ bw = 3) (hns : ns = 10000000 ∨ ns = 20000000) (h3 : recs.length < 900) (hn : n ≤ 3) (hn7 : n ≤ y7.length) (hn8 : n ≤ y8.length) :
    FnS 69 [.c (.p 0 0), .c (.sl 7 0 n c7), .c (.sl 8 0 n c8), .c (.b true), .c (.i .i64 ns), .c (.i .u8 bw)] (lay (in69 a q D Z y7 y8 recs) 38) (Post69 a q D Z y7 y8 recs) := by
  refine FnS.wpR (b := 38) (c := b69) Proofs.Tryz.f69 rfl rfl rfl rfl rfl rfl ?_
  refine WpN.seq (WpN.vc ?_)
  conv=>whnf
  refine WpN.seq (WpN.vc ?_)
  conv=>whnf
  refine CallQ.use [7] (f92 y7 n c7 true hn7 (by omega)) rfl rfl ⟨rfl, trivial⟩ ?_
  rintro v l' ⟨k, rfl, rfl⟩
  conv=>whnf
  refine WpN.cut (ι := Bool) (fun k => [(0, .c (.p 0 0)), (1, .c (.sl 7 0 n c7)), (2, .c (.sl 8 0 n c8)), (3, .c (.b true)), (4, .c (.i .i64 ns)), (5, .c (.i .u8 bw)), (13, .c (.b k))]) (fun _=>lay (in69 a q D Z y7 y8 recs) 38) (fun _=>True) (WpN.vc ?_) ?_
  · conv=>whnf
    repeat' first|(refine Lt (by decide) ?_;conv=>whnf)|(refine Lf (by decide) ?_;conv=>whnf)|fail
    cases k
    · conv=>whnf
      repeat' first|(refine Lt (by decide) ?_;conv=>whnf)|(refine Lf (by decide) ?_;conv=>whnf)|fail
      refine CallQ.use [8] (f92 y8 n c8 true hn8 (by omega)) rfl rfl ⟨rfl, trivial⟩ ?_
      rintro v l' ⟨k2, rfl, rfl⟩
      conv=>whnf
      exact ⟨k2, trivial, (Rel.lay [] (by kernel_rfl) (by repeat constructor) (by repeat' (first | exact trivial | refine And.intro ?_ ?_ | kernel_rfl)))⟩
    · conv=>whnf
      repeat' first|(refine Lt (by decide) ?_;conv=>whnf)|(refine Lf (by decide) ?_;conv=>whnf)|fail
      exact ⟨true, trivial, (Rel.lay [] (by kernel_rfl) (by repeat constructor) (by repeat' (first | exact trivial | refine And.intro ?_ ?_ | kernel_rfl)))⟩
  clear k
  intro k _
  refine WpN.seq (WpN.vc ?_)
  conv=>whnf
  cases k
  · conv=>whnf
    repeat' first|(refine Lt (by decide) ?_;conv=>whnf)|(refine Lf (by decide) ?_;conv=>whnf)|fail
    exact ⟨[(38, 30)], .c (.kv .nilIface), lay ((0, .st (cellsP (.p 31 0) (.p 29 0) [] a q (D.rcOf D) Z)) :: (7, .bl false y7) :: (8, .bl false y8) :: [(29, .st [.osl 38 recs.length]), (38, .rs true 24 recs)]) 39, rfl, by kernel_rfl, stEq_lay (by repeat' (first | exact trivial | refine And.intro ?_ ?_ | kernel_rfl)) 39 0, D, recs, hD, (More.refl recs).le (by decide), rfl, rfl⟩
  · conv=>whnf
    repeat' first|(refine Lt (by decide) ?_;conv=>whnf)|(refine Lf (by decide) ?_;conv=>whnf)|fail
    exact WpN.weaken (s := mkSt ([(0, .c (.p 0 0)), (1, .c (.sl 7 0 n c7)), (2, .c (.sl 8 0 n c8)), (3, .c (.b true)), (4, .c (.i .i64 ns)), (5, .c (.i .u8 bw))]) (lay (in69 a q D Z y7 y8 recs) 38) 104) (Rel.lay [] (by kernel_rfl) (by repeat constructor) (by repeat' (first | exact trivial | refine And.intro ?_ ?_ | kernel_rfl))) rfl (f69_4t a q D Z y7 y8 recs n c7 c8 ns bw hD hb hns h3 hn hn7 hn8)
noncomputable def b29 : Code := match Proofs.Tryz.f29.body with | some c => c | none => .skip
theorem f29_6m (m e : Ch) (recs : List (List C)) (n : Nat) (lb : Bool) (sns bw : Int) (hm : m.Ok) (he : e.Sk) (h5 : n ≤ (m.Z 5).cap) (hn : n = 1 ∨ n = 2 ∨ n = 3) (hb : bw = 1 ∨ bw = 2 ∨ bw = 3) (hns : sns = 10000000 ∨ sns = 20000000) (h3 : recs.length < 900) :
    WpN 76 103 (tlC 6 b29) (mkE [(0, .c (.p 0 0)), (1, .c (.b false)), (3, .c (.i .u8 bw)), (9, .c (.i .i64 n)), (10, .c (.i .i64 sns)), (12, .c (.sl 81 0 n (m.Z 5).cap)), (13, .c (.b lb))]) (mkS (lay (twoH .any m e recs) 152)) 152 (EndR Proofs.Tryz.f29.results.toList 76 103 (PostT .any 12 recs)) := by
  have hn3 : n ≤ 3 := by omega
  have o5 := (m.Z 5).okb
  refine WpN.seq (WpN.vc ?_)
  conv=>whnf
  repeat' first|(refine Lt (by decide) ?_;conv=>whnf)|(refine Lf (by decide) ?_;conv=>whnf)|fail
  refine CallQ.useF rhoM (f68_7 m.a (m.c, m.c) m.D m.Z n lb hm.d hn) rfl (by kernel_rfl) (stEq_lay (by repeat' (first | exact trivial | refine And.intro ?_ ?_ | kernel_rfl)) 38 0) ?_
  rintro v l' ⟨D1, B7, rfl, rfl, hD1, hB7⟩
  have o7 := B7.okb
  conv=>whnf
  refine CallQ.useF [0, 77, 78, 79, 80, 81, 82, 152, 84, 85, 86, 87, 88, 89, 90, 91, 92, 93, 94, 95, 96, 97, 98, 99, 24, 101, 102, 103, 104, 29, 106, 107, 108, 109, 110, 111, 112, 113] (f69f m.a (m.c, m.c) D1 (setZ m.Z 7 B7) B7.ys (m.Z 8).ys recs n B7.cap 0 sns bw hD1 hb hns h3 hn3 (by omega)) rfl (by kernel_rfl) (stEq_lay (by repeat' (first | exact trivial | refine And.intro ?_ ?_ | kernel_rfl)) 38 0) ?_
  rintro v l' ⟨D2, rs, hD2, hr, rfl, rfl⟩
  conv=>whnf
  repeat' first|(refine Lt (by decide) ?_;conv=>whnf)|(refine Lf (by decide) ?_;conv=>whnf)|fail
  have hrl := hr.len
  refine CallQ.useF [0, 77, 78, 79, 80, 81, 82, 152, 84, 85, 86, 87, 88, 89, 90, 91, 92, 93, 94, 95, 96, 97, 98, 99, 24, 101, 102, 103, 104, 29, 153, 107, 108, 109, 110, 111, 112, 113] (f70 ⟨D1.rcOf D2, setZ m.Z 7 B7, m.c, m.a⟩ rs (m.Z 5).ys n (m.Z 5).cap sns bw ⟨hD2.rcOf hD1.gain, hm.n, hm.c⟩ hn3 (by omega) (by omega) hb hns) rfl (by kernel_rfl) (stEq_lay (by repeat' (first | exact trivial | refine And.intro ?_ ?_ | kernel_rfl)) 38 0) ?_
  rintro v l' ⟨x, rs2, hx, hF, hr2, rfl, rfl⟩
  conv=>whnf
  exact ⟨[(77, 155), (78, 156), (79, 157), (80, 158), (85, 163), (86, 164), (87, 165), (88, 166), (89, 167), (90, 168), (91, 169), (92, 170), (93, 171), (94, 172), (95, 173), (96, 174), (97, 175), (98, 176), (99, 177), (101, 179), (102, 180), (103, 181), (104, 182), (83, 152), (106, 184)], .c (.kv .nilIface), lay (twoF .any x e rs2 (setZ m.Z 7 B7)) 152, rfl, by kernel_rfl, stEq_lay (by repeat' (first | exact trivial | refine And.intro ?_ ?_ | kernel_rfl)) 152 0, .of hx he ((hr.trans hr2).le (by omega)) hF⟩
theorem f29_10 (m e : Ch) (recs : List (List C)) (n : Nat) (sns bw : Int) (hm : m.Ok) (he : e.Sk) (h5 : n ≤ (m.Z 5).cap) (h6 : n ≤ (m.Z 6).cap) (h7 : n ≤ (m.Z 7).cap) (h8 : n ≤ (m.Z 8).cap) (hn : n = 1 ∨ n = 2 ∨ n = 3) (hb : bw = 1 ∨ bw = 2 ∨ bw = 3) (hns : sns = 10000000 ∨ sns = 20000000) (h3 : recs.length < 900) :
    WpN 76 103 (tlC 10 b29) (mkE [(0, .c (.p 0 0)), (1, .c (.b true)), (3, .c (.i .u8 bw)), (9, .c (.i .i64 n)), (10, .c (.i .i64 sns)), (12, .c (.sl 81 0 n (m.Z 5).cap)), (16, .c (.sl 82 0 n (m.Z 6).cap)), (18, .c (.sl 83 0 n (m.Z 7).cap)), (19, .c (.sl 84 0 n (m.Z 8).cap))]) (mkS (lay (twoH .any m e recs) 152)) 152 (EndR Proofs.Tryz.f29.results.toList 76 103 (PostT .any 12 recs)) := by
  have hn3 : n ≤ 3 := by omega
  have o5 := (m.Z 5).okb
  have o6 := (m.Z 6).okb
  have o7 := (m.Z 7).okb
  have o8 := (m.Z 8).okb
  refine WpN.cut (ι := Dec × List (List C)) (fun _=>[(0, .c (.p 0 0)), (1, .c (.b true)), (3, .c (.i .u8 bw)), (9, .c (.i .i64 n)), (10, .c (.i .i64 sns)), (12, .c (.sl 81 0 n (m.Z 5).cap)), (16, .c (.sl 82 0 n (m.Z 6).cap))]) (fun x => lay (twoH .any ⟨x.1, m.Z, m.c, m.a⟩ e x.2) 152) (fun x => x.1.Ok ∧ More 6 recs x.2) (WpN.vc ?_) ?_
  · conv=>whnf
    refine CallQ.useF rhoM (f69t m.a (m.c, m.c) m.D m.Z (m.Z 7).ys (m.Z 8).ys recs n (m.Z 7).cap (m.Z 8).cap sns bw hm.d hb hns h3 hn3 (by omega) (by omega)) rfl (by kernel_rfl) (stEq_lay (by repeat' (first | exact trivial | refine And.intro ?_ ?_ | kernel_rfl)) 38 0) ?_
    rintro v l' ⟨D2, rs, hD2, hr, rfl, rfl⟩
    conv=>whnf
    repeat' first|(refine Lt (by decide) ?_;conv=>whnf)|(refine Lf (by decide) ?_;conv=>whnf)|fail
    exact ⟨(m.D.rcOf D2, rs), ⟨hD2.rcOf hm.d.gain, hr⟩, (Rel.lay [(106, 152)] (by kernel_rfl) (by repeat constructor) (by repeat' (first | exact trivial | refine And.intro ?_ ?_ | kernel_rfl)))⟩
  rintro ⟨D, rs⟩ ⟨hD, hr⟩
  dsimp only at hD hr ⊢
  have hrl := hr.len
  refine WpN.vc ?_
  conv=>whnf
  refine CallQ.useF rho2 (f71 ⟨D, m.Z, m.c, m.a⟩ e rs n (m.Z 5).cap (m.Z 6).cap sns bw ⟨hD, hm.n, hm.c⟩ he hb hns (by omega) hn3 (by show n ≤ (m.Z 5).ys.length; omega) (by show n ≤ (m.Z 6).ys.length; omega)) rfl (by kernel_rfl) (stEq_lay (by repeat' (first | exact trivial | refine And.intro ?_ ?_ | kernel_rfl)) 76 0) ?_
  rintro v l' ⟨m', e', rs2, hm', he', hr2, rfl, rfl⟩
  conv=>whnf
  exact ⟨alB, .c (.kv .nilIface), lay (twoH .any m' e' rs2) 152, rfl, by kernel_rfl, stEq_lay (by repeat' (first | exact trivial | refine And.intro ?_ ?_ | kernel_rfl)) 152 0, m', e', rs2, hm', he', hr.trans hr2, rfl, rfl⟩
theorem f29_7s (m e : Ch) (recs : List (List C)) (n : Nat) (lb : Bool) (sns bw : Int) (hm : m.Ok) (he : e.Sk) (h5 : n ≤ (m.Z 5).cap) (hn : n = 1 ∨ n = 2 ∨ n = 3) (hb : bw = 1 ∨ bw = 2 ∨ bw = 3) (hns : sns = 10000000 ∨ sns = 20000000) (h3 : recs.length < 900) :
    WpN 76 103 (tlC 7 b29) (mkE [(0, .c (.p 0 0)), (1, .c (.b true)), (3, .c (.i .u8 bw)), (9, .c (.i .i64 n)), (10, .c (.i .i64 sns)), (12, .c (.sl 81 0 n (m.Z 5).cap)), (13, .c (.b lb))]) (mkS (lay (twoH .any m e recs) 152)) 152 (EndR Proofs.Tryz.f29.results.toList 76 103 (PostT .any 12 recs)) := by
  have hn3 : n ≤ 3 := by omega
  refine WpN.cut (ι := Ch × Bool) (fun x => [(0, .c (.p 0 0)), (1, .c (.b true)), (3, .c (.i .u8 bw)), (9, .c (.i .i64 n)), (10, .c (.i .i64 sns)), (12, .c (.sl 81 0 n (x.1.Z 5).cap)), (13, .c (.b lb)), (16, .c (.sl 82 0 n (x.1.Z 6).cap)), (17, .c (.b x.2))]) (fun x => lay (twoH .any x.1 e recs) 152) (fun x => x.1.Ok ∧ n ≤ (x.1.Z 5).cap ∧ n ≤ (x.1.Z 6).cap) (WpN.vc ?_) ?_
  · conv=>whnf
    refine CallQ.useF rhoM (f67_6 m.a (m.c, m.c) m.D m.Z n hm.d hn3) rfl (by kernel_rfl) (stEq_lay (by repeat' (first | exact trivial | refine And.intro ?_ ?_ | kernel_rfl)) 38 0) ?_
    rintro v l' ⟨D1, B6, lb2, rfl, rfl, hD1, hB6⟩
    conv=>whnf
    exact ⟨(⟨D1, setZ m.Z 6 B6, m.c, m.a⟩, lb2), ⟨⟨hD1, hm.n, hm.c⟩, h5, hB6⟩, (Rel.lay [(82, 152)] (by kernel_rfl) (by repeat constructor) (by repeat' (first | exact trivial | refine And.intro ?_ ?_ | kernel_rfl)))⟩
  clear hm h5 m
  rintro ⟨m, lb2⟩ ⟨hm, h5, h6⟩
  dsimp only at hm h5 h6 ⊢
  refine WpN.cut (ι := Ch) (fun x => [(0, .c (.p 0 0)), (1, .c (.b true)), (3, .c (.i .u8 bw)), (9, .c (.i .i64 n)), (10, .c (.i .i64 sns)), (12, .c (.sl 81 0 n (x.Z 5).cap)), (16, .c (.sl 82 0 n (x.Z 6).cap)), (17, .c (.b lb2)), (18, .c (.sl 83 0 n (x.Z 7).cap))]) (fun x => lay (twoH .any x e recs) 152) (fun x => x.Ok ∧ n ≤ (x.Z 5).cap ∧ n ≤ (x.Z 6).cap ∧ n ≤ (x.Z 7).cap) (WpN.vc ?_) ?_
  · conv=>whnf
    refine CallQ.useF rhoM (f68_7 m.a (m.c, m.c) m.D m.Z n lb hm.d hn) rfl (by kernel_rfl) (stEq_lay (by repeat' (first | exact trivial | refine And.intro ?_ ?_ | kernel_rfl)) 38 0) ?_
    rintro v l' ⟨D1, B7, rfl, rfl, hD1, hB7⟩
    conv=>whnf
    exact ⟨⟨D1, setZ m.Z 7 B7, m.c, m.a⟩, ⟨⟨hD1, hm.n, hm.c⟩, h5, h6, hB7⟩, (Rel.lay [(83, 152)] (by kernel_rfl) (by repeat constructor) (by repeat' (first | exact trivial | refine And.intro ?_ ?_ | kernel_rfl)))⟩
  clear hm h5 h6 m
  rintro m ⟨hm, h5, h6, h7⟩
  refine WpN.cut (ι := Ch) (fun x => [(0, .c (.p 0 0)), (1, .c (.b true)), (3, .c (.i .u8 bw)), (9, .c (.i .i64 n)), (10, .c (.i .i64 sns)), (12, .c (.sl 81 0 n (x.Z 5).cap)), (16, .c (.sl 82 0 n (x.Z 6).cap)), (18, .c (.sl 83 0 n (x.Z 7).cap)), (19, .c (.sl 84 0 n (x.Z 8).cap))]) (fun x => lay (twoH .any x e recs) 152) (fun x => x.Ok ∧ n ≤ (x.Z 5).cap ∧ n ≤ (x.Z 6).cap ∧ n ≤ (x.Z 7).cap ∧ n ≤ (x.Z 8).cap) (WpN.vc ?_) (fun m hm => f29_10 m e recs n sns bw hm.1 he hm.2.1 hm.2.2.1 hm.2.2.2.1 hm.2.2.2.2 hn hb hns h3)
  · conv=>whnf
    refine CallQ.useF rhoM (f68_8 m.a (m.c, m.c) m.D m.Z n lb2 hm.d hn) rfl (by kernel_rfl) (stEq_lay (by repeat' (first | exact trivial | refine And.intro ?_ ?_ | kernel_rfl)) 38 0) ?_
    rintro v l' ⟨D1, B8, rfl, rfl, hD1, hB8⟩
    conv=>whnf
    exact ⟨⟨D1, setZ m.Z 8 B8, m.c, m.a⟩, ⟨⟨hD1, hm.n, hm.c⟩, h5, h6, h7, hB8⟩, (Rel.lay [(84, 152)] (by kernel_rfl) (by repeat constructor) (by repeat' (first | exact trivial | refine And.intro ?_ ?_ | kernel_rfl)))⟩
theorem f29 (m e : Ch) (recs : List (List C)) (st : Bool) (ns bw : Int) (hm : m.Ok) (he : e.Sk) (hb : bw = 1 ∨ bw = 2 ∨ bw = 3) (hns : ns = 10000000 ∨ ns = 20000000 ∨ ns = 40000000 ∨ ns = 60000000) (h3 : recs.length < 900) :
    FnS 29 [.c (.p 0 0), .c (.b st), .c (.i .i64 ns), .c (.i .u8 bw)] (lay (twoL .any m e recs) 76) (PostT .any 12 recs) := by
  refine FnS.wpR (b := 76) (c := b29) Proofs.Tryz.f29 rfl rfl rfl rfl rfl rfl ?_
  obtain ⟨n, sns, hn, hs, hk⟩ : ∃ (n : Nat) (sns : Int), (n = 1 ∨ n = 2 ∨ n = 3) ∧ (sns = 10000000 ∨ sns = 20000000) ∧ ((ns = 10000000 ∧ n = 1 ∧ sns = 10000000) ∨ (ns = 20000000 ∧ n = 1 ∧ sns = 20000000) ∨ (ns = 40000000 ∧ n = 2 ∧ sns = 20000000) ∨ (ns = 60000000 ∧ n = 3 ∧ sns = 20000000)) := by
    rcases hns with h | h | h | h
    · exact ⟨1, 10000000, .inl rfl, .inl rfl, .inl ⟨h, rfl, rfl⟩⟩
    · exact ⟨1, 20000000, .inl rfl, .inr rfl, .inr (.inl ⟨h, rfl, rfl⟩)⟩
    · exact ⟨2, 20000000, .inr (.inl rfl), .inr rfl, .inr (.inr (.inl ⟨h, rfl, rfl⟩))⟩
    · exact ⟨3, 20000000, .inr (.inr rfl), .inr rfl, .inr (.inr (.inr ⟨h, rfl, rfl⟩))⟩
  have hn3 : n ≤ 3 := by omega
  refine WpN.seq (WpN.vc ?_)
  conv=>whnf
  refine WpN.weaken (s := mkSt [(0, .c (.p 0 0)), (1, .c (.b st)), (2, .c (.i .i64 ns)), (3, .c (.i .u8 bw))] (lay (twoH .any m e recs) 152) 103) (Rel.lay al2 (by kernel_rfl) (by repeat constructor) (by repeat' (first | exact trivial | refine And.intro ?_ ?_ | kernel_rfl))) rfl ?_
  refine WpN.cut (ι := Unit) (fun _=>[(0, .c (.p 0 0)), (1, .c (.b st)), (2, .c (.i .i64 ns)), (3, .c (.i .u8 bw)), (9, .c (.i .i64 n))]) (fun _=>lay (twoH .any m e recs) 152) (fun _=>True) (WpN.vc ?_) ?_
  · conv=>whnf
    refine CallQ.use [] (f65 ns n (by omega)) rfl rfl trivial ?_
    rintro v l' ⟨rfl, rfl⟩
    conv=>whnf
    exact ⟨(), trivial, (Rel.lay [] (by kernel_rfl) (by repeat constructor) (by repeat' (first | exact trivial | refine And.intro ?_ ?_ | kernel_rfl)))⟩
  intro _ _
  refine WpN.cut (ι := Unit) (fun _=>[(0, .c (.p 0 0)), (1, .c (.b st)), (3, .c (.i .u8 bw)), (9, .c (.i .i64 n)), (10, .c (.i .i64 sns))]) (fun _=>lay (twoH .any m e recs) 152) (fun _=>True) (WpN.vc ?_) ?_
  · rcases hk with ⟨rfl, rfl, rfl⟩ | ⟨rfl, rfl, rfl⟩ | ⟨rfl, rfl, rfl⟩ | ⟨rfl, rfl, rfl⟩
    all_goals
      conv=>whnf
      exact ⟨(), trivial, (Rel.lay [] (by kernel_rfl) (by repeat constructor) (by repeat' (first | exact trivial | refine And.intro ?_ ?_ | kernel_rfl)))⟩
  intro _ _
  refine WpN.cut (ι := Unit) (fun _=>[(0, .c (.p 0 0)), (1, .c (.b st)), (3, .c (.i .u8 bw)), (9, .c (.i .i64 n)), (10, .c (.i .i64 sns)), (11, .c (.i .i64 (if sns = 10000000 then 2 else 4)))]) (fun _=>lay (twoH .any m e recs) 152) (fun _=>True) (WpN.vc ?_) ?_
  · conv=>whnf
    refine CallQ.use [] (f66 sns (if sns = 10000000 then 2 else 4) (by split <;> omega)) rfl rfl trivial ?_
    rintro v l' ⟨rfl, rfl⟩
    conv=>whnf
    exact ⟨(), trivial, (Rel.lay [] (by kernel_rfl) (by repeat constructor) (by repeat' (first | exact trivial | refine And.intro ?_ ?_ | kernel_rfl)))⟩
  intro _ _
  refine WpN.cut (ι := Unit) (fun _=>[(0, .c (.p 0 0)), (1, .c (.b st)), (3, .c (.i .u8 bw)), (9, .c (.i .i64 n)), (10, .c (.i .i64 sns))]) (fun _=>lay (twoH .any m e recs) 152) (fun _=>True) (WpN.vc ?_) ?_
  · rcases hk with ⟨rfl, rfl, rfl⟩ | ⟨rfl, rfl, rfl⟩ | ⟨rfl, rfl, rfl⟩ | ⟨rfl, rfl, rfl⟩
    all_goals
      conv=>whnf
      repeat' first|(refine Lt (by decide) ?_;conv=>whnf)|(refine Lf (by decide) ?_;conv=>whnf)|fail
      exact ⟨(), trivial, (Rel.lay [] (by kernel_rfl) (by repeat constructor) (by repeat' (first | exact trivial | refine And.intro ?_ ?_ | kernel_rfl)))⟩
  intro _ _
  refine WpN.cut (ι := Ch × Bool) (fun x => [(0, .c (.p 0 0)), (1, .c (.b st)), (3, .c (.i .u8 bw)), (9, .c (.i .i64 n)), (10, .c (.i .i64 sns)), (12, .c (.sl 81 0 n (x.1.Z 5).cap)), (13, .c (.b x.2))]) (fun x => lay (twoH .any x.1 e recs) 152) (fun x => x.1.Ok ∧ n ≤ (x.1.Z 5).cap) (WpN.vc ?_) ?_
  · conv=>whnf
    refine CallQ.useF rhoM (f67_5 m.a (m.c, m.c) m.D m.Z n hm.d hn3) rfl (by kernel_rfl) (stEq_lay (by repeat' (first | exact trivial | refine And.intro ?_ ?_ | kernel_rfl)) 38 0) ?_
    rintro v l' ⟨D1, B5, lb, rfl, rfl, hD1, hB5⟩
    conv=>whnf
    exact ⟨(⟨D1, setZ m.Z 5 B5, m.c, m.a⟩, lb), ⟨⟨hD1, hm.n, hm.c⟩, hB5⟩, (Rel.lay [(81, 152)] (by kernel_rfl) (by repeat constructor) (by repeat' (first | exact trivial | refine And.intro ?_ ?_ | kernel_rfl)))⟩
  rintro ⟨m1, lb⟩ ⟨hm1, h5⟩
  dsimp only at hm1 h5 ⊢
  cases st
  · exact f29_6m m1 e recs n lb sns bw hm1 he h5 hn hb hs h3
  · refine WpN.cut (ι := Unit) (fun _=>[(0, .c (.p 0 0)), (1, .c (.b true)), (3, .c (.i .u8 bw)), (9, .c (.i .i64 n)), (10, .c (.i .i64 sns)), (12, .c (.sl 81 0 n (m1.Z 5).cap)), (13, .c (.b lb))]) (fun _=>lay (twoH .any m1 e recs) 152) (fun _=>True) (WpN.vc ?_) (fun _ _ => f29_7s m1 e recs n lb sns bw hm1 he h5 hn hb hs h3)
    conv=>whnf
    repeat' first|(refine Lt (by decide) ?_;conv=>whnf)|(refine Lf (by decide) ?_;conv=>whnf)|fail
    exact ⟨(), trivial, (Rel.lay [] (by kernel_rfl) (by repeat constructor) (by repeat' (first | exact trivial | refine And.intro ?_ ?_ | kernel_rfl)))⟩
end Go.SX
