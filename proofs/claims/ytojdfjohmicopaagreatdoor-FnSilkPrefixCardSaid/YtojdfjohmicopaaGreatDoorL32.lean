/- A part of the proof: the SILK decoder of the given program, walked by an executor that is proved sound. No statement of the program is proved in this text. -/
import Derived.Test.YtojdfjohmicopaaGreatDoorL15
import Derived.Test.YtojdfjohmicopaaGreatDoorL31
set_option linter.all false
set_option maxRecDepth 100000
namespace Go.SX
open Go
theorem f116N (N : List (Nat × Nat)) (sd : Bool) (a : Nat) (q : Nat × Nat) (D : Dec) (Z : Nat → Buf) (kind : Int) (fs : Bool) (hD : D.Ok) :
    Fn0 116 [.c (.p 0 0), .c (.i .u8 kind), .c (.b fs)] (.st (cells sd N a q D Z)) fun v b' => ∃ (D' : Dec) (r : Int), D'.Ok ∧ v = .c (.i .i32 r) ∧ b' = .st (cells sd N a q D' Z) := by
  refine Fn0.run Proofs.Tryz.f116 rfl rfl rfl rfl rfl fun st m => ?_
  conv=>whnf
  generalize hx : (kind != 9) = x
  cases x <;> cases fs <;> conv=>whnf
  all_goals (repeat' first|(refine Lt (by decide) ?_;conv=>whnf)|(refine Lf (by decide) ?_;conv=>whnf)|fail)
  all_goals first
    | exact ⟨_, rfl, rfl, by repeat constructor, rfl, D, _, hD, rfl, rfl⟩
    | skip
  refine .inl ⟨by kernel_rfl, ?_⟩
  conv=>whnf
  refine CallQ.use [] t185 rfl rfl trivial ?_
  rintro v l' ⟨rfl, rfl⟩
  conv=>whnf
  refine CallQ.use0 (f56 _ _ _ _ _ _ 256 _ _ hD.rc (by kernel_rfl)) (by rfl) ?_
  rintro v b' ⟨k, b, n, s, h, rfl, hk, hr, rfl⟩
  conv=>whnf
  refine ⟨fun _=>?_, fun _=>?_⟩
  · conv=>whnf
    exact ⟨_, rfl, rfl, by repeat constructor, rfl, { D with b := b, n := n, s := s, h := h }, _, ⟨hr, hD.gain⟩, rfl, rfl⟩
  conv=>whnf
  refine ⟨fun _=>?_, fun _=>?_⟩
  · conv=>whnf
    exact ⟨_, rfl, rfl, by repeat constructor, rfl, { D with b := b, n := n, s := s, h := h }, _, ⟨hr, hD.gain⟩, rfl, rfl⟩
  conv=>whnf
  refine ⟨fun _=>?_, fun _=>?_⟩
  · conv=>whnf
    exact ⟨_, rfl, rfl, by repeat constructor, rfl, { D with b := b, n := n, s := s, h := h }, _, ⟨hr, hD.gain⟩, rfl, rfl⟩
  conv=>whnf
  exact ⟨_, rfl, rfl, by repeat constructor, rfl, { D with b := b, n := n, s := s, h := h }, _, ⟨hr, hD.gain⟩, rfl, rfl⟩
@[reducible] def mkR (Z : Nat → Buf) (kind off i1 w mx ltp seed rl : Int) (d sb : Nat) : R122 where
  kind := kind; off := off; i1 := i1; w := w; mx := mx; ltp := ltp; seed := seed; rl := rl; d := d; sb := sb
  c9 := (Z 9).cap; c11 := (Z 11).cap; c12 := (Z 12).cap; c15 := (Z 15).cap; c22 := (Z 22).cap; c23 := (Z 23).cap; l23 := 0; c25 := (Z 25).cap; c27 := (Z 27).cap; c1 := (Z 1).cap; c2 := (Z 2).cap; c4 := (Z 4).cap
  ps := (Z 1).xs; ls := (Z 2).xs; es := (Z 4).xs; gs := (Z 9).xs; rs := (Z 11).xs; ns := (Z 12).xs; ms := (Z 15).xs; f0 := (Z 22).xs; f1 := (Z 23).xs; lg := (Z 25).xs; tp := (Z 27).xs
set_option maxHeartbeats 4000000 in
theorem rec94_0 (sd : Bool) (c : Nat) (D : Dec) (Z : Nat → Buf) (recs : List (List C)) (va first skip : Bool) (ns bw w : Int) (I1 n d sb rl : Nat) (kind off : Int) (hko : (kind = 7 ∨ kind = 8 ∨ kind = 9) ∧ (off = 10 ∨ off = 11)) (ltp seed : Int) (Z0 : Nat → Buf) (hF : Fl Z Z0) (hD : D.Ok) (h3 : recs.length < 1000000) (hs : sb ≤ 20) (hd : d = 10 ∨ d = 16) (h9 : n ≤ (Z 9).cap) (hG : Gn n (Z 9).xs) (h11 : d ≤ (Z 11).cap) (h12 : d ≤ (Z 12).cap) (hL : LsfOk d (Z 12).xs) (h22 : d ≤ (Z 22).cap) (hc : c = 0 ∨ c = 2 ∨ c = 4) (hn : 0 < n ∧ n ≤ 4) (h1 : sb ≤ (Z 1).cap) (h2 : sb ≤ (Z 2).cap) (h4 : 16 * sb ≤ (Z 4).cap) :
    WpN 38 193 (tl94 22) (mkE (eA va ns bw first skip n kind off (.sl 39 0 n (Z 9).cap) I1 d (.sl 41 0 d (Z 11).cap) (.sl 42 0 d (Z 12).cap) .nsl w [(23, .c (.sl 24 0 1 2)), (24, .c (.i .u32 0)), (25, .c .nsl), (26, .c .nsl), (27, .c (.i .i32 ltp)), (28, .c (.i .u32 seed)), (29, .c (.i .i64 sb)), (30, .c (.i .u32 rl)), (31, .c (.sl 51 0 sb (Z 1).cap)), (32, .c (.sl 52 0 sb (Z 2).cap)), (33, .c (.sl 54 0 (16 * sb) (Z 4).cap))])) (mkS (lay (dlu sd [(1, 51), (2, 52), (3, 53), (4, 54), (9, 39), (10, 40), (11, 41), (12, 42), (13, 43), (14, 44), (16, 45), (17, 46), (18, 47), (19, 48), (20, 49), (22, 50), (28, 38)] 1 (c, c) D Z (.st [.sl 50 0 d (Z 22).cap, .any]) (.un c) 30 recs 51 52 53 54 39 40 41 42 43 44 15 45 46 47 48 49 21 50 23 25 26 27 38) 55)) 55 (EndR Proofs.Tryz.f94.results.toList 38 193 (Post94 sd Z0 recs)) := by
  have z1 := (Z 1).ok
  have z2 := (Z 2).ok
  have z4 := (Z 4).ok
  have z9 := (Z 9).ok
  have z11 := (Z 11).ok
  have z12 := (Z 12).ok
  have z15 := (Z 15).ok
  have z22 := (Z 22).ok
  have z23 := (Z 23).ok
  refine WpN.seq (WpN.vc ?_)
  conv=>whnf
  refine CallQ.useF [0, 51, 52, 53, 54, 5, 6, 7, 8, 39, 40, 41, 42, 43, 44, 15, 45, 46, 47, 48, 49, 21, 50, 23, 24, 25, 26, 27, 38, 29, 30, 31, 32, 33, 34, 35, 36, 37] (f122 sd 1 (c, c) D Z (mkR Z kind off I1 w 0 ltp seed rl d sb) 0 0 n 0 () () () () recs ⟨.inl rfl, .inl ⟨rfl, rfl⟩⟩ ⟨by first | omega | (dsimp only [Lit.v, mkR]; omega), by show d ≤ (Z 11).xs.length; omega, by show d ≤ (Z 12).xs.length; omega, fun _=>by contradiction, by show d ≤ (Z 22).xs.length; omega, fun _=>by contradiction, fun _=>by contradiction, by show sb ≤ (Z 1).xs.length; omega, by show sb ≤ (Z 2).xs.length; omega, by show 16 * sb ≤ (Z 4).xs.length; omega⟩ ⟨by first | omega | (dsimp only [Lit.v, mkR]; omega), by show d ≤ 16; omega, by show sb ≤ 20; omega⟩ h3) rfl (by cases sd <;> kernel_rfl) (stEq_lay (by cases sd <;> repeat constructor) 38 0) ?_
  rintro v l' ⟨rfl, rfl⟩
  conv=>whnf
  refine WpN.weaken (s := mkSt [(0, .c (.p 0 0)), (14, .c (.i .u8 kind)), (18, .c (.i .i64 d)), (20, .c (.sl 50 0 d (Z 12).cap))] (lay (dlu sd [(1, 39), (2, 40), (3, 41), (4, 42), (9, 47), (10, 48), (11, 49), (12, 50), (13, 51), (14, 52), (15, 53), (16, 54), (17, 55), (18, 56), (19, 57), (20, 58), (21, 59), (22, 60), (23, 61), (25, 63), (26, 64), (27, 65), (28, 66)] 1 (c, c) (Dx D) Z (.un 2) (.un c) 68 (recs ++ [(REC (m := 0) (k := 0) (n := n) () () () D (mkR Z kind off I1 w 0 ltp seed rl d sb))]) 39 40 41 42 47 48 49 50 51 52 53 54 55 56 57 58 59 60 61 63 64 65 66) 76) 193) (Rel.trans (Rel.forget (nm := 24) (k := 2) rfl rfl) (Rel.lay [(39, 51), (40, 52), (41, 53), (42, 54), (47, 39), (48, 40), (49, 41), (50, 42), (51, 43), (52, 44), (53, 15), (54, 45), (55, 46), (56, 47), (57, 48), (58, 49), (59, 21), (60, 50), (61, 23), (63, 25), (64, 26), (65, 27), (66, 38), (68, 55)] (by cases sd <;> kernel_rfl) (by repeat constructor) (by cases sd <;> repeat constructor))) rfl ?_
  exact fin94 sd 1 c (Dx D) Z recs _ kind d ⟨hD.rc, hD.gain⟩ Z0 hF hc hd h12 hL (recOk [] hko hn hG (Nat.le_trans h9 z9) hd hL (Nat.le_trans h12 z12) hs (by simp [zif]) (rowsOk 0 (by show d ≤ 16; omega)) ⟨by simp [zif], fun x hx => by simp [zif] at hx⟩ ⟨.inr ⟨rfl, rfl⟩, by simp, fun x hx => by simp at hx⟩)
set_option maxHeartbeats 4000000 in
theorem exc94_0 (sd : Bool) (c : Nat) (D : Dec) (Z : Nat → Buf) (recs : List (List C)) (va first skip : Bool) (ns bw w : Int) (I1 n d sb : Nat) (kind off : Int) (hko : (kind = 7 ∨ kind = 8 ∨ kind = 9) ∧ (off = 10 ∨ off = 11)) (Z0 : Nat → Buf) (hF : Fl Z Z0) (hD : D.Ok) (h3 : recs.length < 1000000) (hb : bw = 1 ∨ bw = 2 ∨ bw = 3)
    (hsb : (ns = 10000000 ∧ bw = 1 ∧ (sb : Int) = 5) ∨ (ns = 10000000 ∧ bw = 2 ∧ (sb : Int) = 8) ∨ (ns = 10000000 ∧ bw = 3 ∧ (sb : Int) = 10) ∨ (ns = 20000000 ∧ bw = 1 ∧ (sb : Int) = 10) ∨ (ns = 20000000 ∧ bw = 2 ∧ (sb : Int) = 15) ∨ (ns = 20000000 ∧ bw = 3 ∧ (sb : Int) = 20)) (hn : (ns = 10000000 ∧ n = 2) ∨ (ns = 20000000 ∧ n = 4)) (hc : c = 0 ∨ c = 2 ∨ c = 4) (hk : kind ≠ 9) (hd : d = 10 ∨ d = 16) (h9 : n ≤ (Z 9).cap) (hG : Gn n (Z 9).xs) (h11 : d ≤ (Z 11).cap) (h12 : d ≤ (Z 12).cap) (hL : LsfOk d (Z 12).xs) (h22 : d ≤ (Z 22).cap) :
    WpN 38 193 (tl94 14) (mkE (eA va ns bw first skip n kind off (.sl 39 0 n (Z 9).cap) I1 d (.sl 41 0 d (Z 11).cap) (.sl 42 0 d (Z 12).cap) .nsl w [(23, .c (.sl 24 0 1 2))])) (mkS (lay (dlu sd [(9, 39), (10, 40), (11, 41), (12, 42), (13, 43), (14, 44), (16, 45), (17, 46), (18, 47), (19, 48), (20, 49), (22, 50), (28, 38)] 1 (c, c) D Z (.st [.sl 50 0 d (Z 22).cap, .any]) (.un c) 30 recs 1 2 3 4 39 40 41 42 43 44 15 45 46 47 48 49 21 50 23 25 26 27 38) 51)) 51 (EndR Proofs.Tryz.f94.results.toList 38 193 (Post94 sd Z0 recs)) := by
  refine WpN.seq (WpN.vc ?_)
  conv=>whnf
  refine CallQ.useF [0, 1, 2, 3, 4, 5, 6, 7, 8, 39, 40, 41, 42, 43, 44, 15, 45, 46, 47, 48, 49, 21, 50, 23, 24, 25, 26, 27, 38, 29, 30, 31, 32, 33, 34, 35, 36, 37] (f114u sd 1 (c, c) D Z kind bw ns first hk) rfl (by cases sd <;> kernel_rfl) (stEq_lay (by cases sd <;> repeat constructor) 38 0) ?_
  rintro v l' ⟨rfl, rfl⟩
  conv=>whnf
  refine WpN.seq (WpN.vc ?_)
  conv=>whnf
  refine CallQ.useF [0, 1, 2, 3, 4, 5, 6, 7, 8, 39, 40, 41, 42, 43, 44, 15, 45, 46, 47, 48, 49, 21, 50, 23, 24, 25, 26, 27, 38, 29, 30, 31, 32, 33, 34, 35, 36, 37] (f115u sd 1 (c, c) D Z kind n hk) rfl (by cases sd <;> kernel_rfl) (stEq_lay (by cases sd <;> repeat constructor) 38 0) ?_
  rintro v l' ⟨rfl, rfl⟩
  conv=>whnf
  refine WpN.weaken (s := mkSt (eA va ns bw first skip n kind off (.sl 39 0 n (Z 9).cap) I1 d (.sl 41 0 d (Z 11).cap) (.sl 42 0 d (Z 12).cap) .nsl w [(23, .c (.sl 24 0 1 2)), (24, .c (.i .u32 0)), (25, .c .nsl), (26, .c .nsl)]) (lay (dlu sd [(9, 39), (10, 40), (11, 41), (12, 42), (13, 43), (14, 44), (16, 45), (17, 46), (18, 47), (19, 48), (20, 49), (22, 50), (28, 38)] 1 (c, c) D Z (.st [.sl 50 0 d (Z 22).cap, .any]) (.un c) 30 recs 1 2 3 4 39 40 41 42 43 44 15 45 46 47 48 49 21 50 23 25 26 27 38) 51) 193) (Rel.lay [] (by cases sd <;> kernel_rfl) (by repeat constructor) (by cases sd <;> repeat constructor)) rfl ?_
  refine WpN.cut (ι := Dec × Int) (fun x => (eA va ns bw first skip n kind off (.sl 39 0 n (Z 9).cap) I1 d (.sl 41 0 d (Z 11).cap) (.sl 42 0 d (Z 12).cap) .nsl w [(23, .c (.sl 24 0 1 2)), (24, .c (.i .u32 0)), (25, .c .nsl), (26, .c .nsl), (27, .c (.i .i32 x.2))])) (fun x => lay (dlu sd [(9, 39), (10, 40), (11, 41), (12, 42), (13, 43), (14, 44), (16, 45), (17, 46), (18, 47), (19, 48), (20, 49), (22, 50), (28, 38)] 1 (c, c) x.1 Z (.st [.sl 50 0 d (Z 22).cap, .any]) (.un c) 30 recs 1 2 3 4 39 40 41 42 43 44 15 45 46 47 48 49 21 50 23 25 26 27 38) 51) (fun x => x.1.Ok) (WpN.vc ?_) ?_
  · conv=>whnf
    cases first
    all_goals
      conv=>whnf
      repeat' first|(refine Lt (by decide) ?_;conv=>whnf)|(refine Lf (by decide) ?_;conv=>whnf)|fail
      refine CallQ.use0 (f116N _ sd 1 (c, c) D Z kind _ hD) (by first | rfl | (cases sd <;> rfl)) ?_
      rintro v b' ⟨D5, r, hD5, rfl, rfl⟩
      conv=>whnf
      exact ⟨(D5, r), hD5, Rel.lay [] (by cases sd <;> kernel_rfl) (by repeat constructor) (by cases sd <;> repeat constructor)⟩
  rintro ⟨D5, ltp⟩ hD5
  dsimp only at hD5 ⊢
  refine WpN.seq (WpN.vc ?_)
  conv=>whnf
  refine CallQ.use0 (f117 _ _ _ _ _ _ _ hD5.rc) (by first | rfl | (cases sd <;> rfl)) ?_
  rintro v b' ⟨seed, b, nn, s', h, rfl, hse, hr, rfl⟩
  conv=>whnf
  refine WpN.weaken (s := mkSt (eA va ns bw first skip n kind off (.sl 39 0 n (Z 9).cap) I1 d (.sl 41 0 d (Z 11).cap) (.sl 42 0 d (Z 12).cap) .nsl w [(23, .c (.sl 24 0 1 2)), (24, .c (.i .u32 0)), (25, .c .nsl), (26, .c .nsl), (27, .c (.i .i32 ltp)), (28, .c (.i .u32 seed))]) (lay (dlu sd [(9, 39), (10, 40), (11, 41), (12, 42), (13, 43), (14, 44), (16, 45), (17, 46), (18, 47), (19, 48), (20, 49), (22, 50), (28, 38)] 1 (c, c) { D5 with b := b, n := nn, s := s', h := h } Z (.st [.sl 50 0 d (Z 22).cap, .any]) (.un c) 30 recs 1 2 3 4 39 40 41 42 43 44 15 45 46 47 48 49 21 50 23 25 26 27 38) 51) 193) (Rel.lay [] (by cases sd <;> kernel_rfl) (by repeat constructor) (by cases sd <;> repeat constructor)) rfl ?_
  have hD6 : Dec.Ok { D5 with b := b, n := nn, s := s', h := h } := ⟨hr, hD5.gain⟩
  generalize ({ D5 with b := b, n := nn, s := s', h := h } : Dec) = D6 at hD6
  refine WpN.seq (WpN.vc ?_)
  conv=>whnf
  refine CallQ.useF [0] (f118 ns bw sb hsb) rfl rfl trivial ?_
  rintro v l' ⟨rfl, rfl⟩
  conv=>whnf
  refine WpN.seq (WpN.vc ?_)
  conv=>whnf
  refine CallQ.use0 (f119 _ _ _ _ _ _ _ _ hD6.rc) (by first | rfl | (cases sd <;> rfl)) ?_
  rintro v b' ⟨x, b, nn, s', h, rfl, hx, hr, rfl⟩
  obtain ⟨rl, rfl⟩ : ∃ rl : Nat, x = rl := ⟨x.toNat, by omega⟩
  conv=>whnf
  refine WpN.weaken (s := mkSt (eA va ns bw first skip n kind off (.sl 39 0 n (Z 9).cap) I1 d (.sl 41 0 d (Z 11).cap) (.sl 42 0 d (Z 12).cap) .nsl w [(23, .c (.sl 24 0 1 2)), (24, .c (.i .u32 0)), (25, .c .nsl), (26, .c .nsl), (27, .c (.i .i32 ltp)), (28, .c (.i .u32 seed)), (29, .c (.i .i64 sb)), (30, .c (.i .u32 rl))]) (lay (dlu sd [(9, 39), (10, 40), (11, 41), (12, 42), (13, 43), (14, 44), (16, 45), (17, 46), (18, 47), (19, 48), (20, 49), (22, 50), (28, 38)] 1 (c, c) { D6 with b := b, n := nn, s := s', h := h } Z (.st [.sl 50 0 d (Z 22).cap, .any]) (.un c) 30 recs 1 2 3 4 39 40 41 42 43 44 15 45 46 47 48 49 21 50 23 25 26 27 38) 51) 193) (Rel.lay [] (by cases sd <;> kernel_rfl) (by repeat constructor) (by cases sd <;> repeat constructor)) rfl ?_
  have hD7 : Dec.Ok { D6 with b := b, n := nn, s := s', h := h } := ⟨hr, hD6.gain⟩
  generalize ({ D6 with b := b, n := nn, s := s', h := h } : Dec) = D7 at hD7
  refine WpN.seq (WpN.vc ?_)
  conv=>whnf
  refine CallQ.useF [0, 1, 2, 3, 4, 5, 6, 7, 8, 39, 40, 41, 42, 43, 44, 15, 45, 46, 47, 48, 49, 21, 50, 23, 24, 25, 26, 27, 38, 29, 30, 31, 32, 33, 34, 35, 36, 37] (f120 sd 1 (c, c) D7 Z sb rl hD7 (by omega) (by omega)) rfl (by cases sd <;> kernel_rfl) (stEq_lay (by cases sd <;> repeat constructor) 38 0) ?_
  rintro v l' ⟨D8, C1, C2, hD8, rfl, ⟨hc1, hc2, hi1, hi2⟩, rfl⟩
  conv=>whnf
  refine WpN.weaken (s := mkSt (eA va ns bw first skip n kind off (.sl 39 0 n (Z 9).cap) I1 d (.sl 41 0 d (Z 11).cap) (.sl 42 0 d (Z 12).cap) .nsl w [(23, .c (.sl 24 0 1 2)), (24, .c (.i .u32 0)), (25, .c .nsl), (26, .c .nsl), (27, .c (.i .i32 ltp)), (28, .c (.i .u32 seed)), (29, .c (.i .i64 sb)), (30, .c (.i .u32 rl)), (31, .c (.sl 51 0 sb ((setZ (setZ Z 1 C1) 2 C2) 1).cap)), (32, .c (.sl 52 0 sb ((setZ (setZ Z 1 C1) 2 C2) 2).cap))]) (lay (dlu sd [(1, 51), (2, 52), (9, 39), (10, 40), (11, 41), (12, 42), (13, 43), (14, 44), (16, 45), (17, 46), (18, 47), (19, 48), (20, 49), (22, 50), (28, 38)] 1 (c, c) D8 (setZ (setZ Z 1 C1) 2 C2) (.st [.sl 50 0 d ((setZ (setZ Z 1 C1) 2 C2) 22).cap, .any]) (.un c) 30 recs 51 52 3 4 39 40 41 42 43 44 15 45 46 47 48 49 21 50 23 25 26 27 38) 53) 193) (Rel.lay [] (by cases sd <;> kernel_rfl) (by repeat constructor) (by cases sd <;> repeat constructor)) rfl ?_
  have hk1 := C1.ok
  have hk2 := C2.ok
  refine WpN.seq (WpN.vc ?_)
  conv=>whnf
  refine CallQ.useF [0, 51, 52, 3, 4, 5, 6, 7, 8, 39, 40, 41, 42, 43, 44, 15, 45, 46, 47, 48, 49, 21, 50, 23, 24, 25, 26, 27, 38, 29, 30, 31, 32, 33, 34, 35, 36, 37] (f121 sd 1 (c, c) D8 (setZ (setZ Z 1 C1) 2 C2) kind off seed sb C1.cap C2.cap C1.xs C2.xs hko hD8 (by omega) hi1 hi2) rfl (by cases sd <;> kernel_rfl) (stEq_lay (by cases sd <;> repeat constructor) 38 0) ?_
  rintro v l' ⟨D9, C3, C4, hD9, rfl, hc4, rfl⟩
  conv=>whnf
  refine WpN.weaken (s := mkSt (eA va ns bw first skip n kind off (.sl 39 0 n (Z 9).cap) I1 d (.sl 41 0 d (Z 11).cap) (.sl 42 0 d (Z 12).cap) .nsl w [(23, .c (.sl 24 0 1 2)), (24, .c (.i .u32 0)), (25, .c .nsl), (26, .c .nsl), (27, .c (.i .i32 ltp)), (28, .c (.i .u32 seed)), (29, .c (.i .i64 sb)), (30, .c (.i .u32 rl)), (31, .c (.sl 51 0 sb ((setZ (setZ Z 1 C1) 2 C2) 1).cap)), (32, .c (.sl 52 0 sb ((setZ (setZ Z 1 C1) 2 C2) 2).cap)), (33, .c (.sl 54 0 (16 * sb) ((setZ (setZ (setZ (setZ Z 1 C1) 2 C2) 3 C3) 4 C4) 4).cap))]) (lay (dlu sd [(1, 51), (2, 52), (3, 53), (4, 54), (9, 39), (10, 40), (11, 41), (12, 42), (13, 43), (14, 44), (16, 45), (17, 46), (18, 47), (19, 48), (20, 49), (22, 50), (28, 38)] 1 (c, c) D9 (setZ (setZ (setZ (setZ Z 1 C1) 2 C2) 3 C3) 4 C4) (.st [.sl 50 0 d ((setZ (setZ (setZ (setZ Z 1 C1) 2 C2) 3 C3) 4 C4) 22).cap, .any]) (.un c) 30 recs 51 52 53 54 39 40 41 42 43 44 15 45 46 47 48 49 21 50 23 25 26 27 38) 55) 193) (Rel.lay [] (by cases sd <;> kernel_rfl) (by repeat constructor) (by cases sd <;> repeat constructor)) rfl ?_
  exact rec94_0 sd c D9 (setZ (setZ (setZ (setZ Z 1 C1) 2 C2) 3 C3) 4 C4) recs va first skip ns bw w I1 n d sb rl kind off hko ltp seed Z0 hF hD9 h3 (by omega) hd h9 hG h11 h12 hL h22 hc (by omega) hc1 hc2 hc4
set_option maxHeartbeats 4000000 in
theorem rec94v_0 (sd : Bool) (c : Nat) (D : Dec) (Z : Nat → Buf) (recs : List (List C)) (va first skip : Bool) (ns bw w : Int) (I1 n d sb rl : Nat) (off : Int) (hko : off = 10 ∨ off = 11) (mx ltp seed : Int) (Z0 : Nat → Buf) (hF : Fl Z Z0) (hD : D.Ok) (h3 : recs.length < 1000000) (hs : sb ≤ 20) (hd : d = 10 ∨ d = 16) (h9 : n ≤ (Z 9).cap) (hG : Gn n (Z 9).xs) (h11 : d ≤ (Z 11).cap) (h12 : d ≤ (Z 12).cap) (hL : LsfOk d (Z 12).xs) (h22 : d ≤ (Z 22).cap) (hq : (n = 2 ∧ c = 2) ∨ (n = 2 ∧ c = 4) ∨ (n = 4 ∧ c = 4)) (h25 : n ≤ (Z 25).cap) (hLg : Lg n (Z 25).xs) (h27 : 5 * n ≤ (Z 27).cap) (h1 : sb ≤ (Z 1).cap) (h2 : sb ≤ (Z 2).cap) (h4 : 16 * sb ≤ (Z 4).cap) :
    WpN 38 193 (tl94 22) (mkE (eA va ns bw first skip n 9 off (.sl 39 0 n (Z 9).cap) I1 d (.sl 41 0 d (Z 11).cap) (.sl 42 0 d (Z 12).cap) .nsl w [(23, .c (.sl 24 0 1 2)), (24, .c (.i .u32 mx)), (25, .c (.sl 51 0 n (Z 25).cap)), (26, .c (.sl 52 0 n c)), (27, .c (.i .i32 ltp)), (28, .c (.i .u32 seed)), (29, .c (.i .i64 sb)), (30, .c (.i .u32 rl)), (31, .c (.sl 54 0 sb (Z 1).cap)), (32, .c (.sl 55 0 sb (Z 2).cap)), (33, .c (.sl 57 0 (16 * sb) (Z 4).cap))])) (mkS (lay (dlu sd [(1, 54), (2, 55), (3, 56), (4, 57), (9, 39), (10, 40), (11, 41), (12, 42), (13, 43), (14, 44), (16, 45), (17, 46), (18, 47), (19, 48), (20, 49), (22, 50), (25, 51), (26, 52), (27, 53), (28, 38)] 1 (c, c) D Z (.st [.sl 50 0 d (Z 22).cap, .any]) (.st (bq n c 53 (Z 27).cap)) 30 recs 54 55 56 57 39 40 41 42 43 44 15 45 46 47 48 49 21 50 23 51 52 53 38) 58)) 58 (EndR Proofs.Tryz.f94.results.toList 38 193 (Post94 sd Z0 recs)) := by
  have z1 := (Z 1).ok
  have z2 := (Z 2).ok
  have z4 := (Z 4).ok
  have z9 := (Z 9).ok
  have z11 := (Z 11).ok
  have z12 := (Z 12).ok
  have z15 := (Z 15).ok
  have z22 := (Z 22).ok
  have z23 := (Z 23).ok
  have z25 := (Z 25).ok
  have z27 := (Z 27).ok
  have vn : Lit n := ()
  have vq : Lit c := ()
  rcases hq with ⟨rfl, rfl⟩ | ⟨rfl, rfl⟩ | ⟨rfl, rfl⟩
  all_goals
    refine WpN.seq (WpN.vc ?_)
    conv=>whnf
    refine CallQ.useF [0, 54, 55, 56, 57, 5, 6, 7, 8, 39, 40, 41, 42, 43, 44, 15, 45, 46, 47, 48, 49, 21, 50, 23, 24, 51, 52, 53, 38, 29, 30, 31, 32, 33, 34, 35, 36, 37] (f122 sd 1 (vq.v, vq.v) D Z (mkR Z 9 off I1 w mx ltp seed rl d sb) 0 1 vn.v vq.v () () () () recs ⟨.inl rfl, .inr ⟨rfl, by first | omega | (dsimp only [Lit.v, mkR]; omega)⟩⟩ ⟨by first | omega | (dsimp only [Lit.v, mkR]; omega), by show d ≤ (Z 11).xs.length; omega, by show d ≤ (Z 12).xs.length; omega, fun _=>by contradiction, by show d ≤ (Z 22).xs.length; omega, fun _=>by contradiction, fun _=>by exact ⟨Nat.le_trans h25 z25, Nat.le_trans h27 z27⟩, by show sb ≤ (Z 1).xs.length; omega, by show sb ≤ (Z 2).xs.length; omega, by show 16 * sb ≤ (Z 4).xs.length; omega⟩ ⟨by first | omega | (dsimp only [Lit.v, mkR]; omega), by show d ≤ 16; omega, by show sb ≤ 20; omega⟩ h3) rfl (by cases sd <;> kernel_rfl) (stEq_lay (by cases sd <;> repeat constructor) 38 0) ?_
    rintro v l' ⟨rfl, rfl⟩
    conv=>whnf
    refine WpN.weaken (s := mkSt [(0, .c (.p 0 0)), (14, .c (.i .u8 9)), (18, .c (.i .i64 d)), (20, .c (.sl 50 0 d (Z 12).cap))] (lay (dlu sd [(1, 39), (2, 40), (3, 41), (4, 42), (9, 47), (10, 48), (11, 49), (12, 50), (13, 51), (14, 52), (15, 53), (16, 54), (17, 55), (18, 56), (19, 57), (20, 58), (21, 59), (22, 60), (23, 61), (25, 63), (26, 64), (27, 65), (28, 66)] 1 (vq.v, vq.v) (Dx D) Z (.un 2) (.un vq.v) 68 (recs ++ [(REC (m := 0) (k := 1) (n := vn.v) () () () D (mkR Z 9 off I1 w mx ltp seed rl d sb))]) 39 40 41 42 47 48 49 50 51 52 53 54 55 56 57 58 59 60 61 63 64 65 66) 76) 193) (Rel.trans (Rel.forget (nm := 24) (k := 2) rfl rfl) (Rel.trans (Rel.forget (nm := 52) (k := vq.v) rfl rfl) (Rel.lay [(39, 54), (40, 55), (41, 56), (42, 57), (47, 39), (48, 40), (49, 41), (50, 42), (51, 43), (52, 44), (53, 15), (54, 45), (55, 46), (56, 47), (57, 48), (58, 49), (59, 21), (60, 50), (61, 23), (63, 51), (64, 52), (65, 53), (66, 38), (68, 58)] (by cases sd <;> kernel_rfl) (by repeat constructor) (by cases sd <;> repeat constructor)))) rfl ?_
    exact fin94 sd 1 vq.v (Dx D) Z recs _ 9 d ⟨hD.rc, hD.gain⟩ Z0 hF (by first | omega | (dsimp only [Lit.v, mkR]; omega)) hd h12 hL (recOk (tq vn.v (Z 27).xs) ⟨.inr (.inr rfl), hko⟩ (by first | omega | (dsimp only [Lit.v, mkR]; omega)) hG (Nat.le_trans h9 z9) hd hL (Nat.le_trans h12 z12) hs (by simp [zif]) (rowsOk 0 (by show d ≤ 16; omega)) ⟨by simp only [zif, List.length_take, Lit.v]; omega, fun x hx => ⟨hLg.take x hx, rfl⟩⟩ ⟨.inl rfl, tapsOk _⟩)
set_option maxHeartbeats 4000000 in
theorem exc94v_0 (sd : Bool) (c : Nat) (D : Dec) (Z : Nat → Buf) (recs : List (List C)) (va first skip : Bool) (ns bw w : Int) (I1 n d sb : Nat) (off : Int) (hko : off = 10 ∨ off = 11) (Z0 : Nat → Buf) (hF : Fl Z Z0) (hD : D.Ok) (h3 : recs.length < 1000000) (hb : bw = 1 ∨ bw = 2 ∨ bw = 3)
    (hsb : (ns = 10000000 ∧ bw = 1 ∧ (sb : Int) = 5) ∨ (ns = 10000000 ∧ bw = 2 ∧ (sb : Int) = 8) ∨ (ns = 10000000 ∧ bw = 3 ∧ (sb : Int) = 10) ∨ (ns = 20000000 ∧ bw = 1 ∧ (sb : Int) = 10) ∨ (ns = 20000000 ∧ bw = 2 ∧ (sb : Int) = 15) ∨ (ns = 20000000 ∧ bw = 3 ∧ (sb : Int) = 20)) (hn : (ns = 10000000 ∧ n = 2) ∨ (ns = 20000000 ∧ n = 4)) (hc : c = 0 ∨ c = 2 ∨ c = 4) (hd : d = 10 ∨ d = 16) (h9 : n ≤ (Z 9).cap) (hG : Gn n (Z 9).xs) (h11 : d ≤ (Z 11).cap) (h12 : d ≤ (Z 12).cap) (hL : LsfOk d (Z 12).xs) (h22 : d ≤ (Z 22).cap) :
    WpN 38 193 (tl94 14) (mkE (eA va ns bw first skip n 9 off (.sl 39 0 n (Z 9).cap) I1 d (.sl 41 0 d (Z 11).cap) (.sl 42 0 d (Z 12).cap) .nsl w [(23, .c (.sl 24 0 1 2))])) (mkS (lay (dlu sd [(9, 39), (10, 40), (11, 41), (12, 42), (13, 43), (14, 44), (16, 45), (17, 46), (18, 47), (19, 48), (20, 49), (22, 50), (28, 38)] 1 (c, c) D Z (.st [.sl 50 0 d (Z 22).cap, .any]) (.un c) 30 recs 1 2 3 4 39 40 41 42 43 44 15 45 46 47 48 49 21 50 23 25 26 27 38) 51)) 51 (EndR Proofs.Tryz.f94.results.toList 38 193 (Post94 sd Z0 recs)) := by
  refine WpN.seq (WpN.vc ?_)
  conv=>whnf
  refine CallQ.useF [0, 1, 2, 3, 4, 5, 6, 7, 8, 39, 40, 41, 42, 43, 44, 15, 45, 46, 47, 48, 49, 21, 50, 23, 24, 25, 26, 27, 38, 29, 30, 31, 32, 33, 34, 35, 36, 37] (f114 sd 1 (c, c) D Z bw ns first n hD hb (by omega)) rfl (by cases sd <;> kernel_rfl) (stEq_lay (by cases sd <;> repeat constructor) 38 0) ?_
  rintro v l' ⟨D1, B1, mx, hD1, rfl, hB1, hLg, rfl⟩
  conv=>whnf
  refine WpN.weaken (s := mkSt (eA va ns bw first skip n 9 off (.sl 39 0 n (Z 9).cap) I1 d (.sl 41 0 d (Z 11).cap) (.sl 42 0 d (Z 12).cap) .nsl w [(23, .c (.sl 24 0 1 2)), (24, .c (.i .u32 mx)), (25, .c (.sl 51 0 n ((setZ Z 25 B1) 25).cap))]) (lay (dlu sd [(9, 39), (10, 40), (11, 41), (12, 42), (13, 43), (14, 44), (16, 45), (17, 46), (18, 47), (19, 48), (20, 49), (22, 50), (25, 51), (28, 38)] 1 (c, c) D1 (setZ Z 25 B1) (.st [.sl 50 0 d ((setZ Z 25 B1) 22).cap, .any]) (.un c) 30 recs 1 2 3 4 39 40 41 42 43 44 15 45 46 47 48 49 21 50 23 51 26 27 38) 52) 193) (Rel.lay [] (by cases sd <;> kernel_rfl) (by repeat constructor) (by cases sd <;> repeat constructor)) rfl ?_
  obtain ⟨cc, hq, h115⟩ := f115v sd 1 c n D1 (setZ Z 25 B1) hc (by omega) hD1
  refine WpN.seq (WpN.vc ?_)
  conv=>whnf
  refine CallQ.useF [0, 1, 2, 3, 4, 5, 6, 7, 8, 39, 40, 41, 42, 43, 44, 15, 45, 46, 47, 48, 49, 21, 50, 23, 24, 51, 26, 27, 38, 29, 30, 31, 32, 33, 34, 35, 36, 37] (h115) rfl (by cases sd <;> kernel_rfl) (stEq_lay (by cases sd <;> repeat constructor) 38 0) ?_
  rintro v l' ⟨D2, B2, hD2, rfl, hB2, rfl⟩
  conv=>whnf
  have vn : Lit n := ()
  have vq : Lit cc := ()
  rcases hq with ⟨rfl, rfl⟩ | ⟨rfl, rfl⟩ | ⟨rfl, rfl⟩
  all_goals
    refine WpN.weaken (s := mkSt (eA va ns bw first skip vn.v 9 off (.sl 39 0 vn.v (Z 9).cap) I1 d (.sl 41 0 d (Z 11).cap) (.sl 42 0 d (Z 12).cap) .nsl w [(23, .c (.sl 24 0 1 2)), (24, .c (.i .u32 mx)), (25, .c (.sl 51 0 vn.v ((setZ Z 25 B1) 25).cap)), (26, .c (.sl 52 0 vn.v vq.v))]) (lay (dlu sd [(9, 39), (10, 40), (11, 41), (12, 42), (13, 43), (14, 44), (16, 45), (17, 46), (18, 47), (19, 48), (20, 49), (22, 50), (25, 51), (26, 52), (27, 53), (28, 38)] 1 (vq.v, vq.v) D2 (setZ (setZ Z 25 B1) 27 B2) (.st [.sl 50 0 d ((setZ (setZ Z 25 B1) 27 B2) 22).cap, .any]) (.st (bq vn.v vq.v 53 ((setZ (setZ Z 25 B1) 27 B2) 27).cap)) 30 recs 1 2 3 4 39 40 41 42 43 44 15 45 46 47 48 49 21 50 23 51 52 53 38) 54) 193) (Rel.lay [] (by cases sd <;> kernel_rfl) (by repeat constructor) (by cases sd <;> repeat constructor)) rfl ?_
    refine WpN.cut (ι := Dec × Int) (fun x => (eA va ns bw first skip vn.v 9 off (.sl 39 0 vn.v (Z 9).cap) I1 d (.sl 41 0 d (Z 11).cap) (.sl 42 0 d (Z 12).cap) .nsl w [(23, .c (.sl 24 0 1 2)), (24, .c (.i .u32 mx)), (25, .c (.sl 51 0 vn.v ((setZ Z 25 B1) 25).cap)), (26, .c (.sl 52 0 vn.v vq.v)), (27, .c (.i .i32 x.2))])) (fun x => lay (dlu sd [(9, 39), (10, 40), (11, 41), (12, 42), (13, 43), (14, 44), (16, 45), (17, 46), (18, 47), (19, 48), (20, 49), (22, 50), (25, 51), (26, 52), (27, 53), (28, 38)] 1 (vq.v, vq.v) x.1 (setZ (setZ Z 25 B1) 27 B2) (.st [.sl 50 0 d ((setZ (setZ Z 25 B1) 27 B2) 22).cap, .any]) (.st (bq vn.v vq.v 53 ((setZ (setZ Z 25 B1) 27 B2) 27).cap)) 30 recs 1 2 3 4 39 40 41 42 43 44 15 45 46 47 48 49 21 50 23 51 52 53 38) 54) (fun x => x.1.Ok) (WpN.vc ?_) ?_
    · conv=>whnf
      cases first
      all_goals
        conv=>whnf
        repeat' first|(refine Lt (by decide) ?_;conv=>whnf)|(refine Lf (by decide) ?_;conv=>whnf)|fail
        refine CallQ.use0 (f116N _ sd 1 (vq.v, vq.v) D2 (setZ (setZ Z 25 B1) 27 B2) 9 _ hD2) (by first | rfl | (cases sd <;> rfl)) ?_
        rintro v b' ⟨D5, r, hD5, rfl, rfl⟩
        conv=>whnf
        exact ⟨(D5, r), hD5, Rel.lay [] (by cases sd <;> kernel_rfl) (by repeat constructor) (by cases sd <;> repeat constructor)⟩
    rintro ⟨D5, ltp⟩ hD5
    dsimp only at hD5 ⊢
    refine WpN.seq (WpN.vc ?_)
    conv=>whnf
    refine CallQ.use0 (f117 _ _ _ _ _ _ _ hD5.rc) (by first | rfl | (cases sd <;> rfl)) ?_
    rintro v b' ⟨seed, b, nn, s', h, rfl, hse, hr, rfl⟩
    conv=>whnf
    refine WpN.weaken (s := mkSt (eA va ns bw first skip vn.v 9 off (.sl 39 0 vn.v (Z 9).cap) I1 d (.sl 41 0 d (Z 11).cap) (.sl 42 0 d (Z 12).cap) .nsl w [(23, .c (.sl 24 0 1 2)), (24, .c (.i .u32 mx)), (25, .c (.sl 51 0 vn.v ((setZ Z 25 B1) 25).cap)), (26, .c (.sl 52 0 vn.v vq.v)), (27, .c (.i .i32 ltp)), (28, .c (.i .u32 seed))]) (lay (dlu sd [(9, 39), (10, 40), (11, 41), (12, 42), (13, 43), (14, 44), (16, 45), (17, 46), (18, 47), (19, 48), (20, 49), (22, 50), (25, 51), (26, 52), (27, 53), (28, 38)] 1 (vq.v, vq.v) { D5 with b := b, n := nn, s := s', h := h } (setZ (setZ Z 25 B1) 27 B2) (.st [.sl 50 0 d ((setZ (setZ Z 25 B1) 27 B2) 22).cap, .any]) (.st (bq vn.v vq.v 53 ((setZ (setZ Z 25 B1) 27 B2) 27).cap)) 30 recs 1 2 3 4 39 40 41 42 43 44 15 45 46 47 48 49 21 50 23 51 52 53 38) 54) 193) (Rel.lay [] (by cases sd <;> kernel_rfl) (by repeat constructor) (by cases sd <;> repeat constructor)) rfl ?_
    have hD6 : Dec.Ok { D5 with b := b, n := nn, s := s', h := h } := ⟨hr, hD5.gain⟩
    generalize ({ D5 with b := b, n := nn, s := s', h := h } : Dec) = D6 at hD6
    refine WpN.seq (WpN.vc ?_)
    conv=>whnf
    refine CallQ.useF [0] (f118 ns bw sb hsb) rfl rfl trivial ?_
    rintro v l' ⟨rfl, rfl⟩
    conv=>whnf
    refine WpN.seq (WpN.vc ?_)
    conv=>whnf
    refine CallQ.use0 (f119 _ _ _ _ _ _ _ _ hD6.rc) (by first | rfl | (cases sd <;> rfl)) ?_
    rintro v b' ⟨x, b, nn, s', h, rfl, hx, hr, rfl⟩
    obtain ⟨rl, rfl⟩ : ∃ rl : Nat, x = rl := ⟨x.toNat, by omega⟩
    conv=>whnf
    refine WpN.weaken (s := mkSt (eA va ns bw first skip vn.v 9 off (.sl 39 0 vn.v (Z 9).cap) I1 d (.sl 41 0 d (Z 11).cap) (.sl 42 0 d (Z 12).cap) .nsl w [(23, .c (.sl 24 0 1 2)), (24, .c (.i .u32 mx)), (25, .c (.sl 51 0 vn.v ((setZ Z 25 B1) 25).cap)), (26, .c (.sl 52 0 vn.v vq.v)), (27, .c (.i .i32 ltp)), (28, .c (.i .u32 seed)), (29, .c (.i .i64 sb)), (30, .c (.i .u32 rl))]) (lay (dlu sd [(9, 39), (10, 40), (11, 41), (12, 42), (13, 43), (14, 44), (16, 45), (17, 46), (18, 47), (19, 48), (20, 49), (22, 50), (25, 51), (26, 52), (27, 53), (28, 38)] 1 (vq.v, vq.v) { D6 with b := b, n := nn, s := s', h := h } (setZ (setZ Z 25 B1) 27 B2) (.st [.sl 50 0 d ((setZ (setZ Z 25 B1) 27 B2) 22).cap, .any]) (.st (bq vn.v vq.v 53 ((setZ (setZ Z 25 B1) 27 B2) 27).cap)) 30 recs 1 2 3 4 39 40 41 42 43 44 15 45 46 47 48 49 21 50 23 51 52 53 38) 54) 193) (Rel.lay [] (by cases sd <;> kernel_rfl) (by repeat constructor) (by cases sd <;> repeat constructor)) rfl ?_
    have hD7 : Dec.Ok { D6 with b := b, n := nn, s := s', h := h } := ⟨hr, hD6.gain⟩
    generalize ({ D6 with b := b, n := nn, s := s', h := h } : Dec) = D7 at hD7
    refine WpN.seq (WpN.vc ?_)
    conv=>whnf
    refine CallQ.useF [0, 1, 2, 3, 4, 5, 6, 7, 8, 39, 40, 41, 42, 43, 44, 15, 45, 46, 47, 48, 49, 21, 50, 23, 24, 51, 52, 53, 38, 29, 30, 31, 32, 33, 34, 35, 36, 37] (f120 sd 1 (vq.v, vq.v) D7 (setZ (setZ Z 25 B1) 27 B2) sb rl hD7 (by omega) (by omega)) rfl (by cases sd <;> kernel_rfl) (stEq_lay (by cases sd <;> repeat constructor) 38 0) ?_
    rintro v l' ⟨D8, C1, C2, hD8, rfl, ⟨hc1, hc2, hi1, hi2⟩, rfl⟩
    conv=>whnf
    refine WpN.weaken (s := mkSt (eA va ns bw first skip vn.v 9 off (.sl 39 0 vn.v (Z 9).cap) I1 d (.sl 41 0 d (Z 11).cap) (.sl 42 0 d (Z 12).cap) .nsl w [(23, .c (.sl 24 0 1 2)), (24, .c (.i .u32 mx)), (25, .c (.sl 51 0 vn.v ((setZ Z 25 B1) 25).cap)), (26, .c (.sl 52 0 vn.v vq.v)), (27, .c (.i .i32 ltp)), (28, .c (.i .u32 seed)), (29, .c (.i .i64 sb)), (30, .c (.i .u32 rl)), (31, .c (.sl 54 0 sb ((setZ (setZ (setZ (setZ Z 25 B1) 27 B2) 1 C1) 2 C2) 1).cap)), (32, .c (.sl 55 0 sb ((setZ (setZ (setZ (setZ Z 25 B1) 27 B2) 1 C1) 2 C2) 2).cap))]) (lay (dlu sd [(1, 54), (2, 55), (9, 39), (10, 40), (11, 41), (12, 42), (13, 43), (14, 44), (16, 45), (17, 46), (18, 47), (19, 48), (20, 49), (22, 50), (25, 51), (26, 52), (27, 53), (28, 38)] 1 (vq.v, vq.v) D8 (setZ (setZ (setZ (setZ Z 25 B1) 27 B2) 1 C1) 2 C2) (.st [.sl 50 0 d ((setZ (setZ (setZ (setZ Z 25 B1) 27 B2) 1 C1) 2 C2) 22).cap, .any]) (.st (bq vn.v vq.v 53 ((setZ (setZ (setZ (setZ Z 25 B1) 27 B2) 1 C1) 2 C2) 27).cap)) 30 recs 54 55 3 4 39 40 41 42 43 44 15 45 46 47 48 49 21 50 23 51 52 53 38) 56) 193) (Rel.lay [] (by cases sd <;> kernel_rfl) (by repeat constructor) (by cases sd <;> repeat constructor)) rfl ?_
    have hk1 := C1.ok
    have hk2 := C2.ok
    refine WpN.seq (WpN.vc ?_)
    conv=>whnf
    refine CallQ.useF [0, 54, 55, 3, 4, 5, 6, 7, 8, 39, 40, 41, 42, 43, 44, 15, 45, 46, 47, 48, 49, 21, 50, 23, 24, 51, 52, 53, 38, 29, 30, 31, 32, 33, 34, 35, 36, 37] (f121 sd 1 (vq.v, vq.v) D8 (setZ (setZ (setZ (setZ Z 25 B1) 27 B2) 1 C1) 2 C2) 9 off seed sb C1.cap C2.cap C1.xs C2.xs ⟨.inr (.inr rfl), hko⟩ hD8 (by omega) hi1 hi2) rfl (by cases sd <;> kernel_rfl) (stEq_lay (by cases sd <;> repeat constructor) 38 0) ?_
    rintro v l' ⟨D9, C3, C4, hD9, rfl, hc4, rfl⟩
    conv=>whnf
    refine WpN.weaken (s := mkSt (eA va ns bw first skip vn.v 9 off (.sl 39 0 vn.v (Z 9).cap) I1 d (.sl 41 0 d (Z 11).cap) (.sl 42 0 d (Z 12).cap) .nsl w [(23, .c (.sl 24 0 1 2)), (24, .c (.i .u32 mx)), (25, .c (.sl 51 0 vn.v ((setZ Z 25 B1) 25).cap)), (26, .c (.sl 52 0 vn.v vq.v)), (27, .c (.i .i32 ltp)), (28, .c (.i .u32 seed)), (29, .c (.i .i64 sb)), (30, .c (.i .u32 rl)), (31, .c (.sl 54 0 sb ((setZ (setZ (setZ (setZ Z 25 B1) 27 B2) 1 C1) 2 C2) 1).cap)), (32, .c (.sl 55 0 sb ((setZ (setZ (setZ (setZ Z 25 B1) 27 B2) 1 C1) 2 C2) 2).cap)), (33, .c (.sl 57 0 (16 * sb) ((setZ (setZ (setZ (setZ (setZ (setZ Z 25 B1) 27 B2) 1 C1) 2 C2) 3 C3) 4 C4) 4).cap))]) (lay (dlu sd [(1, 54), (2, 55), (3, 56), (4, 57), (9, 39), (10, 40), (11, 41), (12, 42), (13, 43), (14, 44), (16, 45), (17, 46), (18, 47), (19, 48), (20, 49), (22, 50), (25, 51), (26, 52), (27, 53), (28, 38)] 1 (vq.v, vq.v) D9 (setZ (setZ (setZ (setZ (setZ (setZ Z 25 B1) 27 B2) 1 C1) 2 C2) 3 C3) 4 C4) (.st [.sl 50 0 d ((setZ (setZ (setZ (setZ (setZ (setZ Z 25 B1) 27 B2) 1 C1) 2 C2) 3 C3) 4 C4) 22).cap, .any]) (.st (bq vn.v vq.v 53 ((setZ (setZ (setZ (setZ (setZ (setZ Z 25 B1) 27 B2) 1 C1) 2 C2) 3 C3) 4 C4) 27).cap)) 30 recs 54 55 56 57 39 40 41 42 43 44 15 45 46 47 48 49 21 50 23 51 52 53 38) 58) 193) (Rel.lay [] (by cases sd <;> kernel_rfl) (by repeat constructor) (by cases sd <;> repeat constructor)) rfl ?_
    exact rec94v_0 sd vq.v D9 (setZ (setZ (setZ (setZ (setZ (setZ Z 25 B1) 27 B2) 1 C1) 2 C2) 3 C3) 4 C4) recs va first skip ns bw w I1 vn.v d sb rl off hko mx ltp seed Z0 hF hD9 h3 (by omega) hd h9 hG h11 h12 hL h22 (by first | omega | (dsimp only [Lit.v, mkR]; omega)) hB1 hLg hB2 hc1 hc2 hc4
set_option maxHeartbeats 4000000 in
theorem rec94_1 (sd : Bool) (c : Nat) (D : Dec) (Z : Nat → Buf) (recs : List (List C)) (va first skip : Bool) (ns bw w : Int) (I1 n d sb rl : Nat) (kind off : Int) (hko : (kind = 7 ∨ kind = 8 ∨ kind = 9) ∧ (off = 10 ∨ off = 11)) (ltp seed : Int) (Z0 : Nat → Buf) (hF : Fl Z Z0) (hD : D.Ok) (h3 : recs.length < 1000000) (hs : sb ≤ 20) (hd : d = 10 ∨ d = 16) (h9 : n ≤ (Z 9).cap) (hG : Gn n (Z 9).xs) (h11 : d ≤ (Z 11).cap) (h12 : d ≤ (Z 12).cap) (hL : LsfOk d (Z 12).xs) (h22 : d ≤ (Z 22).cap) (h15 : d ≤ (Z 15).cap) (h23 : d ≤ (Z 23).cap) (hc : c = 0 ∨ c = 2 ∨ c = 4) (hn : 0 < n ∧ n ≤ 4) (h1 : sb ≤ (Z 1).cap) (h2 : sb ≤ (Z 2).cap) (h4 : 16 * sb ≤ (Z 4).cap) :
    WpN 38 193 (tl94 22) (mkE (eA va ns bw first skip n kind off (.sl 39 0 n (Z 9).cap) I1 d (.sl 41 0 d (Z 11).cap) (.sl 42 0 d (Z 12).cap) (.sl 45 0 d (Z 15).cap) w [(23, .c (.sl 24 0 2 2)), (24, .c (.i .u32 0)), (25, .c .nsl), (26, .c .nsl), (27, .c (.i .i32 ltp)), (28, .c (.i .u32 seed)), (29, .c (.i .i64 sb)), (30, .c (.i .u32 rl)), (31, .c (.sl 58 0 sb (Z 1).cap)), (32, .c (.sl 59 0 sb (Z 2).cap)), (33, .c (.sl 61 0 (16 * sb) (Z 4).cap))])) (mkS (lay (dlu sd [(1, 58), (2, 59), (3, 60), (4, 61), (9, 39), (10, 40), (11, 41), (12, 42), (13, 43), (14, 44), (15, 45), (16, 52), (17, 53), (18, 54), (19, 55), (20, 50), (21, 56), (22, 51), (23, 57), (28, 38)] 2 (c, c) D Z (.st [.sl 51 0 d (Z 22).cap, .sl 57 0 d (Z 23).cap]) (.un c) 30 recs 58 59 60 61 39 40 41 42 43 44 45 52 53 54 55 50 56 51 57 25 26 27 38) 62)) 62 (EndR Proofs.Tryz.f94.results.toList 38 193 (Post94 sd Z0 recs)) := by
  have z1 := (Z 1).ok
  have z2 := (Z 2).ok
  have z4 := (Z 4).ok
  have z9 := (Z 9).ok
  have z11 := (Z 11).ok
  have z12 := (Z 12).ok
  have z15 := (Z 15).ok
  have z22 := (Z 22).ok
  have z23 := (Z 23).ok
  refine WpN.seq (WpN.vc ?_)
  conv=>whnf
  refine CallQ.useF [0, 58, 59, 60, 61, 5, 6, 7, 8, 39, 40, 41, 42, 43, 44, 45, 52, 53, 54, 55, 50, 56, 51, 57, 24, 25, 26, 27, 38, 29, 30, 31, 32, 33, 34, 35, 36, 37] (f122 sd 2 (c, c) D Z (mkR Z kind off I1 w 0 ltp seed rl d sb) 1 0 n 0 () () () () recs ⟨.inr rfl, .inl ⟨rfl, rfl⟩⟩ ⟨by first | omega | (dsimp only [Lit.v, mkR]; omega), by show d ≤ (Z 11).xs.length; omega, by show d ≤ (Z 12).xs.length; omega, fun _=>by show d ≤ (Z 15).xs.length; omega, by show d ≤ (Z 22).xs.length; omega, fun _=>by show d ≤ (Z 23).xs.length; omega, fun _=>by contradiction, by show sb ≤ (Z 1).xs.length; omega, by show sb ≤ (Z 2).xs.length; omega, by show 16 * sb ≤ (Z 4).xs.length; omega⟩ ⟨by first | omega | (dsimp only [Lit.v, mkR]; omega), by show d ≤ 16; omega, by show sb ≤ 20; omega⟩ h3) rfl (by cases sd <;> kernel_rfl) (stEq_lay (by cases sd <;> repeat constructor) 38 0) ?_
  rintro v l' ⟨rfl, rfl⟩
  conv=>whnf
  refine WpN.weaken (s := mkSt [(0, .c (.p 0 0)), (14, .c (.i .u8 kind)), (18, .c (.i .i64 d)), (20, .c (.sl 50 0 d (Z 12).cap))] (lay (dlu sd [(1, 39), (2, 40), (3, 41), (4, 42), (9, 47), (10, 48), (11, 49), (12, 50), (13, 51), (14, 52), (15, 53), (16, 54), (17, 55), (18, 56), (19, 57), (20, 58), (21, 59), (22, 60), (23, 61), (25, 63), (26, 64), (27, 65), (28, 66)] 2 (c, c) (Dx D) Z (.un 2) (.un c) 68 (recs ++ [(REC (m := 1) (k := 0) (n := n) () () () D (mkR Z kind off I1 w 0 ltp seed rl d sb))]) 39 40 41 42 47 48 49 50 51 52 53 54 55 56 57 58 59 60 61 63 64 65 66) 76) 193) (Rel.trans (Rel.forget (nm := 24) (k := 2) rfl rfl) (Rel.lay [(39, 58), (40, 59), (41, 60), (42, 61), (47, 39), (48, 40), (49, 41), (50, 42), (51, 43), (52, 44), (53, 45), (54, 52), (55, 53), (56, 54), (57, 55), (58, 50), (59, 56), (60, 51), (61, 57), (63, 25), (64, 26), (65, 27), (66, 38), (68, 62)] (by cases sd <;> kernel_rfl) (by repeat constructor) (by cases sd <;> repeat constructor))) rfl ?_
  exact fin94 sd 2 c (Dx D) Z recs _ kind d ⟨hD.rc, hD.gain⟩ Z0 hF hc hd h12 hL (recOk [] hko hn hG (Nat.le_trans h9 z9) hd hL (Nat.le_trans h12 z12) hs (by simp [zif]; omega) (rowsOk 1 (by show d ≤ 16; omega)) ⟨by simp [zif], fun x hx => by simp [zif] at hx⟩ ⟨.inr ⟨rfl, rfl⟩, by simp, fun x hx => by simp at hx⟩)
set_option maxHeartbeats 4000000 in
theorem exc94_1 (sd : Bool) (c : Nat) (D : Dec) (Z : Nat → Buf) (recs : List (List C)) (va first skip : Bool) (ns bw w : Int) (I1 n d sb : Nat) (kind off : Int) (hko : (kind = 7 ∨ kind = 8 ∨ kind = 9) ∧ (off = 10 ∨ off = 11)) (Z0 : Nat → Buf) (hF : Fl Z Z0) (hD : D.Ok) (h3 : recs.length < 1000000) (hb : bw = 1 ∨ bw = 2 ∨ bw = 3)
    (hsb : (ns = 10000000 ∧ bw = 1 ∧ (sb : Int) = 5) ∨ (ns = 10000000 ∧ bw = 2 ∧ (sb : Int) = 8) ∨ (ns = 10000000 ∧ bw = 3 ∧ (sb : Int) = 10) ∨ (ns = 20000000 ∧ bw = 1 ∧ (sb : Int) = 10) ∨ (ns = 20000000 ∧ bw = 2 ∧ (sb : Int) = 15) ∨ (ns = 20000000 ∧ bw = 3 ∧ (sb : Int) = 20)) (hn : (ns = 10000000 ∧ n = 2) ∨ (ns = 20000000 ∧ n = 4)) (hc : c = 0 ∨ c = 2 ∨ c = 4) (hk : kind ≠ 9) (hd : d = 10 ∨ d = 16) (h9 : n ≤ (Z 9).cap) (hG : Gn n (Z 9).xs) (h11 : d ≤ (Z 11).cap) (h12 : d ≤ (Z 12).cap) (hL : LsfOk d (Z 12).xs) (h22 : d ≤ (Z 22).cap) (h15 : d ≤ (Z 15).cap) (h23 : d ≤ (Z 23).cap) :
    WpN 38 193 (tl94 14) (mkE (eA va ns bw first skip n kind off (.sl 39 0 n (Z 9).cap) I1 d (.sl 41 0 d (Z 11).cap) (.sl 42 0 d (Z 12).cap) (.sl 45 0 d (Z 15).cap) w [(23, .c (.sl 24 0 2 2))])) (mkS (lay (dlu sd [(9, 39), (10, 40), (11, 41), (12, 42), (13, 43), (14, 44), (15, 45), (16, 52), (17, 53), (18, 54), (19, 55), (20, 50), (21, 56), (22, 51), (23, 57), (28, 38)] 2 (c, c) D Z (.st [.sl 51 0 d (Z 22).cap, .sl 57 0 d (Z 23).cap]) (.un c) 30 recs 1 2 3 4 39 40 41 42 43 44 45 52 53 54 55 50 56 51 57 25 26 27 38) 58)) 58 (EndR Proofs.Tryz.f94.results.toList 38 193 (Post94 sd Z0 recs)) := by
  refine WpN.seq (WpN.vc ?_)
  conv=>whnf
  refine CallQ.useF [0, 1, 2, 3, 4, 5, 6, 7, 8, 39, 40, 41, 42, 43, 44, 45, 52, 53, 54, 55, 50, 56, 51, 57, 24, 25, 26, 27, 38, 29, 30, 31, 32, 33, 34, 35, 36, 37] (f114u sd 2 (c, c) D Z kind bw ns first hk) rfl (by cases sd <;> kernel_rfl) (stEq_lay (by cases sd <;> repeat constructor) 38 0) ?_
  rintro v l' ⟨rfl, rfl⟩
  conv=>whnf
  refine WpN.seq (WpN.vc ?_)
  conv=>whnf
  refine CallQ.useF [0, 1, 2, 3, 4, 5, 6, 7, 8, 39, 40, 41, 42, 43, 44, 45, 52, 53, 54, 55, 50, 56, 51, 57, 24, 25, 26, 27, 38, 29, 30, 31, 32, 33, 34, 35, 36, 37] (f115u sd 2 (c, c) D Z kind n hk) rfl (by cases sd <;> kernel_rfl) (stEq_lay (by cases sd <;> repeat constructor) 38 0) ?_
  rintro v l' ⟨rfl, rfl⟩
  conv=>whnf
  refine WpN.weaken (s := mkSt (eA va ns bw first skip n kind off (.sl 39 0 n (Z 9).cap) I1 d (.sl 41 0 d (Z 11).cap) (.sl 42 0 d (Z 12).cap) (.sl 45 0 d (Z 15).cap) w [(23, .c (.sl 24 0 2 2)), (24, .c (.i .u32 0)), (25, .c .nsl), (26, .c .nsl)]) (lay (dlu sd [(9, 39), (10, 40), (11, 41), (12, 42), (13, 43), (14, 44), (15, 45), (16, 52), (17, 53), (18, 54), (19, 55), (20, 50), (21, 56), (22, 51), (23, 57), (28, 38)] 2 (c, c) D Z (.st [.sl 51 0 d (Z 22).cap, .sl 57 0 d (Z 23).cap]) (.un c) 30 recs 1 2 3 4 39 40 41 42 43 44 45 52 53 54 55 50 56 51 57 25 26 27 38) 58) 193) (Rel.lay [] (by cases sd <;> kernel_rfl) (by repeat constructor) (by cases sd <;> repeat constructor)) rfl ?_
  refine WpN.cut (ι := Dec × Int) (fun x => (eA va ns bw first skip n kind off (.sl 39 0 n (Z 9).cap) I1 d (.sl 41 0 d (Z 11).cap) (.sl 42 0 d (Z 12).cap) (.sl 45 0 d (Z 15).cap) w [(23, .c (.sl 24 0 2 2)), (24, .c (.i .u32 0)), (25, .c .nsl), (26, .c .nsl), (27, .c (.i .i32 x.2))])) (fun x => lay (dlu sd [(9, 39), (10, 40), (11, 41), (12, 42), (13, 43), (14, 44), (15, 45), (16, 52), (17, 53), (18, 54), (19, 55), (20, 50), (21, 56), (22, 51), (23, 57), (28, 38)] 2 (c, c) x.1 Z (.st [.sl 51 0 d (Z 22).cap, .sl 57 0 d (Z 23).cap]) (.un c) 30 recs 1 2 3 4 39 40 41 42 43 44 45 52 53 54 55 50 56 51 57 25 26 27 38) 58) (fun x => x.1.Ok) (WpN.vc ?_) ?_
  · conv=>whnf
    cases first
    all_goals
      conv=>whnf
      repeat' first|(refine Lt (by decide) ?_;conv=>whnf)|(refine Lf (by decide) ?_;conv=>whnf)|fail
      refine CallQ.use0 (f116N _ sd 2 (c, c) D Z kind _ hD) (by first | rfl | (cases sd <;> rfl)) ?_
      rintro v b' ⟨D5, r, hD5, rfl, rfl⟩
      conv=>whnf
      exact ⟨(D5, r), hD5, Rel.lay [] (by cases sd <;> kernel_rfl) (by repeat constructor) (by cases sd <;> repeat constructor)⟩
  rintro ⟨D5, ltp⟩ hD5
  dsimp only at hD5 ⊢
  refine WpN.seq (WpN.vc ?_)
  conv=>whnf
  refine CallQ.use0 (f117 _ _ _ _ _ _ _ hD5.rc) (by first | rfl | (cases sd <;> rfl)) ?_
  rintro v b' ⟨seed, b, nn, s', h, rfl, hse, hr, rfl⟩
  conv=>whnf
  refine WpN.weaken (s := mkSt (eA va ns bw first skip n kind off (.sl 39 0 n (Z 9).cap) I1 d (.sl 41 0 d (Z 11).cap) (.sl 42 0 d (Z 12).cap) (.sl 45 0 d (Z 15).cap) w [(23, .c (.sl 24 0 2 2)), (24, .c (.i .u32 0)), (25, .c .nsl), (26, .c .nsl), (27, .c (.i .i32 ltp)), (28, .c (.i .u32 seed))]) (lay (dlu sd [(9, 39), (10, 40), (11, 41), (12, 42), (13, 43), (14, 44), (15, 45), (16, 52), (17, 53), (18, 54), (19, 55), (20, 50), (21, 56), (22, 51), (23, 57), (28, 38)] 2 (c, c) { D5 with b := b, n := nn, s := s', h := h } Z (.st [.sl 51 0 d (Z 22).cap, .sl 57 0 d (Z 23).cap]) (.un c) 30 recs 1 2 3 4 39 40 41 42 43 44 45 52 53 54 55 50 56 51 57 25 26 27 38) 58) 193) (Rel.lay [] (by cases sd <;> kernel_rfl) (by repeat constructor) (by cases sd <;> repeat constructor)) rfl ?_
  have hD6 : Dec.Ok { D5 with b := b, n := nn, s := s', h := h } := ⟨hr, hD5.gain⟩
  generalize ({ D5 with b := b, n := nn, s := s', h := h } : Dec) = D6 at hD6
  refine WpN.seq (WpN.vc ?_)
  conv=>whnf
  refine CallQ.useF [0] (f118 ns bw sb hsb) rfl rfl trivial ?_
  rintro v l' ⟨rfl, rfl⟩
  conv=>whnf
  refine WpN.seq (WpN.vc ?_)
  conv=>whnf
  refine CallQ.use0 (f119 _ _ _ _ _ _ _ _ hD6.rc) (by first | rfl | (cases sd <;> rfl)) ?_
  rintro v b' ⟨x, b, nn, s', h, rfl, hx, hr, rfl⟩
  obtain ⟨rl, rfl⟩ : ∃ rl : Nat, x = rl := ⟨x.toNat, by omega⟩
  conv=>whnf
  refine WpN.weaken (s := mkSt (eA va ns bw first skip n kind off (.sl 39 0 n (Z 9).cap) I1 d (.sl 41 0 d (Z 11).cap) (.sl 42 0 d (Z 12).cap) (.sl 45 0 d (Z 15).cap) w [(23, .c (.sl 24 0 2 2)), (24, .c (.i .u32 0)), (25, .c .nsl), (26, .c .nsl), (27, .c (.i .i32 ltp)), (28, .c (.i .u32 seed)), (29, .c (.i .i64 sb)), (30, .c (.i .u32 rl))]) (lay (dlu sd [(9, 39), (10, 40), (11, 41), (12, 42), (13, 43), (14, 44), (15, 45), (16, 52), (17, 53), (18, 54), (19, 55), (20, 50), (21, 56), (22, 51), (23, 57), (28, 38)] 2 (c, c) { D6 with b := b, n := nn, s := s', h := h } Z (.st [.sl 51 0 d (Z 22).cap, .sl 57 0 d (Z 23).cap]) (.un c) 30 recs 1 2 3 4 39 40 41 42 43 44 45 52 53 54 55 50 56 51 57 25 26 27 38) 58) 193) (Rel.lay [] (by cases sd <;> kernel_rfl) (by repeat constructor) (by cases sd <;> repeat constructor)) rfl ?_
  have hD7 : Dec.Ok { D6 with b := b, n := nn, s := s', h := h } := ⟨hr, hD6.gain⟩
  generalize ({ D6 with b := b, n := nn, s := s', h := h } : Dec) = D7 at hD7
  refine WpN.seq (WpN.vc ?_)
  conv=>whnf
  refine CallQ.useF [0, 1, 2, 3, 4, 5, 6, 7, 8, 39, 40, 41, 42, 43, 44, 45, 52, 53, 54, 55, 50, 56, 51, 57, 24, 25, 26, 27, 38, 29, 30, 31, 32, 33, 34, 35, 36, 37] (f120 sd 2 (c, c) D7 Z sb rl hD7 (by omega) (by omega)) rfl (by cases sd <;> kernel_rfl) (stEq_lay (by cases sd <;> repeat constructor) 38 0) ?_
  rintro v l' ⟨D8, C1, C2, hD8, rfl, ⟨hc1, hc2, hi1, hi2⟩, rfl⟩
  conv=>whnf
  refine WpN.weaken (s := mkSt (eA va ns bw first skip n kind off (.sl 39 0 n (Z 9).cap) I1 d (.sl 41 0 d (Z 11).cap) (.sl 42 0 d (Z 12).cap) (.sl 45 0 d (Z 15).cap) w [(23, .c (.sl 24 0 2 2)), (24, .c (.i .u32 0)), (25, .c .nsl), (26, .c .nsl), (27, .c (.i .i32 ltp)), (28, .c (.i .u32 seed)), (29, .c (.i .i64 sb)), (30, .c (.i .u32 rl)), (31, .c (.sl 58 0 sb ((setZ (setZ Z 1 C1) 2 C2) 1).cap)), (32, .c (.sl 59 0 sb ((setZ (setZ Z 1 C1) 2 C2) 2).cap))]) (lay (dlu sd [(1, 58), (2, 59), (9, 39), (10, 40), (11, 41), (12, 42), (13, 43), (14, 44), (15, 45), (16, 52), (17, 53), (18, 54), (19, 55), (20, 50), (21, 56), (22, 51), (23, 57), (28, 38)] 2 (c, c) D8 (setZ (setZ Z 1 C1) 2 C2) (.st [.sl 51 0 d ((setZ (setZ Z 1 C1) 2 C2) 22).cap, .sl 57 0 d ((setZ (setZ Z 1 C1) 2 C2) 23).cap]) (.un c) 30 recs 58 59 3 4 39 40 41 42 43 44 45 52 53 54 55 50 56 51 57 25 26 27 38) 60) 193) (Rel.lay [] (by cases sd <;> kernel_rfl) (by repeat constructor) (by cases sd <;> repeat constructor)) rfl ?_
  have hk1 := C1.ok
  have hk2 := C2.ok
  refine WpN.seq (WpN.vc ?_)
  conv=>whnf
  refine CallQ.useF [0, 58, 59, 3, 4, 5, 6, 7, 8, 39, 40, 41, 42, 43, 44, 45, 52, 53, 54, 55, 50, 56, 51, 57, 24, 25, 26, 27, 38, 29, 30, 31, 32, 33, 34, 35, 36, 37] (f121 sd 2 (c, c) D8 (setZ (setZ Z 1 C1) 2 C2) kind off seed sb C1.cap C2.cap C1.xs C2.xs hko hD8 (by omega) hi1 hi2) rfl (by cases sd <;> kernel_rfl) (stEq_lay (by cases sd <;> repeat constructor) 38 0) ?_
  rintro v l' ⟨D9, C3, C4, hD9, rfl, hc4, rfl⟩
  conv=>whnf
  refine WpN.weaken (s := mkSt (eA va ns bw first skip n kind off (.sl 39 0 n (Z 9).cap) I1 d (.sl 41 0 d (Z 11).cap) (.sl 42 0 d (Z 12).cap) (.sl 45 0 d (Z 15).cap) w [(23, .c (.sl 24 0 2 2)), (24, .c (.i .u32 0)), (25, .c .nsl), (26, .c .nsl), (27, .c (.i .i32 ltp)), (28, .c (.i .u32 seed)), (29, .c (.i .i64 sb)), (30, .c (.i .u32 rl)), (31, .c (.sl 58 0 sb ((setZ (setZ Z 1 C1) 2 C2) 1).cap)), (32, .c (.sl 59 0 sb ((setZ (setZ Z 1 C1) 2 C2) 2).cap)), (33, .c (.sl 61 0 (16 * sb) ((setZ (setZ (setZ (setZ Z 1 C1) 2 C2) 3 C3) 4 C4) 4).cap))]) (lay (dlu sd [(1, 58), (2, 59), (3, 60), (4, 61), (9, 39), (10, 40), (11, 41), (12, 42), (13, 43), (14, 44), (15, 45), (16, 52), (17, 53), (18, 54), (19, 55), (20, 50), (21, 56), (22, 51), (23, 57), (28, 38)] 2 (c, c) D9 (setZ (setZ (setZ (setZ Z 1 C1) 2 C2) 3 C3) 4 C4) (.st [.sl 51 0 d ((setZ (setZ (setZ (setZ Z 1 C1) 2 C2) 3 C3) 4 C4) 22).cap, .sl 57 0 d ((setZ (setZ (setZ (setZ Z 1 C1) 2 C2) 3 C3) 4 C4) 23).cap]) (.un c) 30 recs 58 59 60 61 39 40 41 42 43 44 45 52 53 54 55 50 56 51 57 25 26 27 38) 62) 193) (Rel.lay [] (by cases sd <;> kernel_rfl) (by repeat constructor) (by cases sd <;> repeat constructor)) rfl ?_
  exact rec94_1 sd c D9 (setZ (setZ (setZ (setZ Z 1 C1) 2 C2) 3 C3) 4 C4) recs va first skip ns bw w I1 n d sb rl kind off hko ltp seed Z0 hF hD9 h3 (by omega) hd h9 hG h11 h12 hL h22 h15 h23 hc (by omega) hc1 hc2 hc4
set_option maxHeartbeats 4000000 in
theorem rec94v_1 (sd : Bool) (c : Nat) (D : Dec) (Z : Nat → Buf) (recs : List (List C)) (va first skip : Bool) (ns bw w : Int) (I1 n d sb rl : Nat) (off : Int) (hko : off = 10 ∨ off = 11) (mx ltp seed : Int) (Z0 : Nat → Buf) (hF : Fl Z Z0) (hD : D.Ok) (h3 : recs.length < 1000000) (hs : sb ≤ 20) (hd : d = 10 ∨ d = 16) (h9 : n ≤ (Z 9).cap) (hG : Gn n (Z 9).xs) (h11 : d ≤ (Z 11).cap) (h12 : d ≤ (Z 12).cap) (hL : LsfOk d (Z 12).xs) (h22 : d ≤ (Z 22).cap) (h15 : d ≤ (Z 15).cap) (h23 : d ≤ (Z 23).cap) (hq : (n = 2 ∧ c = 2) ∨ (n = 2 ∧ c = 4) ∨ (n = 4 ∧ c = 4)) (h25 : n ≤ (Z 25).cap) (hLg : Lg n (Z 25).xs) (h27 : 5 * n ≤ (Z 27).cap) (h1 : sb ≤ (Z 1).cap) (h2 : sb ≤ (Z 2).cap) (h4 : 16 * sb ≤ (Z 4).cap) :
    WpN 38 193 (tl94 22) (mkE (eA va ns bw first skip n 9 off (.sl 39 0 n (Z 9).cap) I1 d (.sl 41 0 d (Z 11).cap) (.sl 42 0 d (Z 12).cap) (.sl 45 0 d (Z 15).cap) w [(23, .c (.sl 24 0 2 2)), (24, .c (.i .u32 mx)), (25, .c (.sl 58 0 n (Z 25).cap)), (26, .c (.sl 59 0 n c)), (27, .c (.i .i32 ltp)), (28, .c (.i .u32 seed)), (29, .c (.i .i64 sb)), (30, .c (.i .u32 rl)), (31, .c (.sl 61 0 sb (Z 1).cap)), (32, .c (.sl 62 0 sb (Z 2).cap)), (33, .c (.sl 64 0 (16 * sb) (Z 4).cap))])) (mkS (lay (dlu sd [(1, 61), (2, 62), (3, 63), (4, 64), (9, 39), (10, 40), (11, 41), (12, 42), (13, 43), (14, 44), (15, 45), (16, 52), (17, 53), (18, 54), (19, 55), (20, 50), (21, 56), (22, 51), (23, 57), (25, 58), (26, 59), (27, 60), (28, 38)] 2 (c, c) D Z (.st [.sl 51 0 d (Z 22).cap, .sl 57 0 d (Z 23).cap]) (.st (bq n c 60 (Z 27).cap)) 30 recs 61 62 63 64 39 40 41 42 43 44 45 52 53 54 55 50 56 51 57 58 59 60 38) 65)) 65 (EndR Proofs.Tryz.f94.results.toList 38 193 (Post94 sd Z0 recs)) := by
  have z1 := (Z 1).ok
  have z2 := (Z 2).ok
  have z4 := (Z 4).ok
  have z9 := (Z 9).ok
  have z11 := (Z 11).ok
  have z12 := (Z 12).ok
  have z15 := (Z 15).ok
  have z22 := (Z 22).ok
  have z23 := (Z 23).ok
  have z25 := (Z 25).ok
  have z27 := (Z 27).ok
  have vn : Lit n := ()
  have vq : Lit c := ()
  rcases hq with ⟨rfl, rfl⟩ | ⟨rfl, rfl⟩ | ⟨rfl, rfl⟩
  all_goals
    refine WpN.seq (WpN.vc ?_)
    conv=>whnf
    refine CallQ.useF [0, 61, 62, 63, 64, 5, 6, 7, 8, 39, 40, 41, 42, 43, 44, 45, 52, 53, 54, 55, 50, 56, 51, 57, 24, 58, 59, 60, 38, 29, 30, 31, 32, 33, 34, 35, 36, 37] (f122 sd 2 (vq.v, vq.v) D Z (mkR Z 9 off I1 w mx ltp seed rl d sb) 1 1 vn.v vq.v () () () () recs ⟨.inr rfl, .inr ⟨rfl, by first | omega | (dsimp only [Lit.v, mkR]; omega)⟩⟩ ⟨by first | omega | (dsimp only [Lit.v, mkR]; omega), by show d ≤ (Z 11).xs.length; omega, by show d ≤ (Z 12).xs.length; omega, fun _=>by show d ≤ (Z 15).xs.length; omega, by show d ≤ (Z 22).xs.length; omega, fun _=>by show d ≤ (Z 23).xs.length; omega, fun _=>by exact ⟨Nat.le_trans h25 z25, Nat.le_trans h27 z27⟩, by show sb ≤ (Z 1).xs.length; omega, by show sb ≤ (Z 2).xs.length; omega, by show 16 * sb ≤ (Z 4).xs.length; omega⟩ ⟨by first | omega | (dsimp only [Lit.v, mkR]; omega), by show d ≤ 16; omega, by show sb ≤ 20; omega⟩ h3) rfl (by cases sd <;> kernel_rfl) (stEq_lay (by cases sd <;> repeat constructor) 38 0) ?_
    rintro v l' ⟨rfl, rfl⟩
    conv=>whnf
    refine WpN.weaken (s := mkSt [(0, .c (.p 0 0)), (14, .c (.i .u8 9)), (18, .c (.i .i64 d)), (20, .c (.sl 50 0 d (Z 12).cap))] (lay (dlu sd [(1, 39), (2, 40), (3, 41), (4, 42), (9, 47), (10, 48), (11, 49), (12, 50), (13, 51), (14, 52), (15, 53), (16, 54), (17, 55), (18, 56), (19, 57), (20, 58), (21, 59), (22, 60), (23, 61), (25, 63), (26, 64), (27, 65), (28, 66)] 2 (vq.v, vq.v) (Dx D) Z (.un 2) (.un vq.v) 68 (recs ++ [(REC (m := 1) (k := 1) (n := vn.v) () () () D (mkR Z 9 off I1 w mx ltp seed rl d sb))]) 39 40 41 42 47 48 49 50 51 52 53 54 55 56 57 58 59 60 61 63 64 65 66) 76) 193) (Rel.trans (Rel.forget (nm := 24) (k := 2) rfl rfl) (Rel.trans (Rel.forget (nm := 59) (k := vq.v) rfl rfl) (Rel.lay [(39, 61), (40, 62), (41, 63), (42, 64), (47, 39), (48, 40), (49, 41), (50, 42), (51, 43), (52, 44), (53, 45), (54, 52), (55, 53), (56, 54), (57, 55), (58, 50), (59, 56), (60, 51), (61, 57), (63, 58), (64, 59), (65, 60), (66, 38), (68, 65)] (by cases sd <;> kernel_rfl) (by repeat constructor) (by cases sd <;> repeat constructor)))) rfl ?_
    exact fin94 sd 2 vq.v (Dx D) Z recs _ 9 d ⟨hD.rc, hD.gain⟩ Z0 hF (by first | omega | (dsimp only [Lit.v, mkR]; omega)) hd h12 hL (recOk (tq vn.v (Z 27).xs) ⟨.inr (.inr rfl), hko⟩ (by first | omega | (dsimp only [Lit.v, mkR]; omega)) hG (Nat.le_trans h9 z9) hd hL (Nat.le_trans h12 z12) hs (by simp [zif]; omega) (rowsOk 1 (by show d ≤ 16; omega)) ⟨by simp only [zif, List.length_take, Lit.v]; omega, fun x hx => ⟨hLg.take x hx, rfl⟩⟩ ⟨.inl rfl, tapsOk _⟩)
set_option maxHeartbeats 4000000 in
theorem exc94v_1 (sd : Bool) (c : Nat) (D : Dec) (Z : Nat → Buf) (recs : List (List C)) (va first skip : Bool) (ns bw w : Int) (I1 n d sb : Nat) (off : Int) (hko : off = 10 ∨ off = 11) (Z0 : Nat → Buf) (hF : Fl Z Z0) (hD : D.Ok) (h3 : recs.length < 1000000) (hb : bw = 1 ∨ bw = 2 ∨ bw = 3)
    (hsb : (ns = 10000000 ∧ bw = 1 ∧ (sb : Int) = 5) ∨ (ns = 10000000 ∧ bw = 2 ∧ (sb : Int) = 8) ∨ (ns = 10000000 ∧ bw = 3 ∧ (sb : Int) = 10) ∨ (ns = 20000000 ∧ bw = 1 ∧ (sb : Int) = 10) ∨ (ns = 20000000 ∧ bw = 2 ∧ (sb : Int) = 15) ∨ (ns = 20000000 ∧ bw = 3 ∧ (sb : Int) = 20)) (hn : (ns = 10000000 ∧ n = 2) ∨ (ns = 20000000 ∧ n = 4)) (hc : c = 0 ∨ c = 2 ∨ c = 4) (hd : d = 10 ∨ d = 16) (h9 : n ≤ (Z 9).cap) (hG : Gn n (Z 9).xs) (h11 : d ≤ (Z 11).cap) (h12 : d ≤ (Z 12).cap) (hL : LsfOk d (Z 12).xs) (h22 : d ≤ (Z 22).cap) (h15 : d ≤ (Z 15).cap) (h23 : d ≤ (Z 23).cap) :
    WpN 38 193 (tl94 14) (mkE (eA va ns bw first skip n 9 off (.sl 39 0 n (Z 9).cap) I1 d (.sl 41 0 d (Z 11).cap) (.sl 42 0 d (Z 12).cap) (.sl 45 0 d (Z 15).cap) w [(23, .c (.sl 24 0 2 2))])) (mkS (lay (dlu sd [(9, 39), (10, 40), (11, 41), (12, 42), (13, 43), (14, 44), (15, 45), (16, 52), (17, 53), (18, 54), (19, 55), (20, 50), (21, 56), (22, 51), (23, 57), (28, 38)] 2 (c, c) D Z (.st [.sl 51 0 d (Z 22).cap, .sl 57 0 d (Z 23).cap]) (.un c) 30 recs 1 2 3 4 39 40 41 42 43 44 45 52 53 54 55 50 56 51 57 25 26 27 38) 58)) 58 (EndR Proofs.Tryz.f94.results.toList 38 193 (Post94 sd Z0 recs)) := by
  refine WpN.seq (WpN.vc ?_)
  conv=>whnf
  refine CallQ.useF [0, 1, 2, 3, 4, 5, 6, 7, 8, 39, 40, 41, 42, 43, 44, 45, 52, 53, 54, 55, 50, 56, 51, 57, 24, 25, 26, 27, 38, 29, 30, 31, 32, 33, 34, 35, 36, 37] (f114 sd 2 (c, c) D Z bw ns first n hD hb (by omega)) rfl (by cases sd <;> kernel_rfl) (stEq_lay (by cases sd <;> repeat constructor) 38 0) ?_
  rintro v l' ⟨D1, B1, mx, hD1, rfl, hB1, hLg, rfl⟩
  conv=>whnf
  refine WpN.weaken (s := mkSt (eA va ns bw first skip n 9 off (.sl 39 0 n (Z 9).cap) I1 d (.sl 41 0 d (Z 11).cap) (.sl 42 0 d (Z 12).cap) (.sl 45 0 d (Z 15).cap) w [(23, .c (.sl 24 0 2 2)), (24, .c (.i .u32 mx)), (25, .c (.sl 58 0 n ((setZ Z 25 B1) 25).cap))]) (lay (dlu sd [(9, 39), (10, 40), (11, 41), (12, 42), (13, 43), (14, 44), (15, 45), (16, 52), (17, 53), (18, 54), (19, 55), (20, 50), (21, 56), (22, 51), (23, 57), (25, 58), (28, 38)] 2 (c, c) D1 (setZ Z 25 B1) (.st [.sl 51 0 d ((setZ Z 25 B1) 22).cap, .sl 57 0 d ((setZ Z 25 B1) 23).cap]) (.un c) 30 recs 1 2 3 4 39 40 41 42 43 44 45 52 53 54 55 50 56 51 57 58 26 27 38) 59) 193) (Rel.lay [] (by cases sd <;> kernel_rfl) (by repeat constructor) (by cases sd <;> repeat constructor)) rfl ?_
  obtain ⟨cc, hq, h115⟩ := f115v sd 2 c n D1 (setZ Z 25 B1) hc (by omega) hD1
  refine WpN.seq (WpN.vc ?_)
  conv=>whnf
  refine CallQ.useF [0, 1, 2, 3, 4, 5, 6, 7, 8, 39, 40, 41, 42, 43, 44, 45, 52, 53, 54, 55, 50, 56, 51, 57, 24, 58, 26, 27, 38, 29, 30, 31, 32, 33, 34, 35, 36, 37] (h115) rfl (by cases sd <;> kernel_rfl) (stEq_lay (by cases sd <;> repeat constructor) 38 0) ?_
  rintro v l' ⟨D2, B2, hD2, rfl, hB2, rfl⟩
  conv=>whnf
  have vn : Lit n := ()
  have vq : Lit cc := ()
  rcases hq with ⟨rfl, rfl⟩ | ⟨rfl, rfl⟩ | ⟨rfl, rfl⟩
  all_goals
    refine WpN.weaken (s := mkSt (eA va ns bw first skip vn.v 9 off (.sl 39 0 vn.v (Z 9).cap) I1 d (.sl 41 0 d (Z 11).cap) (.sl 42 0 d (Z 12).cap) (.sl 45 0 d (Z 15).cap) w [(23, .c (.sl 24 0 2 2)), (24, .c (.i .u32 mx)), (25, .c (.sl 58 0 vn.v ((setZ Z 25 B1) 25).cap)), (26, .c (.sl 59 0 vn.v vq.v))]) (lay (dlu sd [(9, 39), (10, 40), (11, 41), (12, 42), (13, 43), (14, 44), (15, 45), (16, 52), (17, 53), (18, 54), (19, 55), (20, 50), (21, 56), (22, 51), (23, 57), (25, 58), (26, 59), (27, 60), (28, 38)] 2 (vq.v, vq.v) D2 (setZ (setZ Z 25 B1) 27 B2) (.st [.sl 51 0 d ((setZ (setZ Z 25 B1) 27 B2) 22).cap, .sl 57 0 d ((setZ (setZ Z 25 B1) 27 B2) 23).cap]) (.st (bq vn.v vq.v 60 ((setZ (setZ Z 25 B1) 27 B2) 27).cap)) 30 recs 1 2 3 4 39 40 41 42 43 44 45 52 53 54 55 50 56 51 57 58 59 60 38) 61) 193) (Rel.lay [] (by cases sd <;> kernel_rfl) (by repeat constructor) (by cases sd <;> repeat constructor)) rfl ?_
    refine WpN.cut (ι := Dec × Int) (fun x => (eA va ns bw first skip vn.v 9 off (.sl 39 0 vn.v (Z 9).cap) I1 d (.sl 41 0 d (Z 11).cap) (.sl 42 0 d (Z 12).cap) (.sl 45 0 d (Z 15).cap) w [(23, .c (.sl 24 0 2 2)), (24, .c (.i .u32 mx)), (25, .c (.sl 58 0 vn.v ((setZ Z 25 B1) 25).cap)), (26, .c (.sl 59 0 vn.v vq.v)), (27, .c (.i .i32 x.2))])) (fun x => lay (dlu sd [(9, 39), (10, 40), (11, 41), (12, 42), (13, 43), (14, 44), (15, 45), (16, 52), (17, 53), (18, 54), (19, 55), (20, 50), (21, 56), (22, 51), (23, 57), (25, 58), (26, 59), (27, 60), (28, 38)] 2 (vq.v, vq.v) x.1 (setZ (setZ Z 25 B1) 27 B2) (.st [.sl 51 0 d ((setZ (setZ Z 25 B1) 27 B2) 22).cap, .sl 57 0 d ((setZ (setZ Z 25 B1) 27 B2) 23).cap]) (.st (bq vn.v vq.v 60 ((setZ (setZ Z 25 B1) 27 B2) 27).cap)) 30 recs 1 2 3 4 39 40 41 42 43 44 45 52 53 54 55 50 56 51 57 58 59 60 38) 61) (fun x => x.1.Ok) (WpN.vc ?_) ?_
    · conv=>whnf
      cases first
      all_goals
        conv=>whnf
        repeat' first|(refine Lt (by decide) ?_;conv=>whnf)|(refine Lf (by decide) ?_;conv=>whnf)|fail
        refine CallQ.use0 (f116N _ sd 2 (vq.v, vq.v) D2 (setZ (setZ Z 25 B1) 27 B2) 9 _ hD2) (by first | rfl | (cases sd <;> rfl)) ?_
        rintro v b' ⟨D5, r, hD5, rfl, rfl⟩
        conv=>whnf
        exact ⟨(D5, r), hD5, Rel.lay [] (by cases sd <;> kernel_rfl) (by repeat constructor) (by cases sd <;> repeat constructor)⟩
    rintro ⟨D5, ltp⟩ hD5
    dsimp only at hD5 ⊢
    refine WpN.seq (WpN.vc ?_)
    conv=>whnf
    refine CallQ.use0 (f117 _ _ _ _ _ _ _ hD5.rc) (by first | rfl | (cases sd <;> rfl)) ?_
    rintro v b' ⟨seed, b, nn, s', h, rfl, hse, hr, rfl⟩
    conv=>whnf
    refine WpN.weaken (s := mkSt (eA va ns bw first skip vn.v 9 off (.sl 39 0 vn.v (Z 9).cap) I1 d (.sl 41 0 d (Z 11).cap) (.sl 42 0 d (Z 12).cap) (.sl 45 0 d (Z 15).cap) w [(23, .c (.sl 24 0 2 2)), (24, .c (.i .u32 mx)), (25, .c (.sl 58 0 vn.v ((setZ Z 25 B1) 25).cap)), (26, .c (.sl 59 0 vn.v vq.v)), (27, .c (.i .i32 ltp)), (28, .c (.i .u32 seed))]) (lay (dlu sd [(9, 39), (10, 40), (11, 41), (12, 42), (13, 43), (14, 44), (15, 45), (16, 52), (17, 53), (18, 54), (19, 55), (20, 50), (21, 56), (22, 51), (23, 57), (25, 58), (26, 59), (27, 60), (28, 38)] 2 (vq.v, vq.v) { D5 with b := b, n := nn, s := s', h := h } (setZ (setZ Z 25 B1) 27 B2) (.st [.sl 51 0 d ((setZ (setZ Z 25 B1) 27 B2) 22).cap, .sl 57 0 d ((setZ (setZ Z 25 B1) 27 B2) 23).cap]) (.st (bq vn.v vq.v 60 ((setZ (setZ Z 25 B1) 27 B2) 27).cap)) 30 recs 1 2 3 4 39 40 41 42 43 44 45 52 53 54 55 50 56 51 57 58 59 60 38) 61) 193) (Rel.lay [] (by cases sd <;> kernel_rfl) (by repeat constructor) (by cases sd <;> repeat constructor)) rfl ?_
    have hD6 : Dec.Ok { D5 with b := b, n := nn, s := s', h := h } := ⟨hr, hD5.gain⟩
    generalize ({ D5 with b := b, n := nn, s := s', h := h } : Dec) = D6 at hD6
    refine WpN.seq (WpN.vc ?_)
    conv=>whnf
    refine CallQ.useF [0] (f118 ns bw sb hsb) rfl rfl trivial ?_
    rintro v l' ⟨rfl, rfl⟩
    conv=>whnf
    refine WpN.seq (WpN.vc ?_)
    conv=>whnf
    refine CallQ.use0 (f119 _ _ _ _ _ _ _ _ hD6.rc) (by first | rfl | (cases sd <;> rfl)) ?_
    rintro v b' ⟨x, b, nn, s', h, rfl, hx, hr, rfl⟩
    obtain ⟨rl, rfl⟩ : ∃ rl : Nat, x = rl := ⟨x.toNat, by omega⟩
    conv=>whnf
    refine WpN.weaken (s := mkSt (eA va ns bw first skip vn.v 9 off (.sl 39 0 vn.v (Z 9).cap) I1 d (.sl 41 0 d (Z 11).cap) (.sl 42 0 d (Z 12).cap) (.sl 45 0 d (Z 15).cap) w [(23, .c (.sl 24 0 2 2)), (24, .c (.i .u32 mx)), (25, .c (.sl 58 0 vn.v ((setZ Z 25 B1) 25).cap)), (26, .c (.sl 59 0 vn.v vq.v)), (27, .c (.i .i32 ltp)), (28, .c (.i .u32 seed)), (29, .c (.i .i64 sb)), (30, .c (.i .u32 rl))]) (lay (dlu sd [(9, 39), (10, 40), (11, 41), (12, 42), (13, 43), (14, 44), (15, 45), (16, 52), (17, 53), (18, 54), (19, 55), (20, 50), (21, 56), (22, 51), (23, 57), (25, 58), (26, 59), (27, 60), (28, 38)] 2 (vq.v, vq.v) { D6 with b := b, n := nn, s := s', h := h } (setZ (setZ Z 25 B1) 27 B2) (.st [.sl 51 0 d ((setZ (setZ Z 25 B1) 27 B2) 22).cap, .sl 57 0 d ((setZ (setZ Z 25 B1) 27 B2) 23).cap]) (.st (bq vn.v vq.v 60 ((setZ (setZ Z 25 B1) 27 B2) 27).cap)) 30 recs 1 2 3 4 39 40 41 42 43 44 45 52 53 54 55 50 56 51 57 58 59 60 38) 61) 193) (Rel.lay [] (by cases sd <;> kernel_rfl) (by repeat constructor) (by cases sd <;> repeat constructor)) rfl ?_
    have hD7 : Dec.Ok { D6 with b := b, n := nn, s := s', h := h } := ⟨hr, hD6.gain⟩
    generalize ({ D6 with b := b, n := nn, s := s', h := h } : Dec) = D7 at hD7
    refine WpN.seq (WpN.vc ?_)
    conv=>whnf
    refine CallQ.useF [0, 1, 2, 3, 4, 5, 6, 7, 8, 39, 40, 41, 42, 43, 44, 45, 52, 53, 54, 55, 50, 56, 51, 57, 24, 58, 59, 60, 38, 29, 30, 31, 32, 33, 34, 35, 36, 37] (f120 sd 2 (vq.v, vq.v) D7 (setZ (setZ Z 25 B1) 27 B2) sb rl hD7 (by omega) (by omega)) rfl (by cases sd <;> kernel_rfl) (stEq_lay (by cases sd <;> repeat constructor) 38 0) ?_
    rintro v l' ⟨D8, C1, C2, hD8, rfl, ⟨hc1, hc2, hi1, hi2⟩, rfl⟩
    conv=>whnf
    refine WpN.weaken (s := mkSt (eA va ns bw first skip vn.v 9 off (.sl 39 0 vn.v (Z 9).cap) I1 d (.sl 41 0 d (Z 11).cap) (.sl 42 0 d (Z 12).cap) (.sl 45 0 d (Z 15).cap) w [(23, .c (.sl 24 0 2 2)), (24, .c (.i .u32 mx)), (25, .c (.sl 58 0 vn.v ((setZ Z 25 B1) 25).cap)), (26, .c (.sl 59 0 vn.v vq.v)), (27, .c (.i .i32 ltp)), (28, .c (.i .u32 seed)), (29, .c (.i .i64 sb)), (30, .c (.i .u32 rl)), (31, .c (.sl 61 0 sb ((setZ (setZ (setZ (setZ Z 25 B1) 27 B2) 1 C1) 2 C2) 1).cap)), (32, .c (.sl 62 0 sb ((setZ (setZ (setZ (setZ Z 25 B1) 27 B2) 1 C1) 2 C2) 2).cap))]) (lay (dlu sd [(1, 61), (2, 62), (9, 39), (10, 40), (11, 41), (12, 42), (13, 43), (14, 44), (15, 45), (16, 52), (17, 53), (18, 54), (19, 55), (20, 50), (21, 56), (22, 51), (23, 57), (25, 58), (26, 59), (27, 60), (28, 38)] 2 (vq.v, vq.v) D8 (setZ (setZ (setZ (setZ Z 25 B1) 27 B2) 1 C1) 2 C2) (.st [.sl 51 0 d ((setZ (setZ (setZ (setZ Z 25 B1) 27 B2) 1 C1) 2 C2) 22).cap, .sl 57 0 d ((setZ (setZ (setZ (setZ Z 25 B1) 27 B2) 1 C1) 2 C2) 23).cap]) (.st (bq vn.v vq.v 60 ((setZ (setZ (setZ (setZ Z 25 B1) 27 B2) 1 C1) 2 C2) 27).cap)) 30 recs 61 62 3 4 39 40 41 42 43 44 45 52 53 54 55 50 56 51 57 58 59 60 38) 63) 193) (Rel.lay [] (by cases sd <;> kernel_rfl) (by repeat constructor) (by cases sd <;> repeat constructor)) rfl ?_
    have hk1 := C1.ok
    have hk2 := C2.ok
    refine WpN.seq (WpN.vc ?_)
    conv=>whnf
    refine CallQ.useF [0, 61, 62, 3, 4, 5, 6, 7, 8, 39, 40, 41, 42, 43, 44, 45, 52, 53, 54, 55, 50, 56, 51, 57, 24, 58, 59, 60, 38, 29, 30, 31, 32, 33, 34, 35, 36, 37] (f121 sd 2 (vq.v, vq.v) D8 (setZ (setZ (setZ (setZ Z 25 B1) 27 B2) 1 C1) 2 C2) 9 off seed sb C1.cap C2.cap C1.xs C2.xs ⟨.inr (.inr rfl), hko⟩ hD8 (by omega) hi1 hi2) rfl (by cases sd <;> kernel_rfl) (stEq_lay (by cases sd <;> repeat constructor) 38 0) ?_
    rintro v l' ⟨D9, C3, C4, hD9, rfl, hc4, rfl⟩
    conv=>whnf
    refine WpN.weaken (s := mkSt (eA va ns bw first skip vn.v 9 off (.sl 39 0 vn.v (Z 9).cap) I1 d (.sl 41 0 d (Z 11).cap) (.sl 42 0 d (Z 12).cap) (.sl 45 0 d (Z 15).cap) w [(23, .c (.sl 24 0 2 2)), (24, .c (.i .u32 mx)), (25, .c (.sl 58 0 vn.v ((setZ Z 25 B1) 25).cap)), (26, .c (.sl 59 0 vn.v vq.v)), (27, .c (.i .i32 ltp)), (28, .c (.i .u32 seed)), (29, .c (.i .i64 sb)), (30, .c (.i .u32 rl)), (31, .c (.sl 61 0 sb ((setZ (setZ (setZ (setZ Z 25 B1) 27 B2) 1 C1) 2 C2) 1).cap)), (32, .c (.sl 62 0 sb ((setZ (setZ (setZ (setZ Z 25 B1) 27 B2) 1 C1) 2 C2) 2).cap)), (33, .c (.sl 64 0 (16 * sb) ((setZ (setZ (setZ (setZ (setZ (setZ Z 25 B1) 27 B2) 1 C1) 2 C2) 3 C3) 4 C4) 4).cap))]) (lay (dlu sd [(1, 61), (2, 62), (3, 63), (4, 64), (9, 39), (10, 40), (11, 41), (12, 42), (13, 43), (14, 44), (15, 45), (16, 52), (17, 53), (18, 54), (19, 55), (20, 50), (21, 56), (22, 51), (23, 57), (25, 58), (26, 59), (27, 60), (28, 38)] 2 (vq.v, vq.v) D9 (setZ (setZ (setZ (setZ (setZ (setZ Z 25 B1) 27 B2) 1 C1) 2 C2) 3 C3) 4 C4) (.st [.sl 51 0 d ((setZ (setZ (setZ (setZ (setZ (setZ Z 25 B1) 27 B2) 1 C1) 2 C2) 3 C3) 4 C4) 22).cap, .sl 57 0 d ((setZ (setZ (setZ (setZ (setZ (setZ Z 25 B1) 27 B2) 1 C1) 2 C2) 3 C3) 4 C4) 23).cap]) (.st (bq vn.v vq.v 60 ((setZ (setZ (setZ (setZ (setZ (setZ Z 25 B1) 27 B2) 1 C1) 2 C2) 3 C3) 4 C4) 27).cap)) 30 recs 61 62 63 64 39 40 41 42 43 44 45 52 53 54 55 50 56 51 57 58 59 60 38) 65) 193) (Rel.lay [] (by cases sd <;> kernel_rfl) (by repeat constructor) (by cases sd <;> repeat constructor)) rfl ?_
    exact rec94v_1 sd vq.v D9 (setZ (setZ (setZ (setZ (setZ (setZ Z 25 B1) 27 B2) 1 C1) 2 C2) 3 C3) 4 C4) recs va first skip ns bw w I1 vn.v d sb rl off hko mx ltp seed Z0 hF hD9 h3 (by omega) hd h9 hG h11 h12 hL h22 h15 h23 (by first | omega | (dsimp only [Lit.v, mkR]; omega)) hB1 hLg hB2 hc1 hc2 hc4
end Go.SX
