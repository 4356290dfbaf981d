/- A part of the proof: the SILK decoder of the given program, walked by an executor that is proved sound. No statement of the program is proved in this text. -/
import Derived.Test.YtojdfjohmicopaaGreatDoorL20
import Derived.Test.YtojdfjohmicopaaGreatDoorL21
import Derived.Test.YtojdfjohmicopaaGreatDoorL22
import Derived.Test.YtojdfjohmicopaaGreatDoorL24
import Derived.Test.YtojdfjohmicopaaGreatDoorL27
set_option linter.all false
set_option maxRecDepth 100000
namespace Go.SX
open Go
def Gn (n : Nat) (xs : List Int) : Prop := ∀ y ∈ xs.take n, 81920 ≤ y ∧ y ≤ 1686110208
def Fl (Z Z0 : Nat → Buf) : Prop := Z 5 = Z0 5 ∧ Z 6 = Z0 6 ∧ Z 7 = Z0 7 ∧ Z 8 = Z0 8
def sndC : Code → Code
  | .seq _ y => y
  | c => c
noncomputable def b94 : Code := match Proofs.Tryz.f94.body with | some c => c | none => .skip
noncomputable def tl94 : Nat → Code
  | 0 => b94
  | k + 1 => sndC (tl94 k)
theorem pre94 {Q : Exit → (Nat → Option V) → (Nat → Option B) → Nat → Prop} (sd : Bool) (a c : Nat) (D : Dec) (Z : Nat → Buf) (l0 k0 l1 k1 : Nat) (s : Nat → Nat × Nat × Nat) (recs : List (List C)) (va first skip : Bool) (ns bw : Int) (n d : Nat) (hD : D.Ok) (Z0 : Nat → Buf) (hF : Fl Z Z0) (h28 : Nn (Z 28).cap (Z 28).xs)
    (hb : bw = 1 ∨ bw = 2 ∨ bw = 3) (hn : (ns = 10000000 ∧ n = 2) ∨ (ns = 20000000 ∧ n = 4)) (hd : (bw = 3 ∧ d = 16) ∨ ((bw = 1 ∨ bw = 2) ∧ d = 10))
    (T0 : ∀ (D : Dec) (Z : Nat → Buf) (kind off w : Int) (I1 : Nat), (kind = 7 ∨ kind = 8 ∨ kind = 9) ∧ (off = 10 ∨ off = 11) → D.Ok → Fl Z Z0 → Nn (Z 28).cap (Z 28).xs → n ≤ (Z 9).cap → Gn n (Z 9).xs → d ≤ (Z 11).cap → d ≤ (Z 12).cap → LsfOk d (Z 12).xs → WpN 38 193 (tl94 10) (mkE (eA va ns bw first skip n kind off (.sl 39 0 n (Z 9).cap) I1 d (.sl 41 0 d (Z 11).cap) (.sl 42 0 d (Z 12).cap) .nsl w [])) (mkS (lay (dlu sd [(9, 39), (10, 40), (11, 41), (12, 42), (13, 43), (14, 44), (28, 38)] a (c, c) D Z (.st [.any, .any]) (.un c) 30 recs 1 2 3 4 39 40 41 42 43 44 15 16 17 18 19 20 21 22 23 25 26 27 38) 45)) 45 Q)
    (T1 : ∀ (D : Dec) (Z : Nat → Buf) (kind off w : Int) (I1 : Nat), (kind = 7 ∨ kind = 8 ∨ kind = 9) ∧ (off = 10 ∨ off = 11) → D.Ok → Fl Z Z0 → Nn (Z 28).cap (Z 28).xs → n ≤ (Z 9).cap → Gn n (Z 9).xs → d ≤ (Z 11).cap → d ≤ (Z 12).cap → LsfOk d (Z 12).xs → d ≤ (Z 15).cap → Nn d (Z 15).xs → WpN 38 193 (tl94 10) (mkE (eA va ns bw first skip n kind off (.sl 39 0 n (Z 9).cap) I1 d (.sl 41 0 d (Z 11).cap) (.sl 42 0 d (Z 12).cap) (.sl 45 0 d (Z 15).cap) w [])) (mkS (lay (dlu sd [(9, 39), (10, 40), (11, 41), (12, 42), (13, 43), (14, 44), (15, 45), (28, 38)] a (c, c) D Z (.st [.any, .any]) (.un c) 30 recs 1 2 3 4 39 40 41 42 43 44 45 16 17 18 19 20 21 22 23 25 26 27 38) 46)) 46 Q) :
    WpN 38 193 b94 (envL [.c (.p 0 0), .c (.b va), .c (.i .i64 ns), .c (.i .u8 bw), .c (.b first), .c (.b skip)]) (mkS (lay (dlu sd [] a (c, c) D Z (.st [.any, .any]) (.un c) 30 recs 1 2 3 4 9 10 11 12 13 14 15 16 17 18 19 20 21 22 23 25 26 27 28) 38)) 38 Q := by
  refine WpN.seq (WpN.vc ?_)
  conv=>whnf
  refine WpN.cut (ι := Dec × (Nat → Buf)) (fun x => [(0, .c (.p 0 0)), (1, .c (.b va)), (2, .c (.i .i64 ns)), (3, .c (.i .u8 bw)), (4, .c (.b first)), (5, .c (.b skip))]) (fun x => lay (dlu sd [(28, 38)] a (c, c) x.1 x.2 (.st [.any, .any]) (.un c) 30 recs 1 2 3 4 9 10 11 12 13 14 15 16 17 18 19 20 21 22 23 25 26 27 38) 39) (fun x => x.1.Ok ∧ Fl x.2 Z0 ∧ Nn (x.2 28).cap (x.2 28).xs) (WpN.vc ?_) ?_
  · conv=>whnf
    refine CallQ.useF [0, 1, 2, 3, 4, 5, 6, 7, 8, 9, 10, 11, 12, 13, 14, 15, 16, 17, 18, 19, 20, 21, 22, 23, 24, 25, 26, 27, 28, 29, 30, 31, 32, 33, 34, 35, 36, 37] (f105 sd a (c, c) D Z bw hD h28) rfl (by cases sd <;> kernel_rfl) (stEq_lay (by cases sd <;> repeat constructor) 38 0) ?_
    rintro v l' ⟨D1, B1, hD1, hB1, rfl, rfl⟩
    conv=>whnf
    exact ⟨(D1, (setZ Z 28 B1)), ⟨hD1, hF, hB1⟩, Rel.lay [] (by cases sd <;> kernel_rfl) (by repeat constructor) (by cases sd <;> repeat constructor)⟩
  clear hD hF h28 D Z
  rintro ⟨D, Z⟩ ⟨hD, hF, h28⟩
  dsimp only at hD hF h28 ⊢
  refine WpN.seq (WpN.vc ?_)
  conv=>whnf
  refine CallQ.use [] (f66 ns n (by omega)) rfl rfl trivial ?_
  rintro v l' ⟨rfl, rfl⟩
  conv=>whnf
  refine WpN.seq (WpN.vc ?_)
  conv=>whnf
  refine CallQ.use0 (f106 _ _ _ _ _ _ _ va hD.rc) (by first | rfl | (cases sd <;> rfl)) ?_
  rintro v b' ⟨kind, off, b, nn, s', h, rfl, hko, hr, rfl⟩
  conv=>whnf
  have hD1 : Dec.Ok { D with b := b, n := nn, s := s', h := h } := ⟨hr, hD.gain⟩
  refine WpN.weaken (s := mkSt [(0, .c (.p 0 0)), (1, .c (.b va)), (2, .c (.i .i64 ns)), (3, .c (.i .u8 bw)), (4, .c (.b first)), (5, .c (.b skip)), (13, .c (.i .i64 n)), (14, .c (.i .u8 kind)), (15, .c (.i .u8 off))] (lay (dlu sd [(28, 38)] a (c, c) { D with b := b, n := nn, s := s', h := h } Z (.st [.any, .any]) (.un c) 30 recs 1 2 3 4 9 10 11 12 13 14 15 16 17 18 19 20 21 22 23 25 26 27 38) 39) 193) (Rel.lay [] (by cases sd <;> kernel_rfl) (by repeat constructor) (by cases sd <;> repeat constructor)) rfl ?_
  clear hD
  generalize ({ D with b := b, n := nn, s := s', h := h } : Dec) = D at hD1
  have hD := hD1
  clear hD1
  refine WpN.cut (ι := Dec × (Nat → Buf)) (fun x => [(0, .c (.p 0 0)), (1, .c (.b va)), (2, .c (.i .i64 ns)), (3, .c (.i .u8 bw)), (4, .c (.b first)), (5, .c (.b skip)), (13, .c (.i .i64 n)), (14, .c (.i .u8 kind)), (15, .c (.i .u8 off)), (16, .c (.sl 39 0 n (x.2 9).cap))]) (fun x => lay (dlu sd [(9, 39), (28, 38)] a (c, c) x.1 x.2 (.st [.any, .any]) (.un c) 30 recs 1 2 3 4 39 10 11 12 13 14 15 16 17 18 19 20 21 22 23 25 26 27 38) 40) (fun x => x.1.Ok ∧ Fl x.2 Z0 ∧ Nn (x.2 28).cap (x.2 28).xs ∧ n ≤ (x.2 9).cap ∧ Gn n (x.2 9).xs) (WpN.vc ?_) ?_
  · conv=>whnf
    refine CallQ.useF [0, 1, 2, 3, 4, 5, 6, 7, 8, 9, 10, 11, 12, 13, 14, 15, 16, 17, 18, 19, 20, 21, 22, 23, 24, 25, 26, 27, 38, 29, 30, 31, 32, 33, 34, 35, 36, 37] (f107 sd a (c, c) D Z kind n first hD hko.1 (by omega)) rfl (by cases sd <;> kernel_rfl) (stEq_lay (by cases sd <;> repeat constructor) 38 0) ?_
    rintro v l' ⟨D1, B1, rfl, rfl, hD1, hB1, hG1⟩
    conv=>whnf
    rw [Int.toNat_natCast] at hB1 hG1
    exact ⟨(D1, (setZ Z 9 B1)), ⟨hD1, hF, h28, hB1, hG1⟩, Rel.lay [] (by cases sd <;> kernel_rfl) (by repeat constructor) (by cases sd <;> repeat constructor)⟩
  clear hD hF h28 D Z
  rintro ⟨D, Z⟩ ⟨hD, hF, h28, h9, hG⟩
  dsimp only at hD hF h28 h9 hG ⊢
  refine WpN.seq (WpN.vc ?_)
  conv=>whnf
  refine CallQ.use0 (f108 _ _ _ _ _ _ _ (kind == 9) bw hD.rc hb) (by first | rfl | (cases sd <;> rfl)) ?_
  rintro v b' ⟨I1, b, nn, s', h, rfl, hI, hr, rfl⟩
  conv=>whnf
  have hD1 : Dec.Ok { D with b := b, n := nn, s := s', h := h } := ⟨hr, hD.gain⟩
  refine WpN.weaken (s := mkSt [(0, .c (.p 0 0)), (1, .c (.b va)), (2, .c (.i .i64 ns)), (3, .c (.i .u8 bw)), (4, .c (.b first)), (5, .c (.b skip)), (13, .c (.i .i64 n)), (14, .c (.i .u8 kind)), (15, .c (.i .u8 off)), (16, .c (.sl 39 0 n (Z 9).cap)), (17, .c (.i .u32 I1))] (lay (dlu sd [(9, 39), (28, 38)] a (c, c) { D with b := b, n := nn, s := s', h := h } Z (.st [.any, .any]) (.un c) 30 recs 1 2 3 4 39 10 11 12 13 14 15 16 17 18 19 20 21 22 23 25 26 27 38) 40) 193) (Rel.lay [] (by cases sd <;> kernel_rfl) (by repeat constructor) (by cases sd <;> repeat constructor)) rfl ?_
  clear hD
  generalize ({ D with b := b, n := nn, s := s', h := h } : Dec) = D at hD1
  have hD := hD1
  clear hD1
  refine WpN.cut (ι := Dec × (Nat → Buf)) (fun x => [(0, .c (.p 0 0)), (1, .c (.b va)), (2, .c (.i .i64 ns)), (3, .c (.i .u8 bw)), (4, .c (.b first)), (5, .c (.b skip)), (13, .c (.i .i64 n)), (14, .c (.i .u8 kind)), (15, .c (.i .u8 off)), (16, .c (.sl 39 0 n (x.2 9).cap)), (17, .c (.i .u32 I1)), (18, .c (.i .i64 d)), (19, .c (.sl 41 0 d (x.2 11).cap))]) (fun x => lay (dlu sd [(9, 39), (10, 40), (11, 41), (28, 38)] a (c, c) x.1 x.2 (.st [.any, .any]) (.un c) 30 recs 1 2 3 4 39 40 41 12 13 14 15 16 17 18 19 20 21 22 23 25 26 27 38) 42) (fun x => x.1.Ok ∧ Fl x.2 Z0 ∧ Nn (x.2 28).cap (x.2 28).xs ∧ n ≤ (x.2 9).cap ∧ Gn n (x.2 9).xs ∧ d ≤ (x.2 11).cap) (WpN.vc ?_) ?_
  · conv=>whnf
    refine CallQ.useF [0, 1, 2, 3, 4, 5, 6, 7, 8, 39, 10, 11, 12, 13, 14, 15, 16, 17, 18, 19, 20, 21, 22, 23, 24, 25, 26, 27, 38, 29, 30, 31, 32, 33, 34, 35, 36, 37] (f109 sd a (c, c) D Z bw I1 d hD hd hI) rfl (by cases sd <;> kernel_rfl) (stEq_lay (by cases sd <;> repeat constructor) 38 0) ?_
    rintro v l' ⟨D1, B1, B2, rfl, rfl, hD1, hB2⟩
    conv=>whnf
    exact ⟨(D1, (setZ (setZ Z 10 B1) 11 B2)), ⟨hD1, hF, h28, h9, hG, hB2⟩, Rel.lay [] (by cases sd <;> kernel_rfl) (by repeat constructor) (by cases sd <;> repeat constructor)⟩
  clear hD hF h28 h9 hG D Z
  rintro ⟨D, Z⟩ ⟨hD, hF, h28, h9, hG, h11⟩
  dsimp only at hD hF h28 h9 hG h11 ⊢
  refine WpN.cut (ι := Dec × (Nat → Buf)) (fun x => [(0, .c (.p 0 0)), (1, .c (.b va)), (2, .c (.i .i64 ns)), (3, .c (.i .u8 bw)), (4, .c (.b first)), (5, .c (.b skip)), (13, .c (.i .i64 n)), (14, .c (.i .u8 kind)), (15, .c (.i .u8 off)), (16, .c (.sl 39 0 n (x.2 9).cap)), (17, .c (.i .u32 I1)), (18, .c (.i .i64 d)), (19, .c (.sl 41 0 d (x.2 11).cap)), (20, .c (.sl 42 0 d (x.2 12).cap))]) (fun x => lay (dlu sd [(9, 39), (10, 40), (11, 41), (12, 42), (13, 43), (14, 44), (28, 38)] a (c, c) x.1 x.2 (.st [.any, .any]) (.un c) 30 recs 1 2 3 4 39 40 41 42 43 44 15 16 17 18 19 20 21 22 23 25 26 27 38) 45) (fun x => x.1.Ok ∧ Fl x.2 Z0 ∧ Nn (x.2 28).cap (x.2 28).xs ∧ n ≤ (x.2 9).cap ∧ Gn n (x.2 9).xs ∧ d ≤ (x.2 11).cap ∧ d ≤ (x.2 12).cap ∧ Rg d (x.2 12).xs) (WpN.vc ?_) ?_
  · conv=>whnf
    refine CallQ.useF [0, 1, 2, 3, 4, 5, 6, 7, 8, 39, 40, 41, 12, 13, 14, 15, 16, 17, 18, 19, 20, 21, 22, 23, 24, 25, 26, 27, 38, 29, 30, 31, 32, 33, 34, 35, 36, 37] (f110 sd a (c, c) D Z bw I1 d hd hI h11) rfl (by cases sd <;> kernel_rfl) (stEq_lay (by cases sd <;> repeat constructor) 38 0) ?_
    rintro v l' ⟨B1, B2, B3, rfl, rfl, hB1, hR1⟩
    conv=>whnf
    exact ⟨(D, (setZ (setZ (setZ Z 12 B1) 13 B2) 14 B3)), ⟨hD, hF, h28, h9, hG, h11, hB1, hR1⟩, Rel.lay [] (by cases sd <;> kernel_rfl) (by repeat constructor) (by cases sd <;> repeat constructor)⟩
  clear hD hF h28 h9 hG h11 D Z
  rintro ⟨D, Z⟩ ⟨hD, hF, h28, h9, hG, h11, h12, hR⟩
  dsimp only at hD hF h28 h9 hG h11 h12 hR ⊢
  have hz12 := (Z 12).ok
  refine WpN.cut (ι := Dec × (Nat → Buf)) (fun x => [(0, .c (.p 0 0)), (1, .c (.b va)), (2, .c (.i .i64 ns)), (3, .c (.i .u8 bw)), (4, .c (.b first)), (5, .c (.b skip)), (13, .c (.i .i64 n)), (14, .c (.i .u8 kind)), (15, .c (.i .u8 off)), (16, .c (.sl 39 0 n (x.2 9).cap)), (17, .c (.i .u32 I1)), (18, .c (.i .i64 d)), (19, .c (.sl 41 0 d (x.2 11).cap)), (20, .c (.sl 42 0 d (x.2 12).cap))]) (fun x => lay (dlu sd [(9, 39), (10, 40), (11, 41), (12, 42), (13, 43), (14, 44), (28, 38)] a (c, c) x.1 x.2 (.st [.any, .any]) (.un c) 30 recs 1 2 3 4 39 40 41 42 43 44 15 16 17 18 19 20 21 22 23 25 26 27 38) 45) (fun x => x.1.Ok ∧ Fl x.2 Z0 ∧ Nn (x.2 28).cap (x.2 28).xs ∧ n ≤ (x.2 9).cap ∧ Gn n (x.2 9).xs ∧ d ≤ (x.2 11).cap ∧ d ≤ (x.2 12).cap ∧ LsfOk d (x.2 12).xs) (WpN.vc ?_) ?_
  · conv=>whnf
    refine CallQ.useF [0, 42] (f111 d (Z 12).cap (Z 12).xs bw hd (by omega) hR) rfl rfl ⟨rfl, trivial⟩ ?_
    rintro v l' ⟨ys, rfl, rfl, hyl, hL⟩
    conv=>whnf
    exact ⟨(D, setZ Z 12 ⟨(Z 12).cap, ys, (Z 12).ys, by omega, (Z 12).okb⟩), ⟨hD, hF, h28, h9, hG, h11, h12, hL⟩, Rel.lay [] (by cases sd <;> kernel_rfl) (by repeat constructor) (by cases sd <;> repeat constructor)⟩
  clear hz12 hD hF h28 h9 hG h11 h12 hR D Z
  rintro ⟨D, Z⟩ ⟨hD, hF, h28, h9, hG, h11, h12, hR⟩
  dsimp only at hD hF h28 h9 hG h11 h12 hR ⊢
  have hz12 := (Z 12).ok
  have hN : Nn d (Z 12).xs := fun i hi => by have := hR.1 i hi; omega
  refine WpN.seq (WpN.vc ?_)
  conv=>whnf
  refine CallQ.useF [0, 1, 2, 3, 4, 5, 6, 7, 8, 39, 40, 41, 42, 43, 44, 15, 16, 17, 18, 19, 20, 21, 22, 23, 24, 25, 26, 27, 38, 29, 30, 31, 32, 33, 34, 35, 36, 37] (f112 sd a (c, c) D Z d (Z 12).cap (Z 12).xs ns hD (by omega) hN h28) rfl (by cases sd <;> kernel_rfl) (stEq_lay (by cases sd <;> repeat constructor) 38 0) ?_
  rintro v l' ⟨D1, w, hD1, ⟨rfl, rfl⟩ | ⟨B1, rfl, rfl, h15, hN15⟩⟩
  · conv=>whnf
    refine WpN.weaken (s := mkSt (eA va ns bw first skip n kind off (.sl 39 0 n (Z 9).cap) I1 d (.sl 41 0 d (Z 11).cap) (.sl 42 0 d (Z 12).cap) .nsl w []) (lay (dlu sd [(9, 39), (10, 40), (11, 41), (12, 42), (13, 43), (14, 44), (28, 38)] a (c, c) D1 Z (.st [.any, .any]) (.un c) 30 recs 1 2 3 4 39 40 41 42 43 44 15 16 17 18 19 20 21 22 23 25 26 27 38) 45) 193) (Rel.lay [] (by cases sd <;> kernel_rfl) (by repeat constructor) (by cases sd <;> repeat constructor)) rfl ?_
    exact T0 D1 Z kind off w I1 hko hD1 hF h28 h9 hG h11 h12 hR
  · conv=>whnf
    refine WpN.weaken (s := mkSt (eA va ns bw first skip n kind off (.sl 39 0 n (Z 9).cap) I1 d (.sl 41 0 d (Z 11).cap) (.sl 42 0 d (Z 12).cap) (.sl 45 0 d (setZ Z 15 B1 15).cap) w []) (lay (dlu sd [(9, 39), (10, 40), (11, 41), (12, 42), (13, 43), (14, 44), (15, 45), (28, 38)] a (c, c) D1 (setZ Z 15 B1) (.st [.any, .any]) (.un c) 30 recs 1 2 3 4 39 40 41 42 43 44 45 16 17 18 19 20 21 22 23 25 26 27 38) 46) 193) (Rel.lay [] (by cases sd <;> kernel_rfl) (by repeat constructor) (by cases sd <;> repeat constructor)) rfl ?_
    exact T1 D1 (setZ Z 15 B1) kind off w I1 hko hD1 hF h28 h9 hG h11 h12 hR h15 hN15
@[reducible] def zif {α : Type} (m : Nat) (x y : α) : α := match m with
  | 0 => x
  | _ => y
def recC (red sid wei mo : Bool) (w0 w1 kind off : Int) (gains : List Int) (i1 : Int) (res nlsf n1 : List Int) (w : Int) (filters : List (List Int)) (mx : Int) (lags : List Int) (taps : C) (ltp seed rl : Int) (ps ls es : List Int) : List C :=
  [.b red, .b sid, .b wei, .b mo, .i .i32 w0, .i .i32 w1, .i .u8 kind, .i .u8 off, .is .i32 gains, .i .u32 i1, .is .i16 res, .is .i16 nlsf, .is .i16 n1, .i .i16 w, .iss .i16 filters, .i .u32 mx, .is .i64 lags, taps, .i .i32 ltp, .i .u32 seed, .i .u32 rl, .is .u8 ps, .is .u8 ls, .is .i32 es]
abbrev Ms (cs : List C) (n : Nat) (R : List C) (st : Nat → Option B) : Prop := st 0 = some (.st cs) ∧ st 29 = some (.st [.osl 30 n]) ∧ st 38 = some (.st R)
structure R122 where
  (kind off i1 w mx ltp seed rl : Int)
  (d sb c9 c11 c12 c15 c22 c23 l23 c25 c27 c1 c2 c4 : Nat)
  (ps ls es gs rs ns ms f0 f1 lg tp : List Int)
@[reducible] def b26 (k n cc cap : Nat) : List (Nat × B) := zif k [] [(26, .st (bq n cc 27 cap))]
@[reducible] def tq (n : Nat) (tp : List Int) : List (List Int) := [(tp.drop 0).take 5, (tp.drop 5).take 5, (tp.drop 10).take 5, (tp.drop 15).take 5].take n
@[reducible] def rec122 {m k n cc : Nat} (_ : Lit m) (_ : Lit k) (_ : Lit n) (_ : Lit cc) (R : R122) (red sid wei mo : Bool) (w0 w1 : Int) : List C :=
  [.b red, .b sid, .b wei, .b mo, .i .i32 w0, .i .i32 w1, .i .u8 R.kind, .i .u8 R.off, .sl 9 0 n R.c9, .i .u32 R.i1, .sl 11 0 R.d R.c11, .sl 12 0 R.d R.c12, zif m .nsl (.sl 15 0 R.d R.c15), .i .i16 R.w, .sl 24 0 (zif m 1 2) 2, .i .u32 R.mx, zif k .nsl (.sl 25 0 n R.c25), zif k .nsl (.sl 26 0 n cc), .i .i32 R.ltp, .i .u32 R.seed, .i .u32 R.rl, .sl 1 0 R.sb R.c1, .sl 2 0 R.sb R.c2, .sl 4 0 (16 * R.sb) R.c4]
@[reducible] def L122 {m k n cc : Nat} (_ : Lit m) (_ : Lit k) (_ : Lit n) (_ : Lit cc) (R : R122) (t : List (Nat × B)) : List (Nat × B) :=
  (1, .ar false .u8 R.ps) :: (2, .ar false .u8 R.ls) :: (4, .ar false .i32 R.es) :: (9, .ar false .i32 R.gs) :: (11, .ar false .i16 R.rs) :: (12, .ar false .i16 R.ns) :: (15, .ar false .i16 R.ms) :: (22, .ar false .i16 R.f0) :: (23, .ar false .i16 R.f1) :: (24, .st [.sl 22 0 R.d R.c22, zif m .any (.sl 23 0 R.d R.c23)]) :: (25, .ar false .i64 R.lg) :: (27, .ar false .i8 R.tp) :: (t ++ b26 k n cc R.c27)
@[reducible] def Dx (D : Dec) : Dec := { D with wei := false, mo := false, w0 := 0, w1 := 0 }
@[reducible] def REC {m k n : Nat} (_ : Lit m) (_ : Lit k) (_ : Lit n) (D : Dec) (R : R122) : List C :=
  recC D.red D.sid D.wei D.mo D.w0 D.w1 R.kind R.off (R.gs.take n) R.i1 (R.rs.take R.d) (R.ns.take R.d) (zif m [] (R.ms.take R.d)) R.w (zif m [R.f0.take R.d] [R.f0.take R.d, R.f1.take R.d]) R.mx (zif k [] (R.lg.take n)) (zif k .nsl (.iss .i8 (tq n R.tp))) R.ltp R.seed R.rl (R.ps.take R.sb) (R.ls.take R.sb) (R.es.take (16 * R.sb))
@[reducible] def S122 (sd : Bool) (a : Nat) (q : Nat × Nat) (D : Dec) (Z : Nat → Buf) (l : List (Nat × B)) (k : Nat) : List (Option B) := lay ((0, .st (cells sd [] a q D Z)) :: l) k
@[reducible] def post122 {m k n cc : Nat} (vm : Lit m) (vk : Lit k) (vn : Lit n) (vq : Lit cc) (sd : Bool) (a : Nat) (q : Nat × Nat) (D : Dec) (Z : Nat → Buf) (R : R122) (recs : List (List C)) : List (Option B) :=
  S122 sd a q (Dx D) Z (L122 vm vk vn vq R [(29, .st [.osl 38 (recs ++ [REC vm vk vn D R]).length]), (38, .rs true 24 (recs ++ [REC vm vk vn D R]))]) 39
@[reducible] def mid122 {m k n cc : Nat} (_ : Lit m) (_ : Lit k) (_ : Lit n) (_ : Lit cc) (D : Dec) (R : R122) (recs : List (List C)) : List (Nat × B) :=
  [(29, .st [.osl 30 recs.length]), (30, .rs true 24 recs), (38, .st [.b D.red, .b D.sid, .b D.wei, .b D.mo, .i .i32 D.w0, .i .i32 D.w1, .i .u8 R.kind, .i .u8 R.off, .osl 40 (R.gs.take n).length, .i .u32 R.i1, .osl 42 (R.rs.take R.d).length, .osl 44 (R.ns.take R.d).length, .osl (zif m 45 46) (zif m ([] : List Int) (R.ms.take R.d)).length, .i .i16 R.w, .osl (zif m 49 54) (zif m 1 2), .i .u32 R.mx, .osl (zif k (zif m 50 55) (zif m 51 56)) (zif k ([] : List Int) (R.lg.take n)).length, zif k .nsl (.sl 26 0 n cc), .i .i32 R.ltp, .i .u32 R.seed, .i .u32 R.rl, .sl 1 0 R.sb R.c1, .sl 2 0 R.sb R.c2, .sl 4 0 (16 * R.sb) R.c4]), (40, .ar true .i32 (R.gs.take n)), (42, .ar true .i16 (R.rs.take R.d)), (44, .ar true .i16 (R.ns.take R.d)), (zif m 45 46, .ar true .i16 (zif m ([] : List Int) (R.ms.take R.d))), (zif m 49 54, .ss true .i16 (zif m [R.f0.take R.d] [R.f0.take R.d, R.f1.take R.d])), (zif k (zif m 50 55) (zif m 51 56), .ar true .i64 (zif k ([] : List Int) (R.lg.take n)))]
@[reducible] def act122 {m k n : Nat} (_ : Lit m) (_ : Lit k) (_ : Lit n) : Nat := zif m 58 63 + zif k 0 (1 + 4 * n)
@[reducible] def kind122 (m k n cc : Nat) : Prop := (m = 0 ∨ m = 1) ∧ ((k = 0 ∧ cc = 0) ∨ (k = 1 ∧ ((n = 2 ∧ cc = 2) ∨ (n = 2 ∧ cc = 4) ∨ (n = 4 ∧ cc = 4))))
set_option maxHeartbeats 4000000 in
theorem f122 (sd : Bool) (a : Nat) (q : Nat × Nat) (D : Dec) (Z : Nat → Buf) (R : R122) (m k n cc : Nat) (vm : Lit m) (vk : Lit k) (vn : Lit n) (vq : Lit cc) (recs : List (List C)) (hk : kind122 m k n cc)
    (h1 : n ≤ R.gs.length ∧ R.d ≤ R.rs.length ∧ R.d ≤ R.ns.length ∧ (m = 1 → R.d ≤ R.ms.length) ∧ R.d ≤ R.f0.length ∧ (m = 1 → R.d ≤ R.f1.length) ∧ (k = 1 → n ≤ R.lg.length ∧ 5 * n ≤ R.tp.length) ∧ R.sb ≤ R.ps.length ∧ R.sb ≤ R.ls.length ∧ 16 * R.sb ≤ R.es.length) (h2 : n ≤ 4 ∧ R.d ≤ 16 ∧ R.sb ≤ 20) (h3 : recs.length < 1000000) :
    FnS 122 [.c (.p 0 0), .ag (rec122 vm vk vn vq R false false false false 0 0)] (S122 sd a q D Z (L122 vm vk vn vq R [(29, .st [.osl 30 recs.length]), (30, .rs true 24 recs)]) 38) fun v l' => v = .tu [] ∧ l' = post122 vm vk vn vq sd a q D Z R recs := by
  refine FnS.wpR (b := 38) Proofs.Tryz.f122 rfl rfl rfl rfl rfl rfl ?_
  obtain ⟨hm, hk⟩ := hk
  rcases hm with rfl | rfl <;> rcases hk with ⟨rfl, rfl⟩ | ⟨rfl, ⟨rfl, rfl⟩ | ⟨rfl, rfl⟩ | ⟨rfl, rfl⟩⟩
  all_goals
    obtain ⟨h4, h5, h6, h7, h8, h9, h10, h11, h12, h13⟩ := h1
    try replace h7 := h7 rfl
    try replace h9 := h9 rfl
    try replace h10 := h10 rfl
    refine WpN.seq (WpN.vc ?_)
    conv=>whnf
    refine WpN.seq (WpN.vc ?_)
    conv=>whnf
    repeat' first|(refine Lt (by decide) ?_;conv=>whnf)|(refine Lf (by decide) ?_;conv=>whnf)|fail
    refine WpN.seq (WpN.of ?_)
    refine WpS.draw [0, 0, 0, 1, 0, 0, 0, 1, 0, 0, 0, 1, 0, 0, 0, 1, 0, 0, 0, 1, 0, 0, 0, 1, 0, 2, 0, 2, 0, 2, 0, 2, 0, 2, 0, 2] (fun st2 => st2 0 = some (.st (cells sd [] a q D Z))) (by kernel_rfl) ?_
    conv=>whnf
    refine ⟨.c (.b D.red), ⟨rfl, fun st2 h2 => ⟨_, h2, .inl rfl⟩⟩, ?_⟩
    conv=>whnf
    refine ⟨.c (.b D.sid), ⟨rfl, fun st2 h2 => ⟨_, h2, .inl rfl⟩⟩, ?_⟩
    conv=>whnf
    refine ⟨.c (.b D.wei), ⟨rfl, fun st2 h2 => ⟨_, h2, .inl rfl⟩⟩, ?_⟩
    conv=>whnf
    refine ⟨.c (.b D.mo), ⟨rfl, fun st2 h2 => ⟨_, h2, .inl rfl⟩⟩, ?_⟩
    conv=>whnf
    refine ⟨.c (.i .i32 D.w0), ⟨rfl, fun st2 h2 => ⟨_, h2, .inl rfl⟩⟩, ?_⟩
    conv=>whnf
    refine ⟨.c (.i .i32 D.w1), ⟨rfl, fun st2 h2 => ⟨_, h2, .inl rfl⟩⟩, ?_⟩
    conv=>whnf
    iterate 12
      refine ⟨rfl, ?_⟩
      conv=>whnf
    refine ⟨rfl, ?_⟩
    refine WpN.weaken (s := mkSt [(0, .c (.p 0 0)), (3, .c (.p 38 0))] (S122 sd a q D Z (L122 vm vk vn vq R [(29, .st [.osl 30 recs.length]), (30, .rs true 24 recs), (38, .st (rec122 vm vk vn vq R D.red D.sid D.wei D.mo D.w0 D.w1))]) 39) 143) (Rel.layD (by repeat constructor) (by first | rfl | (cases sd <;> rfl)) (by repeat constructor) (by cases sd <;> kernel_rfl)) rfl ?_
    refine WpN.seq (WpN.vc ?_)
    conv=>whnf
    refine WpN.weaken (s := mkSt [(0, .c (.p 0 0)), (3, .c (.p 38 0))] (S122 sd a q (Dx D) Z (L122 vm vk vn vq R [(29, .st [.osl 30 recs.length]), (30, .rs true 24 recs), (38, .st (rec122 vm vk vn vq R D.red D.sid D.wei D.mo D.w0 D.w1))]) 39) 143) (Rel.layD (by repeat constructor) (by first | rfl | (cases sd <;> rfl)) (by repeat constructor) (by cases sd <;> kernel_rfl)) rfl ?_
    refine WpN.seq (WpN.vc ?_)
    conv=>whnf
    repeat (refine And.intro (by first|decide|omega|(simp [zif];omega)|(simp [zif];done)) ?_;conv=>whnf)
    refine WpN.seq (WpN.vc ?_)
    conv=>whnf
    repeat (refine And.intro (by first|decide|omega|(simp [zif];omega)|(simp [zif];done)) ?_;conv=>whnf)
    refine WpN.seq (WpN.vc ?_)
    conv=>whnf
    repeat (refine And.intro (by first|decide|omega|(simp [zif];omega)|(simp [zif];done)) ?_;conv=>whnf)
    refine WpN.seq (WpN.vc ?_)
    conv=>whnf
    repeat (refine And.intro (by first|decide|omega|(simp [zif];omega)|(simp [zif];done)) ?_;conv=>whnf)
    refine WpN.seq (WpN.vc ?_)
    conv=>whnf
    refine WpN.seq (WpN.vc ?_)
    conv=>whnf
    refine WpS.rounds (WpS.round (VC_ok ?_))
    conv=>whnf
    repeat ((repeat' first|(refine Lt (by decide) ?_;conv=>whnf)|(refine Lf (by decide) ?_;conv=>whnf)|fail); (repeat (refine And.intro (by first|decide|omega|(simp [zif];omega)|(simp [zif];done)) ?_;conv=>whnf)); refine WpS.round (VC_ok ?_); conv=>whnf)
    repeat' first|(refine Lt (by decide) ?_;conv=>whnf)|(refine Lf (by decide) ?_;conv=>whnf)|fail
    refine ⟨rfl, ?_⟩
    conv=>whnf
    refine WpN.seq (WpN.vc ?_)
    conv=>whnf
    repeat (refine And.intro (by first|decide|omega|(simp [zif];omega)|(simp [zif];done)) ?_;conv=>whnf)
    refine WpN.seq (WpN.vc ?_)
    conv=>whnf
    repeat (refine And.intro (by first|decide|omega|(simp [zif];omega)|(simp [zif];done)) ?_;conv=>whnf)
    refine WpN.weaken (s := mkSt [(0, .c (.p 0 0)), (3, .c (.p 38 0))] (S122 sd a q (Dx D) Z (L122 vm vk vn vq R (mid122 vm vk vn vq D R recs)) (zif vk.v (zif vm.v 51 56) (zif vm.v 52 57))) 143) (Rel.layD (by repeat constructor) (by first | rfl | (cases sd <;> rfl)) (by repeat constructor) (by cases sd <;> kernel_rfl)) rfl ?_
    refine WpN.seq (WpN.vc ?_)
    conv=>whnf
    refine WpN.seq (WpN.vc ?_)
    conv=>whnf
    refine WpS.rounds (WpS.round (VC_ok ?_))
    conv=>whnf
    repeat ((repeat' first|(refine Lt (by decide) ?_;conv=>whnf)|(refine Lf (by decide) ?_;conv=>whnf)|fail); (repeat (refine And.intro (by first|decide|omega|(simp [zif];omega)|(simp [zif];done)) ?_;conv=>whnf)); refine WpS.round (VC_ok ?_); conv=>whnf)
    repeat' first|(refine Lt (by decide) ?_;conv=>whnf)|(refine Lf (by decide) ?_;conv=>whnf)|fail
    refine ⟨rfl, ?_⟩
    conv=>whnf
    refine WpN.seq (WpN.vc ?_)
    conv=>whnf
    repeat (refine And.intro (by first|decide|omega|(simp [zif];omega)|(simp [zif];done)) ?_;conv=>whnf)
    refine WpN.seq (WpN.vc ?_)
    conv=>whnf
    repeat (refine And.intro (by first|decide|omega|(simp [zif];omega)|(simp [zif];done)) ?_;conv=>whnf)
    refine WpN.seq (WpN.vc ?_)
    conv=>whnf
    repeat (refine And.intro (by first|decide|omega|(simp [zif];omega)|(simp [zif];done)) ?_;conv=>whnf)
    refine WpN.seq (WpN.vc ?_)
    conv=>whnf
    repeat (refine And.intro (by first|decide|omega|(simp [zif];omega)|(simp [zif];done)) ?_;conv=>whnf)
    refine WpN.of ?_
    refine WpS.draw [0, 0, 0, 1, 0, 0, 0, 1, 0, 1, 1, 2, 2, 0, 3] (Ms (cells sd [] a q (Dx D) Z) recs.length ?_) (by kernel_rfl) ?_
    rotate_left
    conv=>whnf
    refine ⟨.c (.p 29 0), ⟨⟨rfl, rfl, ?_⟩, fun st2 h2 => ⟨_, h2.1, .inl rfl⟩⟩, ?_⟩
    · conv => lhs; whnf
    conv=>whnf
    refine ⟨.c (.p 29 0), ⟨⟨rfl, rfl, ?_⟩, fun st2 h2 => ⟨_, h2.1, .inl rfl⟩⟩, ?_⟩
    · conv => lhs; whnf
    conv=>whnf
    refine ⟨.c (.osl 30 recs.length), ⟨⟨rfl, rfl, ?_⟩, fun st2 h2 => ⟨_, h2.2.1, .inl rfl⟩⟩, ?_⟩
    · conv => lhs; whnf
    conv=>whnf
    refine ⟨.ag _, ⟨⟨rfl, rfl, ?_⟩, fun st2 h2 => ⟨_, h2.2.2, .inl rfl⟩⟩, ?_⟩
    · conv => lhs; whnf
    conv=>whnf
    iterate 3
      refine ⟨⟨rfl, rfl, ?_⟩, ?_⟩
      · conv => lhs; whnf
      conv=>whnf
    refine And.intro (by simp [zif]; omega) ?_
    conv=>whnf
    refine ⟨⟨rfl, rfl, ?_⟩, ?_⟩
    · conv => lhs; whnf
    conv=>whnf
    refine ⟨rfl, ?_⟩
    conv=>whnf
    exact ⟨[(38, act122 vm vk vn)], .tu [], post122 vm vk vn vq sd a q D Z R recs, rfl, by cases sd <;> kernel_rfl, stEq_lay (by cases sd <;> repeat constructor) 39 0, rfl, rfl⟩
end Go.SX
