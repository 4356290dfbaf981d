/- A part of the proof: the SILK decoder of the given program, walked by an executor that is proved sound. No statement of the program is proved in this text. -/
import Derived.Test.YtojdfjohmicopaaGreatDoorL14
import Derived.Test.YtojdfjohmicopaaGreatDoorL25
set_option linter.all false
set_option maxRecDepth 100000
namespace Go.SX
open Go
theorem shr8 {x : Int} (h : 0 ≤ x ∧ x ≤ 32767) : IntKind.i32.wrap (x.fdiv (2 ^ min (Int.toNat 8) IntKind.i16.bits)) = x / 256 ∧ 0 ≤ x / 256 ∧ x / 256 ≤ 127 := by
  have e1 : (2 : Int) ^ min (Int.toNat 8) IntKind.i16.bits = 256 := by decide
  rw [e1, Int.fdiv_eq_ediv_of_nonneg _ (by decide), IntWalk.i32_in _ (by omega)]
  exact ⟨rfl, by omega⟩
def ordT (d : Nat) : List Int := if d = 16 then T207 else T206
theorem ordT_ok {d : Nat} (hd : d = 10 ∨ d = 16) {k : Nat} (hk : k < d) : 0 ≤ (ordT d).getD k 0 ∧ (ordT d).getD k 0 < d := by
  rcases hd with rfl | rfl <;> revert k <;> decide +kernel
theorem ordT_len {d : Nat} (hd : d = 10 ∨ d = 16) : (ordT d).length = d := by
  rcases hd with rfl | rfl <;> decide +kernel
theorem f170 (sd : Bool) (a : Nat) (q : Nat × Nat) (D : Dec) (Z : Nat → Buf) (nm d cap : Nat) (xs : List Int) (bw : Int) (hnm : nm = 12 ∨ nm = 15) (hd : (d = 10 ∧ bw ≠ 3) ∨ (d = 16 ∧ bw = 3)) (hdx : d ≤ xs.length) (hx : Nn d xs) :
    FnS 170 [.c (.p 0 0), .c (.sl nm 0 d cap), .c (.i .u8 bw)] (lay [(0, .st (cells sd [] a q D Z)), (nm, .ar false .i16 xs), (16, .ar false .i32 (Z 16).xs), (17, .ar false .i32 (Z 17).xs), (18, .ar false .i32 (Z 18).xs), (19, .ar false .i32 (Z 19).xs)] 38) fun v l' =>
      ∃ B1 B2 B3 B4 : Buf, v = .c (.sl 41 0 d B4.cap) ∧ d ≤ B4.cap ∧ l' = lay [(0, .st (cells sd [(16, 38), (17, 39), (18, 40), (19, 41)] a q D (setZ (setZ (setZ (setZ Z 16 B1) 17 B2) 18 B3) 19 B4))), (nm, .ar false .i16 xs), (38, .ar false .i32 B1.xs), (39, .ar false .i32 B2.xs), (40, .ar false .i32 B3.xs), (41, .ar false .i32 B4.xs)] 42 := by
  have hd16 : (d = 10 ∨ d = 16) := by omega
  have hT : ordT d = if bw = 3 then T207 else T206 := by
    rcases hd with ⟨rfl, h⟩ | ⟨rfl, h⟩
    · rw [if_neg h]; rfl
    · rw [if_pos h]; rfl
  have hol := ordT_len hd16
  have hok : ∀ k, k < d → 0 ≤ (ordT d).getD k 0 ∧ (ordT d).getD k 0 < d := fun k hk => ordT_ok hd16 hk
  refine FnS.wpR (b := 38) Proofs.Tryz.f170 rfl rfl rfl rfl rfl rfl ?_
  rcases hnm with rfl | rfl
  · refine WpN.seq (WpN.vc ?_)
    conv=>whnf
    refine WpN.seq (WpN.vc ?_)
    conv=>whnf
    refine rz136 (m := 37) (j := 16) (n := (d : Int)) _ rfl rfl (fun c => rfl) (by decide) rfl (Z 16).ok (by decide) (by omega) fun B1 hB1 _ => ?_
    rw [Int.toNat_natCast] at hB1 ⊢
    have hb1 := B1.ok
    conv=>whnf
    refine WpN.seq (WpN.vc ?_)
    conv=>whnf
    refine CallQ.use [] t205 rfl rfl trivial ?_
    rintro v l' ⟨rfl, rfl⟩
    conv=>whnf
    refine WpN.seq (WpN.vc ?_)
    conv=>whnf
    refine CallQ.use [] t206 rfl rfl trivial ?_
    rintro v l' ⟨rfl, rfl⟩
    conv=>whnf
    refine WpN.cut (ι := Unit) (fun _=>[(0, .c (.p 0 0)), (1, .c (.sl 12 0 d cap)), (7, .c (.sl 38 0 d B1.cap)), (8, .c (.is .i32 T205)), (9, .c (.is .u8 (ordT d)))]) (fun _=>lay [(0, .st (cells sd [(16, 38)] a q D (setZ Z 16 B1))), (12, .ar false .i16 xs), (17, .ar false .i32 (Z 17).xs), (18, .ar false .i32 (Z 18).xs), (19, .ar false .i32 (Z 19).xs), (38, .ar false .i32 B1.xs)] 39) (fun _=>True) (WpN.vc ?_) ?_
    · conv=>whnf
      refine ⟨fun hc => ?_, fun hc => ?_⟩
      · replace hc : bw = 3 := by simpa using hc
        conv=>whnf
        refine CallQ.use [] t207 rfl rfl trivial ?_
        rintro v l' ⟨rfl, rfl⟩
        conv=>whnf
        exact ⟨(), trivial, Rel.lay [] (by cases sd <;> kernel_rfl) (by rw [hT, if_pos hc]; repeat constructor) (by cases sd <;> repeat constructor)⟩
      · replace hc : ¬ bw = 3 := by simpa using hc
        conv=>whnf
        exact ⟨(), trivial, Rel.lay [] (by cases sd <;> kernel_rfl) (by rw [hT, if_neg hc]; repeat constructor) (by cases sd <;> repeat constructor)⟩
    intro _ _
    generalize ordT d = O at hol hok
    refine WpN.cut (ι := List Int) (fun _=>[(0, .c (.p 0 0)), (1, .c (.sl 12 0 d cap)), (7, .c (.sl 38 0 d B1.cap))]) (fun zs => lay [(0, .st (cells sd [(16, 38)] a q D (setZ Z 16 B1))), (12, .ar false .i16 xs), (17, .ar false .i32 (Z 17).xs), (18, .ar false .i32 (Z 18).xs), (19, .ar false .i32 (Z 19).xs), (38, .ar false .i32 zs)] 39) (fun zs => zs.length = B1.xs.length) (WpN.vc ?_) ?_
    · conv=>whnf
      refine WpS.loop (ι := Nat × List Int) (fun x => mkSt [(0, .c (.p 0 0)), (1, .c (.sl 12 0 d cap)), (7, .c (.sl 38 0 d B1.cap)), (8, .c (.is .i32 T205)), (9, .c (.is .u8 O)), (32, .c (.i .i64 d)), (33, .c (.i .i64 x.1))] (lay [(0, .st (cells sd [(16, 38)] a q D (setZ Z 16 B1))), (12, .ar false .i16 xs), (17, .ar false .i32 (Z 17).xs), (18, .ar false .i32 (Z 18).xs), (19, .ar false .i32 (Z 19).xs), (38, .ar false .i32 x.2)] 39) 316) (fun x => x.1 ≤ d ∧ x.2.length = B1.xs.length) (fun x => d - x.1) (0, B1.xs) ⟨Nat.zero_le _, rfl⟩ (Rel.layD (by repeat constructor) rfl ⟨rfl, rfl, rfl, rfl, rfl, trivial⟩ (by cases sd <;> kernel_rfl)) ?_
      rintro ⟨j, zs⟩ ⟨hj, hl⟩
      dsimp only at hj hl ⊢
      have ej := i64_nat j (by omega)
      have e9 : 0 + Int.toNat (j : Int) = j := by simp
      refine VC_ok ?_
      conv=>whnf
      refine ⟨fun hc => ?_, fun hc => ?_⟩
      · replace hc := of_decide_eq_true hc
        have g1 := hx j (by omega)
        have g2 : 0 ≤ O.getD (Int.toNat (j : Int)) 0 ∧ O.getD (Int.toNat (j : Int)) 0 < d := hok j (by omega)
        have g3 : (T205.length : Int) = 129 := by decide +kernel
        conv=>whnf
        refine ⟨by omega, ?_⟩
        conv=>whnf
        refine ⟨by omega, ?_⟩
        conv=>whnf
        refine ⟨by decide, ?_⟩
        conv=>whnf
        refine ⟨by omega, ?_⟩
        conv=>whnf
        refine ⟨by omega, ?_⟩
        conv=>whnf
        rw [e9]
        obtain ⟨e8, hs⟩ := shr8 g1
        rw [e8]
        generalize xs.getD j 0 / 256 = t at hs
        have e7 : IntKind.i32.wrap (t + 1) = t + 1 := IntWalk.i32_in _ (by omega)
        refine .inl ⟨by kernel_rfl, ?_⟩
        conv=>whnf
        refine ⟨by omega, ?_⟩
        conv=>whnf
        repeat first|(refine Lt (by decide) ?_;conv=>whnf)|(refine Lf (by decide) ?_;conv=>whnf)|(refine And.intro (by first|decide|omega|(simp only [List.length_set];omega)) ?_;conv=>whnf)|(refine .inl ⟨by kernel_rfl,?_⟩;conv=>whnf)
        rw [ej]
        exact ⟨(j + 1, _), ⟨by dsimp only; omega, by simpa using hl⟩, by dsimp only; omega, Rel.layD (by repeat constructor) rfl ⟨rfl, rfl, rfl, rfl, rfl, trivial⟩ (by cases sd <;> kernel_rfl)⟩
      · conv=>whnf
        refine ⟨rfl, ?_⟩
        conv=>whnf
        exact ⟨zs, hl, Rel.layD (by repeat constructor) rfl ⟨rfl, rfl, rfl, rfl, rfl, trivial⟩ (by cases sd <;> kernel_rfl)⟩
    intro zs hzl
    have hq : IntKind.i64.wrap ((d : Int).tdiv 2) = ((d / 2 : Nat) : Int) := by rw [IntWalk.i64_quo _ _ (by omega)]; rfl
    have hh : 2 * (d / 2) = d := by omega
    generalize d / 2 = h at hq hh
    have hq1 := i64_nat h (by omega)
    refine WpN.seq (WpN.vc ?_)
    conv=>whnf
    refine ⟨by decide, ?_⟩
    conv=>whnf
    rw [hq, hq1]
    refine rz136 (m := 38) (j := 17) (n := ((h + 1 : Nat) : Int)) _ rfl rfl (fun c => rfl) (by decide) rfl (Z 17).ok (by decide) (by omega) fun B2 hB2 _ => ?_
    rw [Int.toNat_natCast] at hB2 ⊢
    have hb2 := B2.ok
    conv=>whnf
    refine WpN.seq (WpN.vc ?_)
    conv=>whnf
    refine ⟨by decide, ?_⟩
    conv=>whnf
    rw [hq, hq1]
    refine rz136 (m := 39) (j := 18) (n := ((h + 1 : Nat) : Int)) _ rfl rfl (fun c => rfl) (by decide) rfl (Z 18).ok (by decide) (by omega) fun B3 hB3 _ => ?_
    rw [Int.toNat_natCast] at hB3 ⊢
    have hb3 := B3.ok
    conv=>whnf
    refine WpN.vc ?_
    conv=>whnf
    have g1 : Int.toNat 1 = 1 := rfl
    have g0 : Int.toNat 0 = 0 := rfl
    repeat first|(refine Lt (by decide) ?_;conv=>whnf)|(refine Lf (by decide) ?_;conv=>whnf)|(refine And.intro (by first|decide|omega|(simp only [List.length_set];omega)) ?_;conv=>whnf)|(refine .inl ⟨by kernel_rfl,?_⟩;conv=>whnf)
    rw [hq]
    refine WpS.loop (ι := Nat × List Int × List Int) (fun x => mkSt [(0, .c (.p 0 0)), (1, .c (.sl 12 0 d cap)), (7, .c (.sl 38 0 d B1.cap)), (13, .c (.sl 39 0 (h + 1) B2.cap)), (14, .c (.sl 40 0 (h + 1) B3.cap)), (15, .c (.i .i64 d)), (16, .c (.i .i64 h)), (17, .c (.i .i64 x.1))] (lay [(0, .st (cells sd [(16, 38), (17, 39), (18, 40)] a q D (setZ (setZ (setZ Z 16 B1) 17 B2) 18 B3))), (12, .ar false .i16 xs), (19, .ar false .i32 (Z 19).xs), (38, .ar false .i32 zs), (39, .ar false .i32 x.2.1), (40, .ar false .i32 x.2.2)] 41) 316) (fun x => (1 ≤ x.1 ∧ x.1 ≤ h) ∧ x.2.1.length = B2.xs.length ∧ x.2.2.length = B3.xs.length) (fun x => h - x.1) (1, _, _) ⟨by dsimp only; omega, by simp, by simp⟩ (Rel.layD (by repeat constructor) rfl ⟨rfl, rfl, rfl, rfl, rfl, trivial⟩ (by cases sd <;> kernel_rfl)) ?_
    rintro ⟨k, ps, qs⟩ ⟨hk, hpl, hql⟩
    dsimp only at hk hpl hql ⊢
    have ek := i64_nat k (by omega)
    have ek1 : IntKind.i64.wrap ((k : Int) - 1) = k - 1 := IntWalk.i64_in _ (by omega)
    have ek2 : IntKind.i64.wrap (2 * (k : Int)) = 2 * k := IntWalk.i64_in _ (by omega)
    have ek3 : IntKind.i64.wrap (IntKind.i64.wrap (2 * (k : Int)) + 1) = 2 * k + 1 := by rw [ek2, IntWalk.i64_in _ (by omega)]
    refine VC_ok ?_
    conv=>whnf
    refine ⟨fun hc => ?_, fun hc => ?_⟩
    · replace hc := of_decide_eq_true hc
      conv=>whnf
      repeat first|(refine Lt (by decide) ?_;conv=>whnf)|(refine Lf (by decide) ?_;conv=>whnf)|(refine And.intro (by first|decide|omega|(simp only [List.length_set];omega)) ?_;conv=>whnf)|(refine .inl ⟨by kernel_rfl,?_⟩;conv=>whnf)
      refine WpS.loop (ι := Nat × List Int × List Int) (fun x => mkSt [(0, .c (.p 0 0)), (1, .c (.sl 12 0 d cap)), (7, .c (.sl 38 0 d B1.cap)), (13, .c (.sl 39 0 (h + 1) B2.cap)), (14, .c (.sl 40 0 (h + 1) B3.cap)), (15, .c (.i .i64 d)), (16, .c (.i .i64 h)), (17, .c (.i .i64 k)), (18, .c (.i .i64 x.1))] (lay [(0, .st (cells sd [(16, 38), (17, 39), (18, 40)] a q D (setZ (setZ (setZ Z 16 B1) 17 B2) 18 B3))), (12, .ar false .i16 xs), (19, .ar false .i32 (Z 19).xs), (38, .ar false .i32 zs), (39, .ar false .i32 x.2.1), (40, .ar false .i32 x.2.2)] 41) 316) (fun x => (1 ≤ x.1 ∧ x.1 ≤ k) ∧ x.2.1.length = B2.xs.length ∧ x.2.2.length = B3.xs.length) (fun x => x.1) (k, _, _) ⟨by dsimp only; omega, by simpa using hpl, by simpa using hql⟩ (Rel.layD (by repeat constructor) rfl ⟨rfl, rfl, rfl, rfl, rfl, trivial⟩ (by cases sd <;> kernel_rfl)) ?_
      clear hpl hql
      rintro ⟨i, ps, qs⟩ ⟨hi, hpl, hql⟩
      dsimp only at hi hpl hql ⊢
      have ei1 : IntKind.i64.wrap ((i : Int) - 1) = ((i - 1 : Nat) : Int) := by rw [IntWalk.i64_in _ (by omega)]; omega
      refine VC_ok ?_
      conv=>whnf
      refine ⟨fun hc2 => ?_, fun hc2 => ?_⟩
      · replace hc2 := of_decide_eq_true hc2
        have ei2 : IntKind.i64.wrap ((i : Int) - 2) = i - 2 := IntWalk.i64_in _ (by omega)
        conv=>whnf
        repeat first|(refine Lt (by decide) ?_;conv=>whnf)|(refine Lf (by decide) ?_;conv=>whnf)|(refine And.intro (by first|decide|omega|(simp only [List.length_set];omega)) ?_;conv=>whnf)|(refine .inl ⟨by kernel_rfl,?_⟩;conv=>whnf)
        rw [ei1]
        exact ⟨(i - 1, _, _), ⟨by dsimp only; omega, by simpa using hpl, by simpa using hql⟩, by dsimp only; omega, Rel.layD (by repeat constructor) rfl ⟨rfl, rfl, rfl, rfl, rfl, trivial⟩ (by cases sd <;> kernel_rfl)⟩
      · conv=>whnf
        refine ⟨rfl, ?_⟩
        conv=>whnf
        repeat first|(refine Lt (by decide) ?_;conv=>whnf)|(refine Lf (by decide) ?_;conv=>whnf)|(refine And.intro (by first|decide|omega|(simp only [List.length_set];omega)) ?_;conv=>whnf)|(refine .inl ⟨by kernel_rfl,?_⟩;conv=>whnf)
        rw [ek]
        exact ⟨(k + 1, _, _), ⟨by dsimp only; omega, by simpa using hpl, by simpa using hql⟩, by dsimp only; omega, Rel.layD (by repeat constructor) rfl ⟨rfl, rfl, rfl, rfl, rfl, trivial⟩ (by cases sd <;> kernel_rfl)⟩
    conv=>whnf
    refine ⟨rfl, ?_⟩
    conv=>whnf
    refine rz136 (m := 40) (j := 19) (n := (d : Int)) _ rfl rfl (fun c => rfl) (by decide) rfl (Z 19).ok (by decide) (by omega) fun B4 hB4 _ => ?_
    rw [Int.toNat_natCast] at hB4 ⊢
    have hb4 := B4.ok
    conv=>whnf
    refine WpS.loop (ι := Nat × List Int) (fun x => mkSt [(6, .c (.sl 41 0 d B4.cap)), (13, .c (.sl 39 0 (h + 1) B2.cap)), (14, .c (.sl 40 0 (h + 1) B3.cap)), (15, .c (.i .i64 d)), (258, .c (.i .i64 h)), (259, .c (.i .i64 x.1))] (lay [(0, .st (cells sd [(16, 38), (17, 39), (18, 40), (19, 41)] a q D (setZ (setZ (setZ (setZ Z 16 B1) 17 B2) 18 B3) 19 B4))), (12, .ar false .i16 xs), (38, .ar false .i32 zs), (39, .ar false .i32 ps), (40, .ar false .i32 qs), (41, .ar false .i32 x.2)] 42) 316) (fun x => x.1 ≤ h ∧ x.2.length = B4.xs.length) (fun x => h - x.1) (0, B4.xs) ⟨Nat.zero_le _, rfl⟩ (Rel.layD (by repeat constructor) rfl ⟨rfl, rfl, rfl, rfl, rfl, trivial⟩ (by cases sd <;> kernel_rfl)) ?_
    clear hk ek ek1 ek2 ek3 hc
    rintro ⟨k, rs⟩ ⟨hk, hrl⟩
    dsimp only at hk hrl ⊢
    have ek := i64_nat k (by omega)
    refine VC_ok ?_
    conv=>whnf
    refine ⟨fun hc => ?_, fun hc => ?_⟩
    · replace hc := of_decide_eq_true hc
      have ek1 : IntKind.i64.wrap ((d : Int) - k) = d - k := IntWalk.i64_in _ (by omega)
      have ek2 : IntKind.i64.wrap (IntKind.i64.wrap ((d : Int) - k) - 1) = d - k - 1 := by rw [ek1]; exact IntWalk.i64_in _ (by omega)
      conv=>whnf
      repeat first|(refine Lt (by decide) ?_;conv=>whnf)|(refine Lf (by decide) ?_;conv=>whnf)|(refine And.intro (by first|decide|omega|(simp only [List.length_set];omega)) ?_;conv=>whnf)|(refine .inl ⟨by kernel_rfl,?_⟩;conv=>whnf)
      rw [ek]
      exact ⟨(k + 1, _), ⟨by dsimp only; omega, by simpa using hrl⟩, by dsimp only; omega, Rel.layD (by repeat constructor) rfl ⟨rfl, rfl, rfl, rfl, rfl, trivial⟩ (by cases sd <;> kernel_rfl)⟩
    · conv=>whnf
      refine ⟨rfl, ?_⟩
      conv=>whnf
      exact ⟨[], .c (.sl 41 0 d B4.cap), lay [(0, .st (cells sd [(16, 38), (17, 39), (18, 40), (19, 41)] a q D (setZ (setZ (setZ (setZ Z 16 ⟨B1.cap, zs, B1.ys, by omega, B1.okb⟩) 17 ⟨B2.cap, ps, B2.ys, by omega, B2.okb⟩) 18 ⟨B3.cap, qs, B3.ys, by omega, B3.okb⟩) 19 ⟨B4.cap, rs, B4.ys, by omega, B4.okb⟩))), (12, .ar false .i16 xs), (38, .ar false .i32 zs), (39, .ar false .i32 ps), (40, .ar false .i32 qs), (41, .ar false .i32 rs)] 42, rfl, by cases sd <;> kernel_rfl, stEq_lay (by cases sd <;> repeat constructor) 42 0, ⟨B1.cap, zs, B1.ys, by omega, B1.okb⟩, ⟨B2.cap, ps, B2.ys, by omega, B2.okb⟩, ⟨B3.cap, qs, B3.ys, by omega, B3.okb⟩, ⟨B4.cap, rs, B4.ys, by omega, B4.okb⟩, rfl, hB4, rfl⟩
  · refine WpN.seq (WpN.vc ?_)
    conv=>whnf
    refine WpN.seq (WpN.vc ?_)
    conv=>whnf
    refine rz136 (m := 37) (j := 16) (n := (d : Int)) _ rfl rfl (fun c => rfl) (by decide) rfl (Z 16).ok (by decide) (by omega) fun B1 hB1 _ => ?_
    rw [Int.toNat_natCast] at hB1 ⊢
    have hb1 := B1.ok
    conv=>whnf
    refine WpN.seq (WpN.vc ?_)
    conv=>whnf
    refine CallQ.use [] t205 rfl rfl trivial ?_
    rintro v l' ⟨rfl, rfl⟩
    conv=>whnf
    refine WpN.seq (WpN.vc ?_)
    conv=>whnf
    refine CallQ.use [] t206 rfl rfl trivial ?_
    rintro v l' ⟨rfl, rfl⟩
    conv=>whnf
    refine WpN.cut (ι := Unit) (fun _=>[(0, .c (.p 0 0)), (1, .c (.sl 15 0 d cap)), (7, .c (.sl 38 0 d B1.cap)), (8, .c (.is .i32 T205)), (9, .c (.is .u8 (ordT d)))]) (fun _=>lay [(0, .st (cells sd [(16, 38)] a q D (setZ Z 16 B1))), (15, .ar false .i16 xs), (17, .ar false .i32 (Z 17).xs), (18, .ar false .i32 (Z 18).xs), (19, .ar false .i32 (Z 19).xs), (38, .ar false .i32 B1.xs)] 39) (fun _=>True) (WpN.vc ?_) ?_
    · conv=>whnf
      refine ⟨fun hc => ?_, fun hc => ?_⟩
      · replace hc : bw = 3 := by simpa using hc
        conv=>whnf
        refine CallQ.use [] t207 rfl rfl trivial ?_
        rintro v l' ⟨rfl, rfl⟩
        conv=>whnf
        exact ⟨(), trivial, Rel.lay [] (by cases sd <;> kernel_rfl) (by rw [hT, if_pos hc]; repeat constructor) (by cases sd <;> repeat constructor)⟩
      · replace hc : ¬ bw = 3 := by simpa using hc
        conv=>whnf
        exact ⟨(), trivial, Rel.lay [] (by cases sd <;> kernel_rfl) (by rw [hT, if_neg hc]; repeat constructor) (by cases sd <;> repeat constructor)⟩
    intro _ _
    generalize ordT d = O at hol hok
    refine WpN.cut (ι := List Int) (fun _=>[(0, .c (.p 0 0)), (1, .c (.sl 15 0 d cap)), (7, .c (.sl 38 0 d B1.cap))]) (fun zs => lay [(0, .st (cells sd [(16, 38)] a q D (setZ Z 16 B1))), (15, .ar false .i16 xs), (17, .ar false .i32 (Z 17).xs), (18, .ar false .i32 (Z 18).xs), (19, .ar false .i32 (Z 19).xs), (38, .ar false .i32 zs)] 39) (fun zs => zs.length = B1.xs.length) (WpN.vc ?_) ?_
    · conv=>whnf
      refine WpS.loop (ι := Nat × List Int) (fun x => mkSt [(0, .c (.p 0 0)), (1, .c (.sl 15 0 d cap)), (7, .c (.sl 38 0 d B1.cap)), (8, .c (.is .i32 T205)), (9, .c (.is .u8 O)), (32, .c (.i .i64 d)), (33, .c (.i .i64 x.1))] (lay [(0, .st (cells sd [(16, 38)] a q D (setZ Z 16 B1))), (15, .ar false .i16 xs), (17, .ar false .i32 (Z 17).xs), (18, .ar false .i32 (Z 18).xs), (19, .ar false .i32 (Z 19).xs), (38, .ar false .i32 x.2)] 39) 316) (fun x => x.1 ≤ d ∧ x.2.length = B1.xs.length) (fun x => d - x.1) (0, B1.xs) ⟨Nat.zero_le _, rfl⟩ (Rel.layD (by repeat constructor) rfl ⟨rfl, rfl, rfl, rfl, rfl, trivial⟩ (by cases sd <;> kernel_rfl)) ?_
      rintro ⟨j, zs⟩ ⟨hj, hl⟩
      dsimp only at hj hl ⊢
      have ej := i64_nat j (by omega)
      have e9 : 0 + Int.toNat (j : Int) = j := by simp
      refine VC_ok ?_
      conv=>whnf
      refine ⟨fun hc => ?_, fun hc => ?_⟩
      · replace hc := of_decide_eq_true hc
        have g1 := hx j (by omega)
        have g2 : 0 ≤ O.getD (Int.toNat (j : Int)) 0 ∧ O.getD (Int.toNat (j : Int)) 0 < d := hok j (by omega)
        have g3 : (T205.length : Int) = 129 := by decide +kernel
        conv=>whnf
        refine ⟨by omega, ?_⟩
        conv=>whnf
        refine ⟨by omega, ?_⟩
        conv=>whnf
        refine ⟨by decide, ?_⟩
        conv=>whnf
        refine ⟨by omega, ?_⟩
        conv=>whnf
        refine ⟨by omega, ?_⟩
        conv=>whnf
        rw [e9]
        obtain ⟨e8, hs⟩ := shr8 g1
        rw [e8]
        generalize xs.getD j 0 / 256 = t at hs
        have e7 : IntKind.i32.wrap (t + 1) = t + 1 := IntWalk.i32_in _ (by omega)
        refine .inl ⟨by kernel_rfl, ?_⟩
        conv=>whnf
        refine ⟨by omega, ?_⟩
        conv=>whnf
        repeat first|(refine Lt (by decide) ?_;conv=>whnf)|(refine Lf (by decide) ?_;conv=>whnf)|(refine And.intro (by first|decide|omega|(simp only [List.length_set];omega)) ?_;conv=>whnf)|(refine .inl ⟨by kernel_rfl,?_⟩;conv=>whnf)
        rw [ej]
        exact ⟨(j + 1, _), ⟨by dsimp only; omega, by simpa using hl⟩, by dsimp only; omega, Rel.layD (by repeat constructor) rfl ⟨rfl, rfl, rfl, rfl, rfl, trivial⟩ (by cases sd <;> kernel_rfl)⟩
      · conv=>whnf
        refine ⟨rfl, ?_⟩
        conv=>whnf
        exact ⟨zs, hl, Rel.layD (by repeat constructor) rfl ⟨rfl, rfl, rfl, rfl, rfl, trivial⟩ (by cases sd <;> kernel_rfl)⟩
    intro zs hzl
    have hq : IntKind.i64.wrap ((d : Int).tdiv 2) = ((d / 2 : Nat) : Int) := by rw [IntWalk.i64_quo _ _ (by omega)]; rfl
    have hh : 2 * (d / 2) = d := by omega
    generalize d / 2 = h at hq hh
    have hq1 := i64_nat h (by omega)
    refine WpN.seq (WpN.vc ?_)
    conv=>whnf
    refine ⟨by decide, ?_⟩
    conv=>whnf
    rw [hq, hq1]
    refine rz136 (m := 38) (j := 17) (n := ((h + 1 : Nat) : Int)) _ rfl rfl (fun c => rfl) (by decide) rfl (Z 17).ok (by decide) (by omega) fun B2 hB2 _ => ?_
    rw [Int.toNat_natCast] at hB2 ⊢
    have hb2 := B2.ok
    conv=>whnf
    refine WpN.seq (WpN.vc ?_)
    conv=>whnf
    refine ⟨by decide, ?_⟩
    conv=>whnf
    rw [hq, hq1]
    refine rz136 (m := 39) (j := 18) (n := ((h + 1 : Nat) : Int)) _ rfl rfl (fun c => rfl) (by decide) rfl (Z 18).ok (by decide) (by omega) fun B3 hB3 _ => ?_
    rw [Int.toNat_natCast] at hB3 ⊢
    have hb3 := B3.ok
    conv=>whnf
    refine WpN.vc ?_
    conv=>whnf
    have g1 : Int.toNat 1 = 1 := rfl
    have g0 : Int.toNat 0 = 0 := rfl
    repeat first|(refine Lt (by decide) ?_;conv=>whnf)|(refine Lf (by decide) ?_;conv=>whnf)|(refine And.intro (by first|decide|omega|(simp only [List.length_set];omega)) ?_;conv=>whnf)|(refine .inl ⟨by kernel_rfl,?_⟩;conv=>whnf)
    rw [hq]
    refine WpS.loop (ι := Nat × List Int × List Int) (fun x => mkSt [(0, .c (.p 0 0)), (1, .c (.sl 15 0 d cap)), (7, .c (.sl 38 0 d B1.cap)), (13, .c (.sl 39 0 (h + 1) B2.cap)), (14, .c (.sl 40 0 (h + 1) B3.cap)), (15, .c (.i .i64 d)), (16, .c (.i .i64 h)), (17, .c (.i .i64 x.1))] (lay [(0, .st (cells sd [(16, 38), (17, 39), (18, 40)] a q D (setZ (setZ (setZ Z 16 B1) 17 B2) 18 B3))), (15, .ar false .i16 xs), (19, .ar false .i32 (Z 19).xs), (38, .ar false .i32 zs), (39, .ar false .i32 x.2.1), (40, .ar false .i32 x.2.2)] 41) 316) (fun x => (1 ≤ x.1 ∧ x.1 ≤ h) ∧ x.2.1.length = B2.xs.length ∧ x.2.2.length = B3.xs.length) (fun x => h - x.1) (1, _, _) ⟨by dsimp only; omega, by simp, by simp⟩ (Rel.layD (by repeat constructor) rfl ⟨rfl, rfl, rfl, rfl, rfl, trivial⟩ (by cases sd <;> kernel_rfl)) ?_
    rintro ⟨k, ps, qs⟩ ⟨hk, hpl, hql⟩
    dsimp only at hk hpl hql ⊢
    have ek := i64_nat k (by omega)
    have ek1 : IntKind.i64.wrap ((k : Int) - 1) = k - 1 := IntWalk.i64_in _ (by omega)
    have ek2 : IntKind.i64.wrap (2 * (k : Int)) = 2 * k := IntWalk.i64_in _ (by omega)
    have ek3 : IntKind.i64.wrap (IntKind.i64.wrap (2 * (k : Int)) + 1) = 2 * k + 1 := by rw [ek2, IntWalk.i64_in _ (by omega)]
    refine VC_ok ?_
    conv=>whnf
    refine ⟨fun hc => ?_, fun hc => ?_⟩
    · replace hc := of_decide_eq_true hc
      conv=>whnf
      repeat first|(refine Lt (by decide) ?_;conv=>whnf)|(refine Lf (by decide) ?_;conv=>whnf)|(refine And.intro (by first|decide|omega|(simp only [List.length_set];omega)) ?_;conv=>whnf)|(refine .inl ⟨by kernel_rfl,?_⟩;conv=>whnf)
      refine WpS.loop (ι := Nat × List Int × List Int) (fun x => mkSt [(0, .c (.p 0 0)), (1, .c (.sl 15 0 d cap)), (7, .c (.sl 38 0 d B1.cap)), (13, .c (.sl 39 0 (h + 1) B2.cap)), (14, .c (.sl 40 0 (h + 1) B3.cap)), (15, .c (.i .i64 d)), (16, .c (.i .i64 h)), (17, .c (.i .i64 k)), (18, .c (.i .i64 x.1))] (lay [(0, .st (cells sd [(16, 38), (17, 39), (18, 40)] a q D (setZ (setZ (setZ Z 16 B1) 17 B2) 18 B3))), (15, .ar false .i16 xs), (19, .ar false .i32 (Z 19).xs), (38, .ar false .i32 zs), (39, .ar false .i32 x.2.1), (40, .ar false .i32 x.2.2)] 41) 316) (fun x => (1 ≤ x.1 ∧ x.1 ≤ k) ∧ x.2.1.length = B2.xs.length ∧ x.2.2.length = B3.xs.length) (fun x => x.1) (k, _, _) ⟨by dsimp only; omega, by simpa using hpl, by simpa using hql⟩ (Rel.layD (by repeat constructor) rfl ⟨rfl, rfl, rfl, rfl, rfl, trivial⟩ (by cases sd <;> kernel_rfl)) ?_
      clear hpl hql
      rintro ⟨i, ps, qs⟩ ⟨hi, hpl, hql⟩
      dsimp only at hi hpl hql ⊢
      have ei1 : IntKind.i64.wrap ((i : Int) - 1) = ((i - 1 : Nat) : Int) := by rw [IntWalk.i64_in _ (by omega)]; omega
      refine VC_ok ?_
      conv=>whnf
      refine ⟨fun hc2 => ?_, fun hc2 => ?_⟩
      · replace hc2 := of_decide_eq_true hc2
        have ei2 : IntKind.i64.wrap ((i : Int) - 2) = i - 2 := IntWalk.i64_in _ (by omega)
        conv=>whnf
        repeat first|(refine Lt (by decide) ?_;conv=>whnf)|(refine Lf (by decide) ?_;conv=>whnf)|(refine And.intro (by first|decide|omega|(simp only [List.length_set];omega)) ?_;conv=>whnf)|(refine .inl ⟨by kernel_rfl,?_⟩;conv=>whnf)
        rw [ei1]
        exact ⟨(i - 1, _, _), ⟨by dsimp only; omega, by simpa using hpl, by simpa using hql⟩, by dsimp only; omega, Rel.layD (by repeat constructor) rfl ⟨rfl, rfl, rfl, rfl, rfl, trivial⟩ (by cases sd <;> kernel_rfl)⟩
      · conv=>whnf
        refine ⟨rfl, ?_⟩
        conv=>whnf
        repeat first|(refine Lt (by decide) ?_;conv=>whnf)|(refine Lf (by decide) ?_;conv=>whnf)|(refine And.intro (by first|decide|omega|(simp only [List.length_set];omega)) ?_;conv=>whnf)|(refine .inl ⟨by kernel_rfl,?_⟩;conv=>whnf)
        rw [ek]
        exact ⟨(k + 1, _, _), ⟨by dsimp only; omega, by simpa using hpl, by simpa using hql⟩, by dsimp only; omega, Rel.layD (by repeat constructor) rfl ⟨rfl, rfl, rfl, rfl, rfl, trivial⟩ (by cases sd <;> kernel_rfl)⟩
    conv=>whnf
    refine ⟨rfl, ?_⟩
    conv=>whnf
    refine rz136 (m := 40) (j := 19) (n := (d : Int)) _ rfl rfl (fun c => rfl) (by decide) rfl (Z 19).ok (by decide) (by omega) fun B4 hB4 _ => ?_
    rw [Int.toNat_natCast] at hB4 ⊢
    have hb4 := B4.ok
    conv=>whnf
    refine WpS.loop (ι := Nat × List Int) (fun x => mkSt [(6, .c (.sl 41 0 d B4.cap)), (13, .c (.sl 39 0 (h + 1) B2.cap)), (14, .c (.sl 40 0 (h + 1) B3.cap)), (15, .c (.i .i64 d)), (258, .c (.i .i64 h)), (259, .c (.i .i64 x.1))] (lay [(0, .st (cells sd [(16, 38), (17, 39), (18, 40), (19, 41)] a q D (setZ (setZ (setZ (setZ Z 16 B1) 17 B2) 18 B3) 19 B4))), (15, .ar false .i16 xs), (38, .ar false .i32 zs), (39, .ar false .i32 ps), (40, .ar false .i32 qs), (41, .ar false .i32 x.2)] 42) 316) (fun x => x.1 ≤ h ∧ x.2.length = B4.xs.length) (fun x => h - x.1) (0, B4.xs) ⟨Nat.zero_le _, rfl⟩ (Rel.layD (by repeat constructor) rfl ⟨rfl, rfl, rfl, rfl, rfl, trivial⟩ (by cases sd <;> kernel_rfl)) ?_
    clear hk ek ek1 ek2 ek3 hc
    rintro ⟨k, rs⟩ ⟨hk, hrl⟩
    dsimp only at hk hrl ⊢
    have ek := i64_nat k (by omega)
    refine VC_ok ?_
    conv=>whnf
    refine ⟨fun hc => ?_, fun hc => ?_⟩
    · replace hc := of_decide_eq_true hc
      have ek1 : IntKind.i64.wrap ((d : Int) - k) = d - k := IntWalk.i64_in _ (by omega)
      have ek2 : IntKind.i64.wrap (IntKind.i64.wrap ((d : Int) - k) - 1) = d - k - 1 := by rw [ek1]; exact IntWalk.i64_in _ (by omega)
      conv=>whnf
      repeat first|(refine Lt (by decide) ?_;conv=>whnf)|(refine Lf (by decide) ?_;conv=>whnf)|(refine And.intro (by first|decide|omega|(simp only [List.length_set];omega)) ?_;conv=>whnf)|(refine .inl ⟨by kernel_rfl,?_⟩;conv=>whnf)
      rw [ek]
      exact ⟨(k + 1, _), ⟨by dsimp only; omega, by simpa using hrl⟩, by dsimp only; omega, Rel.layD (by repeat constructor) rfl ⟨rfl, rfl, rfl, rfl, rfl, trivial⟩ (by cases sd <;> kernel_rfl)⟩
    · conv=>whnf
      refine ⟨rfl, ?_⟩
      conv=>whnf
      exact ⟨[], .c (.sl 41 0 d B4.cap), lay [(0, .st (cells sd [(16, 38), (17, 39), (18, 40), (19, 41)] a q D (setZ (setZ (setZ (setZ Z 16 ⟨B1.cap, zs, B1.ys, by omega, B1.okb⟩) 17 ⟨B2.cap, ps, B2.ys, by omega, B2.okb⟩) 18 ⟨B3.cap, qs, B3.ys, by omega, B3.okb⟩) 19 ⟨B4.cap, rs, B4.ys, by omega, B4.okb⟩))), (15, .ar false .i16 xs), (38, .ar false .i32 zs), (39, .ar false .i32 ps), (40, .ar false .i32 qs), (41, .ar false .i32 rs)] 42, rfl, by cases sd <;> kernel_rfl, stEq_lay (by cases sd <;> repeat constructor) 42 0, ⟨B1.cap, zs, B1.ys, by omega, B1.okb⟩, ⟨B2.cap, ps, B2.ys, by omega, B2.okb⟩, ⟨B3.cap, qs, B3.ys, by omega, B3.okb⟩, ⟨B4.cap, rs, B4.ys, by omega, B4.okb⟩, rfl, hB4, rfl⟩
theorem f209s (d cap : Nat) (xs : List Int) (c : Int) (hd : d ≤ 16 ∧ d ≤ xs.length) : FnS 209 [.c (.sl 0 0 d cap), .c (.i .i32 c)] [some (.ar false .i32 xs)] fun v l' => ∃ ys : List Int, v = .tu [] ∧ l' = [some (.ar false .i32 ys)] ∧ ys.length = xs.length := by
  refine FnS.run (b := 1) Proofs.Tryz.f209 rfl rfl rfl rfl rfl rfl ?_
  conv=>whnf
  refine WpS.loop (ι := Nat × List Int × Int) (fun x => mkSt [(0, .c (.sl 0 0 d cap)), (1, .c (.i .i32 x.2.2)), (4, .c (.i .i32 c)), (8, .c (.i .i64 d)), (9, .c (.i .i64 x.1))] [some (.ar false .i32 x.2.1)] 39) (fun x => x.1 ≤ d ∧ x.2.1.length = xs.length) (fun x => d - x.1) (0, xs, c) ⟨Nat.zero_le _, rfl⟩ (Ren.relOf [] rfl (by repeat constructor) ⟨rfl, trivial⟩) ?_
  rintro ⟨j, ys, cc⟩ ⟨hj, hl⟩
  dsimp only at hj hl ⊢
  have ej := i64_nat j (by omega)
  refine VC_ok ?_
  conv=>whnf
  refine ⟨fun hc => ?_, fun hc => ?_⟩
  · replace hc := of_decide_eq_true hc
    conv=>whnf
    repeat first|(refine Lt (by decide) ?_;conv=>whnf)|(refine Lf (by decide) ?_;conv=>whnf)|(refine And.intro (by first|decide|omega|(simp only [List.length_set];omega)) ?_;conv=>whnf)|(refine .inl ⟨by kernel_rfl,?_⟩;conv=>whnf)
    rw [ej]
    refine ⟨fun _=>?_, fun _=>?_⟩
    · conv=>whnf
      repeat first|(refine Lt (by decide) ?_;conv=>whnf)|(refine Lf (by decide) ?_;conv=>whnf)|(refine And.intro (by first|decide|omega|(simp only [List.length_set];omega)) ?_;conv=>whnf)|(refine .inl ⟨by kernel_rfl,?_⟩;conv=>whnf)
      rw [ej]
      exact ⟨(j + 1, _, _), ⟨by dsimp only; omega, by simpa using hl⟩, by dsimp only; omega, Ren.relOf [] rfl (by repeat constructor) ⟨rfl, trivial⟩⟩
    · conv=>whnf
      rw [ej]
      exact ⟨(j + 1, _, _), ⟨by dsimp only; omega, by simpa using hl⟩, by dsimp only; omega, Ren.relOf [] rfl (by repeat constructor) ⟨rfl, trivial⟩⟩
  · conv=>whnf
    refine ⟨rfl, ?_⟩
    conv=>whnf
    exact ⟨[some (.ar false .i32 ys)], rfl, ⟨rfl, trivial⟩, ys, rfl, rfl, hl⟩
theorem u64_nn (x : Int) : 0 ≤ IntKind.u64.wrap x := by
  have := wrap_within .u64 x
  exact this.1
theorem f171 (d cap : Nat) (xs : List Int) (hd : d ≤ 16 ∧ 0 < d ∧ d ≤ xs.length) : FnS 171 [.c (.p 0 0), .c (.sl 1 0 d cap)] [none, some (.ar false .i32 xs)] fun v l' => ∃ ys : List Int, v = .tu [] ∧ l' = [none, some (.ar false .i32 ys)] ∧ ys.length = xs.length := by
  refine FnS.run (b := 2) Proofs.Tryz.f171 rfl rfl rfl rfl rfl rfl ?_
  conv=>whnf
  refine WpS.loop (ι := Nat × List Int) (fun x => mkSt [(0, .c (.p 0 0)), (1, .c (.sl 1 0 d cap)), (4, .c (.i .i64 x.1))] [none, some (.ar false .i32 x.2)] 79) (fun x => x.1 ≤ 10 ∧ x.2.length = xs.length) (fun x => 10 - x.1) (0, xs) ⟨Nat.zero_le _, rfl⟩ (Ren.relOf [] rfl (by repeat constructor) ⟨rfl, trivial⟩) ?_
  rintro ⟨r, ys⟩ ⟨hr, hl⟩
  dsimp only at hr hl ⊢
  have er := i64_nat r (by omega)
  refine VC_ok ?_
  conv=>whnf
  refine ⟨fun hc => ?_, fun hc => ?_⟩
  · replace hc := of_decide_eq_true hc
    conv=>whnf
    refine WpS.loop (ι := Nat × Nat × Int) (fun x => mkSt [(0, .c (.p 0 0)), (1, .c (.sl 1 0 d cap)), (4, .c (.i .i64 r)), (5, .c (.i .u64 x.2.1)), (6, .c (.i .u64 x.2.2)), (17, .c (.sl 1 0 d cap)), (18, .c (.i .i64 d)), (19, .c (.i .i64 x.1))] [none, some (.ar false .i32 ys)] 79) (fun x => x.1 ≤ d ∧ x.2.1 < d) (fun x => d - x.1) (0, 0, 0) ⟨Nat.zero_le _, hd.2.1⟩ (Ren.relOf [] rfl (by repeat constructor) ⟨rfl, trivial⟩) ?_
    rintro ⟨j, kk, mx⟩ ⟨hj, hk⟩
    dsimp only at hj hk ⊢
    have ej := i64_nat j (by omega)
    refine VC_ok ?_
    conv=>whnf
    refine ⟨fun hc2 => ?_, fun hc2 => ?_⟩
    · replace hc2 := of_decide_eq_true hc2
      conv=>whnf
      repeat first|(refine Lt (by decide) ?_;conv=>whnf)|(refine Lf (by decide) ?_;conv=>whnf)|(refine And.intro (by first|decide|omega|(simp only [List.length_set];omega)) ?_;conv=>whnf)|(refine .inl ⟨by kernel_rfl,?_⟩;conv=>whnf)
      refine CallQ.use [] (f158 _) rfl rfl trivial ?_
      rintro v l' ⟨rfl, rfl⟩
      conv=>whnf
      refine ⟨fun _=>?_, fun _=>?_⟩
      · conv=>whnf
        rw [IntWalk.u64_in (j : Int) (by omega), ej]
        exact ⟨(j + 1, j, _), ⟨by dsimp only; omega, by dsimp only; omega⟩, by dsimp only; omega, Ren.relOf [] rfl (by repeat constructor) ⟨rfl, trivial⟩⟩
      · conv=>whnf
        rw [ej]
        exact ⟨(j + 1, kk, mx), ⟨by dsimp only; omega, by dsimp only; omega⟩, by dsimp only; omega, Ren.relOf [] rfl (by repeat constructor) ⟨rfl, trivial⟩⟩
    · conv=>whnf
      refine ⟨rfl, ?_⟩
      conv=>whnf
      refine ⟨by decide, ?_⟩
      conv=>whnf
      have h5 : (2 : Int) ^ min (Int.toNat 5) IntKind.u64.bits = 32 := by decide
      have hm : 0 ≤ (IntKind.u64.wrap (mx + 16)).fdiv (2 ^ min (Int.toNat 5) IntKind.u64.bits) := by
        rw [h5, Int.fdiv_eq_ediv_of_nonneg _ (by decide)]
        have := u64_nn (mx + 16)
        omega
      generalize (IntKind.u64.wrap (mx + 16)).fdiv (2 ^ min (Int.toNat 5) IntKind.u64.bits) = m0 at hm
      refine CallQ.use [] (f208 _ _) rfl rfl trivial ?_
      rintro v l' ⟨rfl, rfl⟩
      have hm2 : 0 ≤ (if m0 > 163838 then 163838 else m0) ∧ (if m0 > 163838 then 163838 else m0) ≤ 163838 := by split <;> omega
      generalize (if m0 > 163838 then 163838 else m0) = m at hm2
      conv=>whnf
      refine ⟨fun hc3 => ?_, fun hc3 => ?_⟩
      · replace hc3 := of_decide_eq_true hc3
        have e1 : IntKind.u64.wrap ((kk : Int) + 1) = kk + 1 := IntWalk.u64_in _ (by omega)
        have hp : 32768 ≤ m * ((kk : Int) + 1) ∧ m * ((kk : Int) + 1) ≤ 163838 * 17 := by
          constructor
          · calc (32768 : Int) ≤ m * 1 := by omega
              _ ≤ m * ((kk : Int) + 1) := Int.mul_le_mul_of_nonneg_left (by omega) (by omega)
          · calc m * ((kk : Int) + 1) ≤ m * 17 := Int.mul_le_mul_of_nonneg_left (by omega) (by omega)
              _ ≤ 163838 * 17 := by omega
        have e2 : IntKind.u64.wrap (m * IntKind.u64.wrap ((kk : Int) + 1)) = m * ((kk : Int) + 1) := by rw [e1]; exact IntWalk.u64_in _ (by omega)
        have h2 : (2 : Int) ^ min (Int.toNat 2) IntKind.u64.bits = 4 := by decide
        conv=>whnf
        refine ⟨by decide, ?_⟩
        conv=>whnf
        refine ⟨by decide, ?_⟩
        conv=>whnf
        refine ⟨by rw [e2, h2, Int.fdiv_eq_ediv_of_nonneg _ (by decide)]; omega, ?_⟩
        conv=>whnf
        refine CallQ.useF [1] (f209s d cap ys _ (by omega)) rfl rfl ⟨rfl, trivial⟩ ?_
        rintro v l' ⟨ws, rfl, rfl, hwl⟩
        conv=>whnf
        rw [er]
        exact ⟨(r + 1, ws), ⟨by dsimp only; omega, by dsimp only; omega⟩, by dsimp only; omega, Ren.relOf [] rfl (by repeat constructor) ⟨rfl, trivial⟩⟩
      · conv=>whnf
        refine ⟨rfl, ?_⟩
        conv=>whnf
        generalize hx : ((r : Int) == 10) = x
        cases x
        rotate_left
        · have : (r : Int) = 10 := by simpa using hx
          omega
        refine ⟨fun h => absurd h (by decide), fun _=>?_⟩
        conv=>whnf
        exact ⟨[none, some (.ar false .i32 ys)], rfl, ⟨rfl, trivial⟩, ys, rfl, rfl, hl⟩
  · replace hc := of_decide_eq_false hc
    have hr10 : r = 10 := by omega
    subst hr10
    conv=>whnf
    refine ⟨rfl, ?_⟩
    conv=>whnf
    refine ⟨fun _=>?_, fun h => absurd h (by decide)⟩
    conv=>whnf
    refine WpS.loop (ι := Nat × List Int) (fun x => mkSt [(0, .c (.p 0 0)), (1, .c (.sl 1 0 d cap)), (63, .c (.i .i64 d)), (64, .c (.i .i64 x.1))] [none, some (.ar false .i32 x.2)] 79) (fun x => x.1 ≤ d ∧ x.2.length = xs.length) (fun x => d - x.1) (0, ys) ⟨Nat.zero_le _, hl⟩ (Ren.relOf [] rfl (by repeat constructor) ⟨rfl, trivial⟩) ?_
    clear hl
    rintro ⟨j, ys⟩ ⟨hj, hl⟩
    dsimp only at hj hl ⊢
    have ej := i64_nat j (by omega)
    refine VC_ok ?_
    conv=>whnf
    refine ⟨fun hc2 => ?_, fun hc2 => ?_⟩
    · replace hc2 := of_decide_eq_true hc2
      conv=>whnf
      repeat first|(refine Lt (by decide) ?_;conv=>whnf)|(refine Lf (by decide) ?_;conv=>whnf)|(refine And.intro (by first|decide|omega|(simp only [List.length_set];omega)) ?_;conv=>whnf)|(refine .inl ⟨by kernel_rfl,?_⟩;conv=>whnf)
      refine CallQ.use [] (f143 _ _ _) rfl rfl trivial ?_
      rintro v l' ⟨rfl, rfl⟩
      conv=>whnf
      repeat first|(refine Lt (by decide) ?_;conv=>whnf)|(refine Lf (by decide) ?_;conv=>whnf)|(refine And.intro (by first|decide|omega|(simp only [List.length_set];omega)) ?_;conv=>whnf)|(refine .inl ⟨by kernel_rfl,?_⟩;conv=>whnf)
      rw [ej]
      exact ⟨(j + 1, _), ⟨by dsimp only; omega, by simpa using hl⟩, by dsimp only; omega, Ren.relOf [] rfl (by repeat constructor) ⟨rfl, trivial⟩⟩
    · conv=>whnf
      refine ⟨rfl, ?_⟩
      conv=>whnf
      exact ⟨[none, some (.ar false .i32 ys)], rfl, ⟨rfl, trivial⟩, ys, rfl, rfl, hl⟩
end Go.SX
