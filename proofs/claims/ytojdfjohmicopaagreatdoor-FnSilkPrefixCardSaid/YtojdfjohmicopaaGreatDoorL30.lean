/- A part of the proof: the SILK decoder of the given program, walked by an executor that is proved sound. No statement of the program is proved in this text. -/
import Derived.Test.YtojdfjohmicopaaGreatDoorL22
import Derived.Test.YtojdfjohmicopaaGreatDoorL28
import Derived.Test.YtojdfjohmicopaaGreatDoorL29
set_option linter.all false
set_option maxRecDepth 100000
namespace Go.SX
open Go
theorem f172_0 (sd : Bool) (a : Nat) (q : Nat × Nat) (D : Dec) (Z : Nat → Buf) (d cap : Nat) (xs : List Int) (hd : d = 10 ∨ d = 16) (hdx : d ≤ xs.length) :
    FnS 172 [.c (.p 0 0), .c (.sl 19 0 d cap), .c (.i .i64 0)] (lay [(0, .st (cells sd [] a q D Z)), (19, .ar false .i32 xs), (20, .ar false .i16 (Z 20).xs), (22, .ar false .i16 (Z 22).xs)] 38) fun v l' =>
      ∃ (B1 B2 : Buf) (us : List Int), v = .c (.sl 39 0 d B2.cap) ∧ d ≤ B2.cap ∧ us.length = xs.length ∧ l' = lay [(0, .st (cells sd [(20, 38), (22, 39)] a q D (setZ (setZ Z 20 B1) 22 B2))), (19, .ar false .i32 us), (38, .ar false .i16 B1.xs), (39, .ar false .i16 B2.xs)] 40 := by
  refine FnS.wpR (b := 38) Proofs.Tryz.f172 rfl rfl rfl rfl rfl rfl ?_
  refine WpN.seq (WpN.vc ?_)
  conv=>whnf
  refine WpN.seq (WpN.vc ?_)
  conv=>whnf
  repeat first|(refine Lt (by decide) ?_;conv=>whnf)|(refine Lf (by decide) ?_;conv=>whnf)|(refine And.intro (by first|decide|omega|(simp only [List.length_set];omega)) ?_;conv=>whnf)|(refine .inl ⟨by kernel_rfl,?_⟩;conv=>whnf)
  refine rz153 (m := 37) (j := 20) (n := (d : Int)) _ rfl rfl (fun c => rfl) (by decide) rfl (Z 20).ok (by decide) (by omega) fun B1 hB1 _ => ?_
  rw [Int.toNat_natCast] at hB1 ⊢
  have hb1 := B1.ok
  conv=>whnf
  refine WpN.cut (ι := List Int) (fun _=>[(0, .c (.p 0 0)), (1, .c (.sl 19 0 d cap)), (2, .c (.i .i64 0)), (7, .c (.sl 38 0 d B1.cap))]) (fun bs => lay [(0, .st (cells sd [(20, 38)] a q D (setZ Z 20 B1))), (19, .ar false .i32 xs), (22, .ar false .i16 (Z 22).xs), (38, .ar false .i16 bs)] 39) (fun bs => bs.length = B1.xs.length) (WpN.vc ?_) ?_
  · conv=>whnf
    refine WpS.loop (ι := Nat × List Int) (fun x => mkSt [(0, .c (.p 0 0)), (1, .c (.sl 19 0 d cap)), (2, .c (.i .i64 0)), (7, .c (.sl 38 0 d B1.cap)), (21, .c (.i .i64 d)), (22, .c (.i .i64 x.1))] (lay [(0, .st (cells sd [(20, 38)] a q D (setZ Z 20 B1))), (19, .ar false .i32 xs), (22, .ar false .i16 (Z 22).xs), (38, .ar false .i16 x.2)] 39) 86) (fun x => x.1 ≤ d ∧ x.2.length = B1.xs.length) (fun x => d - x.1) (0, B1.xs) ⟨Nat.zero_le _, rfl⟩ (Rel.layD (by repeat constructor) rfl ⟨rfl, rfl, rfl, trivial⟩ (by cases sd <;> kernel_rfl)) ?_
    rintro ⟨j, bs⟩ ⟨hj, hl⟩
    dsimp only at hj hl ⊢
    have ej := i64_nat j (by omega)
    refine VC_ok ?_
    conv=>whnf
    refine ⟨fun hc => ?_, fun hc => ?_⟩
    · replace hc := of_decide_eq_true hc
      conv=>whnf
      repeat first|(refine Lt (by decide) ?_;conv=>whnf)|(refine Lf (by decide) ?_;conv=>whnf)|(refine And.intro (by first|decide|omega|(simp only [List.length_set];omega)) ?_;conv=>whnf)|(refine .inl ⟨by kernel_rfl,?_⟩;conv=>whnf)
      rw [ej]
      exact ⟨(j + 1, _), ⟨by dsimp only; omega, by simpa using hl⟩, by dsimp only; omega, Rel.layD (by repeat constructor) rfl ⟨rfl, rfl, rfl, trivial⟩ (by cases sd <;> kernel_rfl)⟩
    · conv=>whnf
      refine ⟨rfl, ?_⟩
      conv=>whnf
      exact ⟨bs, hl, Rel.layD (by repeat constructor) rfl ⟨rfl, rfl, rfl, trivial⟩ (by cases sd <;> kernel_rfl)⟩
  intro bs hal
  refine WpN.cut (ι := List Int × List Int) (fun _=>[(0, .c (.p 0 0)), (1, .c (.sl 19 0 d cap)), (2, .c (.i .i64 0)), (7, .c (.sl 38 0 d B1.cap))]) (fun x => lay [(0, .st (cells sd [(20, 38)] a q D (setZ Z 20 B1))), (19, .ar false .i32 x.1), (22, .ar false .i16 (Z 22).xs), (38, .ar false .i16 x.2)] 39) (fun x => x.1.length = xs.length ∧ x.2.length = B1.xs.length) (WpN.vc ?_) ?_
  · conv=>whnf
    refine WpS.loop (ι := Nat × List Int × List Int) (fun x => mkSt [(0, .c (.p 0 0)), (1, .c (.sl 19 0 d cap)), (2, .c (.i .i64 0)), (7, .c (.sl 38 0 d B1.cap)), (36, .c (.i .i64 x.1))] (lay [(0, .st (cells sd [(20, 38)] a q D (setZ Z 20 B1))), (19, .ar false .i32 x.2.1), (22, .ar false .i16 (Z 22).xs), (38, .ar false .i16 x.2.2)] 39) 86) (fun x => x.1 ≤ 16 ∧ x.2.1.length = xs.length ∧ x.2.2.length = B1.xs.length) (fun x => 16 - x.1) (0, xs, bs) ⟨Nat.zero_le _, rfl, hal⟩ (Rel.layD (by repeat constructor) rfl ⟨rfl, rfl, rfl, trivial⟩ (by cases sd <;> kernel_rfl)) ?_
    clear hal
    rintro ⟨i, us, bs⟩ ⟨hi, hul, hal⟩
    dsimp only at hi hul hal ⊢
    have ei := i64_nat i (by omega)
    refine VC_ok ?_
    conv=>whnf
    refine ⟨fun hc => ?_, fun hc => ?_⟩
    rotate_left
    · conv=>whnf
      refine ⟨rfl, ?_⟩
      conv=>whnf
      exact ⟨(us, bs), ⟨hul, hal⟩, Rel.layD (by repeat constructor) rfl ⟨rfl, rfl, rfl, trivial⟩ (by cases sd <;> kernel_rfl)⟩
    replace hc := of_decide_eq_true hc
    conv=>whnf
    refine CallQ.useF [38] (f210 d B1.cap bs ⟨hd, by omega⟩) rfl rfl ⟨rfl, trivial⟩ ?_
    rintro v l' ⟨r, rfl, rfl⟩
    conv=>whnf
    refine ⟨fun hc2 => ?_, fun hc2 => ?_⟩
    · conv=>whnf
      refine ⟨rfl, ?_⟩
      conv=>whnf
      exact ⟨(us, bs), ⟨hul, hal⟩, Rel.layD (by repeat constructor) rfl ⟨rfl, rfl, rfl, trivial⟩ (by cases sd <;> kernel_rfl)⟩
    conv=>whnf
    repeat first|(refine Lt (by decide) ?_;conv=>whnf)|(refine Lf (by decide) ?_;conv=>whnf)|(refine And.intro (by first|decide|omega|(simp only [List.length_set];omega)) ?_;conv=>whnf)|(refine .inl ⟨by kernel_rfl,?_⟩;conv=>whnf)
    refine CallQ.useF [19] (f209s d cap us _ (by omega)) rfl rfl ⟨rfl, trivial⟩ ?_
    rintro v l' ⟨us', rfl, rfl, hul'⟩
    rw [hul] at hul'
    clear hul
    conv=>whnf
    refine WpS.loop (ι := Nat × List Int) (fun x => mkSt [(0, .c (.p 0 0)), (1, .c (.sl 19 0 d cap)), (2, .c (.i .i64 0)), (7, .c (.sl 38 0 d B1.cap)), (36, .c (.i .i64 i)), (48, .c (.i .i64 d)), (49, .c (.i .i64 x.1))] (lay [(0, .st (cells sd [(20, 38)] a q D (setZ Z 20 B1))), (19, .ar false .i32 us'), (22, .ar false .i16 (Z 22).xs), (38, .ar false .i16 x.2)] 39) 86) (fun x => x.1 ≤ d ∧ x.2.length = B1.xs.length) (fun x => d - x.1) (0, bs) ⟨Nat.zero_le _, hal⟩ (Rel.layD (by repeat constructor) rfl ⟨rfl, rfl, rfl, trivial⟩ (by cases sd <;> kernel_rfl)) ?_
    clear hal
    rintro ⟨j, bs⟩ ⟨hj, hl⟩
    dsimp only at hj hl ⊢
    have ej := i64_nat j (by omega)
    refine VC_ok ?_
    conv=>whnf
    refine ⟨fun hc => ?_, fun hc => ?_⟩
    · replace hc := of_decide_eq_true hc
      conv=>whnf
      repeat first|(refine Lt (by decide) ?_;conv=>whnf)|(refine Lf (by decide) ?_;conv=>whnf)|(refine And.intro (by first|decide|omega|(simp only [List.length_set];omega)) ?_;conv=>whnf)|(refine .inl ⟨by kernel_rfl,?_⟩;conv=>whnf)
      rw [ej]
      exact ⟨(j + 1, _), ⟨by dsimp only; omega, by simpa using hl⟩, by dsimp only; omega, Rel.layD (by repeat constructor) rfl ⟨rfl, rfl, rfl, trivial⟩ (by cases sd <;> kernel_rfl)⟩
    · conv=>whnf
      refine ⟨rfl, ?_⟩
      conv=>whnf
      rw [ei]
      exact ⟨(i + 1, us', bs), ⟨by dsimp only; omega, hul', hl⟩, by dsimp only; omega, Rel.layD (by repeat constructor) rfl ⟨rfl, rfl, rfl, trivial⟩ (by cases sd <;> kernel_rfl)⟩
  rintro ⟨us, bs⟩ ⟨hul, hal⟩
  dsimp only at hul hal
  refine WpN.seq (WpN.vc ?_)
  conv=>whnf
  repeat first|(refine Lt (by decide) ?_;conv=>whnf)|(refine Lf (by decide) ?_;conv=>whnf)|(refine And.intro (by first|decide|omega|(simp only [List.length_set];omega)) ?_;conv=>whnf)|(refine .inl ⟨by kernel_rfl,?_⟩;conv=>whnf)
  refine rz153 (m := 38) (j := 22) (n := (d : Int)) _ rfl rfl (fun c => rfl) (by decide) rfl (Z 22).ok (by decide) (by omega) fun B2 hB2 _ => ?_
  rw [Int.toNat_natCast] at hB2 ⊢
  have hb2 := B2.ok
  conv=>whnf
  refine WpN.vc ?_
  conv=>whnf
  refine WpS.loop (ι := Nat × List Int) (fun x => mkSt [(6, .c (.sl 39 0 d B2.cap)), (7, .c (.sl 38 0 d B1.cap)), (73, .c (.i .i64 d)), (74, .c (.i .i64 x.1))] (lay [(0, .st (cells sd [(20, 38), (22, 39)] a q D (setZ (setZ Z 20 B1) 22 B2))), (19, .ar false .i32 us), (38, .ar false .i16 bs), (39, .ar false .i16 x.2)] 40) 86) (fun x => x.1 ≤ d ∧ x.2.length = B2.xs.length) (fun x => d - x.1) (0, B2.xs) ⟨Nat.zero_le _, rfl⟩ (Rel.layD (by repeat constructor) rfl ⟨rfl, rfl, rfl, trivial⟩ (by cases sd <;> kernel_rfl)) ?_
  rintro ⟨j, cs⟩ ⟨hj, hl⟩
  dsimp only at hj hl ⊢
  have ej := i64_nat j (by omega)
  refine VC_ok ?_
  conv=>whnf
  refine ⟨fun hc => ?_, fun hc => ?_⟩
  · replace hc := of_decide_eq_true hc
    conv=>whnf
    repeat first|(refine Lt (by decide) ?_;conv=>whnf)|(refine Lf (by decide) ?_;conv=>whnf)|(refine And.intro (by first|decide|omega|(simp only [List.length_set];omega)) ?_;conv=>whnf)|(refine .inl ⟨by kernel_rfl,?_⟩;conv=>whnf)
    rw [ej]
    exact ⟨(j + 1, _), ⟨by dsimp only; omega, by simpa using hl⟩, by dsimp only; omega, Rel.layD (by repeat constructor) rfl ⟨rfl, rfl, rfl, trivial⟩ (by cases sd <;> kernel_rfl)⟩
  · conv=>whnf
    refine ⟨rfl, ?_⟩
    conv=>whnf
    exact ⟨[], .c (.sl 39 0 d B2.cap), lay [(0, .st (cells sd [(20, 38), (22, 39)] a q D (setZ (setZ Z 20 ⟨B1.cap, bs, B1.ys, by omega, B1.okb⟩) 22 ⟨B2.cap, cs, B2.ys, by omega, B2.okb⟩))), (19, .ar false .i32 us), (38, .ar false .i16 bs), (39, .ar false .i16 cs)] 40, rfl, by cases sd <;> kernel_rfl, stEq_lay (by exact stL_D rfl ⟨rfl, rfl, rfl, trivial⟩) 40 0, ⟨B1.cap, bs, B1.ys, by omega, B1.okb⟩, ⟨B2.cap, cs, B2.ys, by omega, B2.okb⟩, us, rfl, hB2, hul, rfl⟩
theorem f172_1 (sd : Bool) (a : Nat) (q : Nat × Nat) (D : Dec) (Z : Nat → Buf) (d cap : Nat) (xs : List Int) (hd : d = 10 ∨ d = 16) (hdx : d ≤ xs.length) :
    FnS 172 [.c (.p 0 0), .c (.sl 19 0 d cap), .c (.i .i64 1)] (lay [(0, .st (cells sd [] a q D Z)), (19, .ar false .i32 xs), (21, .ar false .i16 (Z 21).xs), (23, .ar false .i16 (Z 23).xs)] 38) fun v l' =>
      ∃ (B1 B2 : Buf) (us : List Int), v = .c (.sl 39 0 d B2.cap) ∧ d ≤ B2.cap ∧ us.length = xs.length ∧ l' = lay [(0, .st (cells sd [(21, 38), (23, 39)] a q D (setZ (setZ Z 21 B1) 23 B2))), (19, .ar false .i32 us), (38, .ar false .i16 B1.xs), (39, .ar false .i16 B2.xs)] 40 := by
  refine FnS.wpR (b := 38) Proofs.Tryz.f172 rfl rfl rfl rfl rfl rfl ?_
  refine WpN.seq (WpN.vc ?_)
  conv=>whnf
  refine WpN.seq (WpN.vc ?_)
  conv=>whnf
  repeat first|(refine Lt (by decide) ?_;conv=>whnf)|(refine Lf (by decide) ?_;conv=>whnf)|(refine And.intro (by first|decide|omega|(simp only [List.length_set];omega)) ?_;conv=>whnf)|(refine .inl ⟨by kernel_rfl,?_⟩;conv=>whnf)
  refine rz153 (m := 37) (j := 21) (n := (d : Int)) _ rfl rfl (fun c => rfl) (by decide) rfl (Z 21).ok (by decide) (by omega) fun B1 hB1 _ => ?_
  rw [Int.toNat_natCast] at hB1 ⊢
  have hb1 := B1.ok
  conv=>whnf
  refine WpN.cut (ι := List Int) (fun _=>[(0, .c (.p 0 0)), (1, .c (.sl 19 0 d cap)), (2, .c (.i .i64 1)), (7, .c (.sl 38 0 d B1.cap))]) (fun bs => lay [(0, .st (cells sd [(21, 38)] a q D (setZ Z 21 B1))), (19, .ar false .i32 xs), (23, .ar false .i16 (Z 23).xs), (38, .ar false .i16 bs)] 39) (fun bs => bs.length = B1.xs.length) (WpN.vc ?_) ?_
  · conv=>whnf
    refine WpS.loop (ι := Nat × List Int) (fun x => mkSt [(0, .c (.p 0 0)), (1, .c (.sl 19 0 d cap)), (2, .c (.i .i64 1)), (7, .c (.sl 38 0 d B1.cap)), (21, .c (.i .i64 d)), (22, .c (.i .i64 x.1))] (lay [(0, .st (cells sd [(21, 38)] a q D (setZ Z 21 B1))), (19, .ar false .i32 xs), (23, .ar false .i16 (Z 23).xs), (38, .ar false .i16 x.2)] 39) 86) (fun x => x.1 ≤ d ∧ x.2.length = B1.xs.length) (fun x => d - x.1) (0, B1.xs) ⟨Nat.zero_le _, rfl⟩ (Rel.layD (by repeat constructor) rfl ⟨rfl, rfl, rfl, trivial⟩ (by cases sd <;> kernel_rfl)) ?_
    rintro ⟨j, bs⟩ ⟨hj, hl⟩
    dsimp only at hj hl ⊢
    have ej := i64_nat j (by omega)
    refine VC_ok ?_
    conv=>whnf
    refine ⟨fun hc => ?_, fun hc => ?_⟩
    · replace hc := of_decide_eq_true hc
      conv=>whnf
      repeat first|(refine Lt (by decide) ?_;conv=>whnf)|(refine Lf (by decide) ?_;conv=>whnf)|(refine And.intro (by first|decide|omega|(simp only [List.length_set];omega)) ?_;conv=>whnf)|(refine .inl ⟨by kernel_rfl,?_⟩;conv=>whnf)
      rw [ej]
      exact ⟨(j + 1, _), ⟨by dsimp only; omega, by simpa using hl⟩, by dsimp only; omega, Rel.layD (by repeat constructor) rfl ⟨rfl, rfl, rfl, trivial⟩ (by cases sd <;> kernel_rfl)⟩
    · conv=>whnf
      refine ⟨rfl, ?_⟩
      conv=>whnf
      exact ⟨bs, hl, Rel.layD (by repeat constructor) rfl ⟨rfl, rfl, rfl, trivial⟩ (by cases sd <;> kernel_rfl)⟩
  intro bs hal
  refine WpN.cut (ι := List Int × List Int) (fun _=>[(0, .c (.p 0 0)), (1, .c (.sl 19 0 d cap)), (2, .c (.i .i64 1)), (7, .c (.sl 38 0 d B1.cap))]) (fun x => lay [(0, .st (cells sd [(21, 38)] a q D (setZ Z 21 B1))), (19, .ar false .i32 x.1), (23, .ar false .i16 (Z 23).xs), (38, .ar false .i16 x.2)] 39) (fun x => x.1.length = xs.length ∧ x.2.length = B1.xs.length) (WpN.vc ?_) ?_
  · conv=>whnf
    refine WpS.loop (ι := Nat × List Int × List Int) (fun x => mkSt [(0, .c (.p 0 0)), (1, .c (.sl 19 0 d cap)), (2, .c (.i .i64 1)), (7, .c (.sl 38 0 d B1.cap)), (36, .c (.i .i64 x.1))] (lay [(0, .st (cells sd [(21, 38)] a q D (setZ Z 21 B1))), (19, .ar false .i32 x.2.1), (23, .ar false .i16 (Z 23).xs), (38, .ar false .i16 x.2.2)] 39) 86) (fun x => x.1 ≤ 16 ∧ x.2.1.length = xs.length ∧ x.2.2.length = B1.xs.length) (fun x => 16 - x.1) (0, xs, bs) ⟨Nat.zero_le _, rfl, hal⟩ (Rel.layD (by repeat constructor) rfl ⟨rfl, rfl, rfl, trivial⟩ (by cases sd <;> kernel_rfl)) ?_
    clear hal
    rintro ⟨i, us, bs⟩ ⟨hi, hul, hal⟩
    dsimp only at hi hul hal ⊢
    have ei := i64_nat i (by omega)
    refine VC_ok ?_
    conv=>whnf
    refine ⟨fun hc => ?_, fun hc => ?_⟩
    rotate_left
    · conv=>whnf
      refine ⟨rfl, ?_⟩
      conv=>whnf
      exact ⟨(us, bs), ⟨hul, hal⟩, Rel.layD (by repeat constructor) rfl ⟨rfl, rfl, rfl, trivial⟩ (by cases sd <;> kernel_rfl)⟩
    replace hc := of_decide_eq_true hc
    conv=>whnf
    refine CallQ.useF [38] (f210 d B1.cap bs ⟨hd, by omega⟩) rfl rfl ⟨rfl, trivial⟩ ?_
    rintro v l' ⟨r, rfl, rfl⟩
    conv=>whnf
    refine ⟨fun hc2 => ?_, fun hc2 => ?_⟩
    · conv=>whnf
      refine ⟨rfl, ?_⟩
      conv=>whnf
      exact ⟨(us, bs), ⟨hul, hal⟩, Rel.layD (by repeat constructor) rfl ⟨rfl, rfl, rfl, trivial⟩ (by cases sd <;> kernel_rfl)⟩
    conv=>whnf
    repeat first|(refine Lt (by decide) ?_;conv=>whnf)|(refine Lf (by decide) ?_;conv=>whnf)|(refine And.intro (by first|decide|omega|(simp only [List.length_set];omega)) ?_;conv=>whnf)|(refine .inl ⟨by kernel_rfl,?_⟩;conv=>whnf)
    refine CallQ.useF [19] (f209s d cap us _ (by omega)) rfl rfl ⟨rfl, trivial⟩ ?_
    rintro v l' ⟨us', rfl, rfl, hul'⟩
    rw [hul] at hul'
    clear hul
    conv=>whnf
    refine WpS.loop (ι := Nat × List Int) (fun x => mkSt [(0, .c (.p 0 0)), (1, .c (.sl 19 0 d cap)), (2, .c (.i .i64 1)), (7, .c (.sl 38 0 d B1.cap)), (36, .c (.i .i64 i)), (48, .c (.i .i64 d)), (49, .c (.i .i64 x.1))] (lay [(0, .st (cells sd [(21, 38)] a q D (setZ Z 21 B1))), (19, .ar false .i32 us'), (23, .ar false .i16 (Z 23).xs), (38, .ar false .i16 x.2)] 39) 86) (fun x => x.1 ≤ d ∧ x.2.length = B1.xs.length) (fun x => d - x.1) (0, bs) ⟨Nat.zero_le _, hal⟩ (Rel.layD (by repeat constructor) rfl ⟨rfl, rfl, rfl, trivial⟩ (by cases sd <;> kernel_rfl)) ?_
    clear hal
    rintro ⟨j, bs⟩ ⟨hj, hl⟩
    dsimp only at hj hl ⊢
    have ej := i64_nat j (by omega)
    refine VC_ok ?_
    conv=>whnf
    refine ⟨fun hc => ?_, fun hc => ?_⟩
    · replace hc := of_decide_eq_true hc
      conv=>whnf
      repeat first|(refine Lt (by decide) ?_;conv=>whnf)|(refine Lf (by decide) ?_;conv=>whnf)|(refine And.intro (by first|decide|omega|(simp only [List.length_set];omega)) ?_;conv=>whnf)|(refine .inl ⟨by kernel_rfl,?_⟩;conv=>whnf)
      rw [ej]
      exact ⟨(j + 1, _), ⟨by dsimp only; omega, by simpa using hl⟩, by dsimp only; omega, Rel.layD (by repeat constructor) rfl ⟨rfl, rfl, rfl, trivial⟩ (by cases sd <;> kernel_rfl)⟩
    · conv=>whnf
      refine ⟨rfl, ?_⟩
      conv=>whnf
      rw [ei]
      exact ⟨(i + 1, us', bs), ⟨by dsimp only; omega, hul', hl⟩, by dsimp only; omega, Rel.layD (by repeat constructor) rfl ⟨rfl, rfl, rfl, trivial⟩ (by cases sd <;> kernel_rfl)⟩
  rintro ⟨us, bs⟩ ⟨hul, hal⟩
  dsimp only at hul hal
  refine WpN.seq (WpN.vc ?_)
  conv=>whnf
  repeat first|(refine Lt (by decide) ?_;conv=>whnf)|(refine Lf (by decide) ?_;conv=>whnf)|(refine And.intro (by first|decide|omega|(simp only [List.length_set];omega)) ?_;conv=>whnf)|(refine .inl ⟨by kernel_rfl,?_⟩;conv=>whnf)
  refine rz153 (m := 38) (j := 23) (n := (d : Int)) _ rfl rfl (fun c => rfl) (by decide) rfl (Z 23).ok (by decide) (by omega) fun B2 hB2 _ => ?_
  rw [Int.toNat_natCast] at hB2 ⊢
  have hb2 := B2.ok
  conv=>whnf
  refine WpN.vc ?_
  conv=>whnf
  refine WpS.loop (ι := Nat × List Int) (fun x => mkSt [(6, .c (.sl 39 0 d B2.cap)), (7, .c (.sl 38 0 d B1.cap)), (73, .c (.i .i64 d)), (74, .c (.i .i64 x.1))] (lay [(0, .st (cells sd [(21, 38), (23, 39)] a q D (setZ (setZ Z 21 B1) 23 B2))), (19, .ar false .i32 us), (38, .ar false .i16 bs), (39, .ar false .i16 x.2)] 40) 86) (fun x => x.1 ≤ d ∧ x.2.length = B2.xs.length) (fun x => d - x.1) (0, B2.xs) ⟨Nat.zero_le _, rfl⟩ (Rel.layD (by repeat constructor) rfl ⟨rfl, rfl, rfl, trivial⟩ (by cases sd <;> kernel_rfl)) ?_
  rintro ⟨j, cs⟩ ⟨hj, hl⟩
  dsimp only at hj hl ⊢
  have ej := i64_nat j (by omega)
  refine VC_ok ?_
  conv=>whnf
  refine ⟨fun hc => ?_, fun hc => ?_⟩
  · replace hc := of_decide_eq_true hc
    conv=>whnf
    repeat first|(refine Lt (by decide) ?_;conv=>whnf)|(refine Lf (by decide) ?_;conv=>whnf)|(refine And.intro (by first|decide|omega|(simp only [List.length_set];omega)) ?_;conv=>whnf)|(refine .inl ⟨by kernel_rfl,?_⟩;conv=>whnf)
    rw [ej]
    exact ⟨(j + 1, _), ⟨by dsimp only; omega, by simpa using hl⟩, by dsimp only; omega, Rel.layD (by repeat constructor) rfl ⟨rfl, rfl, rfl, trivial⟩ (by cases sd <;> kernel_rfl)⟩
  · conv=>whnf
    refine ⟨rfl, ?_⟩
    conv=>whnf
    exact ⟨[], .c (.sl 39 0 d B2.cap), lay [(0, .st (cells sd [(21, 38), (23, 39)] a q D (setZ (setZ Z 21 ⟨B1.cap, bs, B1.ys, by omega, B1.okb⟩) 23 ⟨B2.cap, cs, B2.ys, by omega, B2.okb⟩))), (19, .ar false .i32 us), (38, .ar false .i16 bs), (39, .ar false .i16 cs)] 40, rfl, by cases sd <;> kernel_rfl, stEq_lay (by exact stL_D rfl ⟨rfl, rfl, rfl, trivial⟩) 40 0, ⟨B1.cap, bs, B1.ys, by omega, B1.okb⟩, ⟨B2.cap, cs, B2.ys, by omega, B2.okb⟩, us, rfl, hB2, hul, rfl⟩
theorem f113_15_0 (sd : Bool) (a : Nat) (q : Nat × Nat) (D : Dec) (Z : Nat → Buf) (d cap l0 k0 l1 k1 : Nat) (xs : List Int) (bw : Int) (hd : (d = 10 ∧ bw ≠ 3) ∨ (d = 16 ∧ bw = 3)) (hdx : d ≤ xs.length) (hx : Nn d xs) :
    FnS 113 [.c (.p 0 0), .c (.sl 15 0 d cap), .c (.i .u8 bw), .c (.sl 24 0 0 2)] (lay [(0, .st (cells sd [] a q D Z)), (15, .ar false .i16 xs), (16, .ar false .i32 (Z 16).xs), (17, .ar false .i32 (Z 17).xs), (18, .ar false .i32 (Z 18).xs), (19, .ar false .i32 (Z 19).xs), (20, .ar false .i16 (Z 20).xs), (22, .ar false .i16 (Z 22).xs), (24, .st [.any, .any])] 38) fun v l' =>
      ∃ B1 B2 B3 B4 B5 B6 : Buf, v = .c (.sl 24 0 1 2) ∧ d ≤ B6.cap ∧ l' = lay [(0, .st (cells sd [(16, 38), (17, 39), (18, 40), (19, 41), (20, 42), (22, 43)] a q D (setZ (setZ (setZ (setZ (setZ (setZ Z 16 B1) 17 B2) 18 B3) 19 B4) 20 B5) 22 B6))), (15, .ar false .i16 xs), (38, .ar false .i32 B1.xs), (39, .ar false .i32 B2.xs), (40, .ar false .i32 B3.xs), (41, .ar false .i32 B4.xs), (42, .ar false .i16 B5.xs), (43, .ar false .i16 B6.xs), (24, .st [.sl 43 0 d B6.cap, .any])] 44 := by
  have hd16 : (d = 10 ∨ d = 16) := by omega
  refine FnS.wpR (b := 38) Proofs.Tryz.f113 rfl rfl rfl rfl rfl rfl ?_
  refine WpN.seq (WpN.vc ?_)
  conv=>whnf
  refine WpN.seq (WpN.vc ?_)
  conv=>whnf
  refine ⟨by omega, ?_⟩
  conv=>whnf
  refine ⟨fun h => absurd h (by decide), fun _=>?_⟩
  conv=>whnf
  refine WpN.seq (WpN.vc ?_)
  conv=>whnf
  refine CallQ.useF [0, 1, 2, 3, 4, 5, 6, 7, 8, 9, 10, 11, 12, 13, 14, 15, 16, 17, 18, 19, 20, 21, 22, 23, 24, 25, 26, 27, 28, 29, 30, 31, 32, 33, 34, 35, 36, 37] (f170 sd a q D Z 15 d cap xs bw (by omega) hd hdx hx) rfl (by cases sd <;> kernel_rfl) (stEq_lay (by cases sd <;> repeat constructor) 38 0) ?_
  rintro v l' ⟨B1, B2, B3, B4, rfl, hB4, rfl⟩
  have hb4 := B4.ok
  conv=>whnf
  refine WpN.seq (WpN.vc ?_)
  conv=>whnf
  refine CallQ.useF [0, 41] (f171 d B4.cap B4.xs (by omega)) rfl rfl ⟨rfl, trivial⟩ ?_
  rintro v l' ⟨ys, rfl, rfl, hys⟩
  conv=>whnf
  refine WpN.seq (WpN.vc ?_)
  conv=>whnf
  refine CallQ.useF [0, 1, 2, 3, 4, 5, 6, 7, 8, 9, 10, 11, 12, 13, 14, 15, 38, 39, 40, 41, 20, 21, 22, 23, 24, 25, 26, 27, 28, 29, 30, 31, 32, 33, 34, 35, 36, 37] (f172_0 sd a q D (setZ (setZ (setZ (setZ Z 16 B1) 17 B2) 18 B3) 19 B4) d B4.cap ys hd16 (by omega)) rfl (by cases sd <;> kernel_rfl) (stEq_lay (by cases sd <;> repeat constructor) 38 0) ?_
  rintro v l' ⟨B5, B6, us, rfl, hB6, hus, rfl⟩
  conv=>whnf
  refine OpQ.mk (.c (.sl 24 0 1 2)) _ _ (fun o ho => OpX.of_appS (nm := 24) (off := 0) (len := 0) (cap := 2) (nm2 := 44) (cap2 := 1) (cs := [.any, .any]) (c := .sl 43 0 d B6.cap) (el := 55) ho (by rfl) (by rfl) rfl rfl (by rfl) (by rfl) rfl (by decide) (by show _ < 2; decide)) ?_
  conv=>whnf
  refine WpN.vc ?_
  conv=>whnf
  exact ⟨[], .c (.sl 24 0 1 2), lay [(0, .st (cells sd [(16, 38), (17, 39), (18, 40), (19, 41), (20, 42), (22, 43)] a q D (setZ (setZ (setZ (setZ (setZ (setZ Z 16 B1) 17 B2) 18 B3) 19 ⟨B4.cap, us, B4.ys, by omega, B4.okb⟩) 20 B5) 22 B6))), (15, .ar false .i16 xs), (38, .ar false .i32 B1.xs), (39, .ar false .i32 B2.xs), (40, .ar false .i32 B3.xs), (41, .ar false .i32 us), (42, .ar false .i16 B5.xs), (43, .ar false .i16 B6.xs), (24, .st [.sl 43 0 d B6.cap, .any])] 44, rfl, by cases sd <;> kernel_rfl, stEq_lay (by cases sd <;> repeat constructor) 44 0, B1, B2, B3, ⟨B4.cap, us, B4.ys, by omega, B4.okb⟩, B5, B6, rfl, hB6, rfl⟩
theorem f113_12_0 (sd : Bool) (a : Nat) (q : Nat × Nat) (D : Dec) (Z : Nat → Buf) (d cap l0 k0 l1 k1 : Nat) (xs : List Int) (bw : Int) (hd : (d = 10 ∧ bw ≠ 3) ∨ (d = 16 ∧ bw = 3)) (hdx : d ≤ xs.length) (hx : Nn d xs) :
    FnS 113 [.c (.p 0 0), .c (.sl 12 0 d cap), .c (.i .u8 bw), .c (.sl 24 0 0 2)] (lay [(0, .st (cells sd [] a q D Z)), (12, .ar false .i16 xs), (16, .ar false .i32 (Z 16).xs), (17, .ar false .i32 (Z 17).xs), (18, .ar false .i32 (Z 18).xs), (19, .ar false .i32 (Z 19).xs), (20, .ar false .i16 (Z 20).xs), (22, .ar false .i16 (Z 22).xs), (24, .st [.any, .any])] 38) fun v l' =>
      ∃ B1 B2 B3 B4 B5 B6 : Buf, v = .c (.sl 24 0 1 2) ∧ d ≤ B6.cap ∧ l' = lay [(0, .st (cells sd [(16, 38), (17, 39), (18, 40), (19, 41), (20, 42), (22, 43)] a q D (setZ (setZ (setZ (setZ (setZ (setZ Z 16 B1) 17 B2) 18 B3) 19 B4) 20 B5) 22 B6))), (12, .ar false .i16 xs), (38, .ar false .i32 B1.xs), (39, .ar false .i32 B2.xs), (40, .ar false .i32 B3.xs), (41, .ar false .i32 B4.xs), (42, .ar false .i16 B5.xs), (43, .ar false .i16 B6.xs), (24, .st [.sl 43 0 d B6.cap, .any])] 44 := by
  have hd16 : (d = 10 ∨ d = 16) := by omega
  refine FnS.wpR (b := 38) Proofs.Tryz.f113 rfl rfl rfl rfl rfl rfl ?_
  refine WpN.seq (WpN.vc ?_)
  conv=>whnf
  refine WpN.seq (WpN.vc ?_)
  conv=>whnf
  refine ⟨by omega, ?_⟩
  conv=>whnf
  refine ⟨fun h => absurd h (by decide), fun _=>?_⟩
  conv=>whnf
  refine WpN.seq (WpN.vc ?_)
  conv=>whnf
  refine CallQ.useF [0, 1, 2, 3, 4, 5, 6, 7, 8, 9, 10, 11, 12, 13, 14, 15, 16, 17, 18, 19, 20, 21, 22, 23, 24, 25, 26, 27, 28, 29, 30, 31, 32, 33, 34, 35, 36, 37] (f170 sd a q D Z 12 d cap xs bw (by omega) hd hdx hx) rfl (by cases sd <;> kernel_rfl) (stEq_lay (by cases sd <;> repeat constructor) 38 0) ?_
  rintro v l' ⟨B1, B2, B3, B4, rfl, hB4, rfl⟩
  have hb4 := B4.ok
  conv=>whnf
  refine WpN.seq (WpN.vc ?_)
  conv=>whnf
  refine CallQ.useF [0, 41] (f171 d B4.cap B4.xs (by omega)) rfl rfl ⟨rfl, trivial⟩ ?_
  rintro v l' ⟨ys, rfl, rfl, hys⟩
  conv=>whnf
  refine WpN.seq (WpN.vc ?_)
  conv=>whnf
  refine CallQ.useF [0, 1, 2, 3, 4, 5, 6, 7, 8, 9, 10, 11, 12, 13, 14, 15, 38, 39, 40, 41, 20, 21, 22, 23, 24, 25, 26, 27, 28, 29, 30, 31, 32, 33, 34, 35, 36, 37] (f172_0 sd a q D (setZ (setZ (setZ (setZ Z 16 B1) 17 B2) 18 B3) 19 B4) d B4.cap ys hd16 (by omega)) rfl (by cases sd <;> kernel_rfl) (stEq_lay (by cases sd <;> repeat constructor) 38 0) ?_
  rintro v l' ⟨B5, B6, us, rfl, hB6, hus, rfl⟩
  conv=>whnf
  refine OpQ.mk (.c (.sl 24 0 1 2)) _ _ (fun o ho => OpX.of_appS (nm := 24) (off := 0) (len := 0) (cap := 2) (nm2 := 44) (cap2 := 1) (cs := [.any, .any]) (c := .sl 43 0 d B6.cap) (el := 55) ho (by rfl) (by rfl) rfl rfl (by rfl) (by rfl) rfl (by decide) (by show _ < 2; decide)) ?_
  conv=>whnf
  refine WpN.vc ?_
  conv=>whnf
  exact ⟨[], .c (.sl 24 0 1 2), lay [(0, .st (cells sd [(16, 38), (17, 39), (18, 40), (19, 41), (20, 42), (22, 43)] a q D (setZ (setZ (setZ (setZ (setZ (setZ Z 16 B1) 17 B2) 18 B3) 19 ⟨B4.cap, us, B4.ys, by omega, B4.okb⟩) 20 B5) 22 B6))), (12, .ar false .i16 xs), (38, .ar false .i32 B1.xs), (39, .ar false .i32 B2.xs), (40, .ar false .i32 B3.xs), (41, .ar false .i32 us), (42, .ar false .i16 B5.xs), (43, .ar false .i16 B6.xs), (24, .st [.sl 43 0 d B6.cap, .any])] 44, rfl, by cases sd <;> kernel_rfl, stEq_lay (by cases sd <;> repeat constructor) 44 0, B1, B2, B3, ⟨B4.cap, us, B4.ys, by omega, B4.okb⟩, B5, B6, rfl, hB6, rfl⟩
theorem f113_12_1 (sd : Bool) (a : Nat) (q : Nat × Nat) (D : Dec) (Z : Nat → Buf) (d cap l0 k0 l1 k1 : Nat) (xs : List Int) (bw : Int) (hd : (d = 10 ∧ bw ≠ 3) ∨ (d = 16 ∧ bw = 3)) (hdx : d ≤ xs.length) (hx : Nn d xs) :
    FnS 113 [.c (.p 0 0), .c (.sl 12 0 d cap), .c (.i .u8 bw), .c (.sl 24 0 1 2)] (lay [(0, .st (cells sd [] a q D Z)), (12, .ar false .i16 xs), (16, .ar false .i32 (Z 16).xs), (17, .ar false .i32 (Z 17).xs), (18, .ar false .i32 (Z 18).xs), (19, .ar false .i32 (Z 19).xs), (21, .ar false .i16 (Z 21).xs), (23, .ar false .i16 (Z 23).xs), (24, .st [.sl 22 0 l0 k0, .any])] 38) fun v l' =>
      ∃ B1 B2 B3 B4 B5 B6 : Buf, v = .c (.sl 24 0 2 2) ∧ d ≤ B6.cap ∧ l' = lay [(0, .st (cells sd [(16, 38), (17, 39), (18, 40), (19, 41), (21, 42), (23, 43)] a q D (setZ (setZ (setZ (setZ (setZ (setZ Z 16 B1) 17 B2) 18 B3) 19 B4) 21 B5) 23 B6))), (12, .ar false .i16 xs), (38, .ar false .i32 B1.xs), (39, .ar false .i32 B2.xs), (40, .ar false .i32 B3.xs), (41, .ar false .i32 B4.xs), (42, .ar false .i16 B5.xs), (43, .ar false .i16 B6.xs), (24, .st [.sl 22 0 l0 k0, .sl 43 0 d B6.cap])] 44 := by
  have hd16 : (d = 10 ∨ d = 16) := by omega
  refine FnS.wpR (b := 38) Proofs.Tryz.f113 rfl rfl rfl rfl rfl rfl ?_
  refine WpN.seq (WpN.vc ?_)
  conv=>whnf
  refine WpN.seq (WpN.vc ?_)
  conv=>whnf
  refine ⟨by omega, ?_⟩
  conv=>whnf
  refine ⟨fun h => absurd h (by decide), fun _=>?_⟩
  conv=>whnf
  refine WpN.seq (WpN.vc ?_)
  conv=>whnf
  refine CallQ.useF [0, 1, 2, 3, 4, 5, 6, 7, 8, 9, 10, 11, 12, 13, 14, 15, 16, 17, 18, 19, 20, 21, 22, 23, 24, 25, 26, 27, 28, 29, 30, 31, 32, 33, 34, 35, 36, 37] (f170 sd a q D Z 12 d cap xs bw (by omega) hd hdx hx) rfl (by cases sd <;> kernel_rfl) (stEq_lay (by cases sd <;> repeat constructor) 38 0) ?_
  rintro v l' ⟨B1, B2, B3, B4, rfl, hB4, rfl⟩
  have hb4 := B4.ok
  conv=>whnf
  refine WpN.seq (WpN.vc ?_)
  conv=>whnf
  refine CallQ.useF [0, 41] (f171 d B4.cap B4.xs (by omega)) rfl rfl ⟨rfl, trivial⟩ ?_
  rintro v l' ⟨ys, rfl, rfl, hys⟩
  conv=>whnf
  refine WpN.seq (WpN.vc ?_)
  conv=>whnf
  refine CallQ.useF [0, 1, 2, 3, 4, 5, 6, 7, 8, 9, 10, 11, 12, 13, 14, 15, 38, 39, 40, 41, 20, 21, 22, 23, 24, 25, 26, 27, 28, 29, 30, 31, 32, 33, 34, 35, 36, 37] (f172_1 sd a q D (setZ (setZ (setZ (setZ Z 16 B1) 17 B2) 18 B3) 19 B4) d B4.cap ys hd16 (by omega)) rfl (by cases sd <;> kernel_rfl) (stEq_lay (by cases sd <;> repeat constructor) 38 0) ?_
  rintro v l' ⟨B5, B6, us, rfl, hB6, hus, rfl⟩
  conv=>whnf
  refine OpQ.mk (.c (.sl 24 0 2 2)) _ _ (fun o ho => OpX.of_appS (nm := 24) (off := 0) (len := 1) (cap := 2) (nm2 := 44) (cap2 := 1) (cs := [.sl 22 0 l0 k0, .any]) (c := .sl 43 0 d B6.cap) (el := 55) ho (by rfl) (by rfl) rfl rfl (by rfl) (by rfl) rfl (by decide) (by show _ < 2; decide)) ?_
  conv=>whnf
  refine WpN.vc ?_
  conv=>whnf
  exact ⟨[], .c (.sl 24 0 2 2), lay [(0, .st (cells sd [(16, 38), (17, 39), (18, 40), (19, 41), (21, 42), (23, 43)] a q D (setZ (setZ (setZ (setZ (setZ (setZ Z 16 B1) 17 B2) 18 B3) 19 ⟨B4.cap, us, B4.ys, by omega, B4.okb⟩) 21 B5) 23 B6))), (12, .ar false .i16 xs), (38, .ar false .i32 B1.xs), (39, .ar false .i32 B2.xs), (40, .ar false .i32 B3.xs), (41, .ar false .i32 us), (42, .ar false .i16 B5.xs), (43, .ar false .i16 B6.xs), (24, .st [.sl 22 0 l0 k0, .sl 43 0 d B6.cap])] 44, rfl, by cases sd <;> kernel_rfl, stEq_lay (by cases sd <;> repeat constructor) 44 0, B1, B2, B3, ⟨B4.cap, us, B4.ys, by omega, B4.okb⟩, B5, B6, rfl, hB6, rfl⟩
theorem f113_nil (bw : Int) : FnS 113 [.c (.p 0 0), .c .nsl, .c (.i .u8 bw), .c (.sl 24 0 0 2)] (lay [] 38) fun v l' => v = .c (.sl 24 0 0 2) ∧ l' = lay [] 38 := by
  refine FnS.wpR (b := 38) Proofs.Tryz.f113 rfl rfl rfl rfl rfl rfl ?_
  refine WpN.vc ?_
  conv=>whnf
  repeat' first|(refine Lt (by decide) ?_;conv=>whnf)|(refine Lf (by decide) ?_;conv=>whnf)|fail
  exact ⟨[], .c (.sl 24 0 0 2), lay [] 38, rfl, by kernel_rfl, stEq_lay (by trivial) 38 0, rfl, rfl⟩
theorem mid94_0 {Q : Exit → (Nat → Option V) → (Nat → Option B) → Nat → Prop} (sd : Bool) (a c : Nat) (D : Dec) (Z : Nat → Buf) (l0 k0 l1 k1 : Nat) (s : Nat → Nat × Nat × Nat) (recs : List (List C)) (va first skip : Bool) (ns bw kind off w : Int) (n d I1 : Nat)
    (Z0 : Nat → Buf) (hd : (bw = 3 ∧ d = 16) ∨ ((bw = 1 ∨ bw = 2) ∧ d = 10)) (hD : D.Ok) (hF : Fl Z Z0) (h9 : n ≤ (Z 9).cap) (hG : Gn n (Z 9).xs) (h11 : d ≤ (Z 11).cap) (h12 : d ≤ (Z 12).cap) (hL : LsfOk d (Z 12).xs)
    (TT : ∀ (D : Dec) (Z : Nat → Buf), D.Ok → Fl Z Z0 → n ≤ (Z 9).cap → Gn n (Z 9).xs → d ≤ (Z 11).cap → d ≤ (Z 12).cap → LsfOk d (Z 12).xs → d ≤ (Z 22).cap → WpN 38 193 (tl94 14) (mkE (eA va ns bw first skip n kind off (.sl 39 0 n (Z 9).cap) I1 d (.sl 41 0 d (Z 11).cap) (.sl 42 0 d (Z 12).cap) .nsl w [(23, .c (.sl 24 0 1 2))])) (mkS (lay (dlu sd [(9, 39), (10, 40), (11, 41), (12, 42), (13, 43), (14, 44), (16, 45), (17, 46), (18, 47), (19, 48), (20, 49), (22, 50), (28, 38)] 1 (c, c) D Z (.st [.sl 50 0 d (Z 22).cap, .any]) (.un c) 30 recs 1 2 3 4 39 40 41 42 43 44 15 45 46 47 48 49 21 50 23 25 26 27 38) 51)) 51 Q) :
    WpN 38 193 (tl94 10) (mkE (eA va ns bw first skip n kind off (.sl 39 0 n (Z 9).cap) I1 d (.sl 41 0 d (Z 11).cap) (.sl 42 0 d (Z 12).cap) .nsl w [])) (mkS (lay (dlu sd [(9, 39), (10, 40), (11, 41), (12, 42), (13, 43), (14, 44), (28, 38)] a (c, c) D Z (.st [.any, .any]) (.un c) 30 recs 1 2 3 4 39 40 41 42 43 44 15 16 17 18 19 20 21 22 23 25 26 27 38) 45)) 45 Q := by
  have hd2 : (d = 10 ∧ bw ≠ 3) ∨ (d = 16 ∧ bw = 3) := by omega
  have hz12 := (Z 12).ok
  have hN : Nn d (Z 12).xs := fun i hi => by have := hL.1 i hi; omega
  refine WpN.seq (WpN.vc ?_)
  conv=>whnf
  refine And.intro (by decide) ?_
  conv=>whnf
  refine WpN.seq (WpN.vc ?_)
  conv=>whnf
  refine CallQ.useF [0, 1, 2, 3, 4, 5, 6, 7, 8, 39, 40, 41, 42, 43, 44, 15, 16, 17, 18, 19, 20, 21, 22, 23, 24, 25, 26, 27, 38, 29, 30, 31, 32, 33, 34, 35, 36, 37] (f113_nil bw) rfl (by kernel_rfl) (stEq_lay (by trivial) 38 0) ?_
  rintro v l' ⟨rfl, rfl⟩
  conv=>whnf
  refine WpN.cut (ι := Dec × (Nat → Buf)) (fun x => (eA va ns bw first skip n kind off (.sl 39 0 n (x.2 9).cap) I1 d (.sl 41 0 d (x.2 11).cap) (.sl 42 0 d (x.2 12).cap) .nsl w [(23, .c (.sl 24 0 1 2))])) (fun x => lay (dlu sd [(9, 39), (10, 40), (11, 41), (12, 42), (13, 43), (14, 44), (16, 45), (17, 46), (18, 47), (19, 48), (20, 49), (22, 50), (28, 38)] a (c, c) x.1 x.2 (.st [.sl 50 0 d (x.2 22).cap, .any]) (.un c) 30 recs 1 2 3 4 39 40 41 42 43 44 15 45 46 47 48 49 21 50 23 25 26 27 38) 51) (fun x => x.1.Ok ∧ Fl x.2 Z0 ∧ n ≤ (x.2 9).cap ∧ Gn n (x.2 9).xs ∧ d ≤ (x.2 11).cap ∧ d ≤ (x.2 12).cap ∧ LsfOk d (x.2 12).xs ∧ d ≤ (x.2 22).cap) (WpN.vc ?_) ?_
  · conv=>whnf
    refine CallQ.useF [0, 1, 2, 3, 4, 5, 6, 7, 8, 39, 40, 41, 42, 43, 44, 15, 16, 17, 18, 19, 20, 21, 22, 23, 24, 25, 26, 27, 38, 29, 30, 31, 32, 33, 34, 35, 36, 37] (f113_12_0 sd a (c, c) D Z d (Z 12).cap l0 k0 l1 k1 (Z 12).xs bw hd2 (by omega) hN) rfl (by cases sd <;> kernel_rfl) (stEq_lay (by cases sd <;> repeat constructor) 38 0) ?_
    rintro v l' ⟨B1, B2, B3, B4, B5, B6, rfl, hB6, rfl⟩
    conv=>whnf
    exact ⟨(D, (setZ (setZ (setZ (setZ (setZ (setZ Z 16 B1) 17 B2) 18 B3) 19 B4) 20 B5) 22 B6)), ⟨hD, hF, h9, hG, h11, h12, hL, hB6⟩, Rel.lay [] (by cases sd <;> kernel_rfl) (by repeat constructor) (by cases sd <;> repeat constructor)⟩
  clear hz12 hN hD hF h9 hG h11 h12 hL D Z
  rintro ⟨D, Z⟩ ⟨hD, hF, h9, hG, h11, h12, hL, hf⟩
  dsimp only at hD hF h9 hG h11 h12 hL hf ⊢
  refine WpN.seq (WpN.vc ?_)
  conv=>whnf
  refine WpN.weaken (s := mkSt (eA va ns bw first skip n kind off (.sl 39 0 n (Z 9).cap) I1 d (.sl 41 0 d (Z 11).cap) (.sl 42 0 d (Z 12).cap) .nsl w [(23, .c (.sl 24 0 1 2))]) (lay (dlu sd [(9, 39), (10, 40), (11, 41), (12, 42), (13, 43), (14, 44), (16, 45), (17, 46), (18, 47), (19, 48), (20, 49), (22, 50), (28, 38)] 1 (c, c) D Z (.st [.sl 50 0 d (Z 22).cap, .any]) (.un c) 30 recs 1 2 3 4 39 40 41 42 43 44 15 45 46 47 48 49 21 50 23 25 26 27 38) 51) 193) (Rel.lay [] (by cases sd <;> kernel_rfl) (by repeat constructor) (by cases sd <;> repeat constructor)) rfl ?_
  exact TT D Z hD hF h9 hG h11 h12 hL hf
theorem mid94_1 {Q : Exit → (Nat → Option V) → (Nat → Option B) → Nat → Prop} (sd : Bool) (a c : Nat) (D : Dec) (Z : Nat → Buf) (l0 k0 l1 k1 : Nat) (s : Nat → Nat × Nat × Nat) (recs : List (List C)) (va first skip : Bool) (ns bw kind off w : Int) (n d I1 : Nat)
    (Z0 : Nat → Buf) (hd : (bw = 3 ∧ d = 16) ∨ ((bw = 1 ∨ bw = 2) ∧ d = 10)) (hD : D.Ok) (hF : Fl Z Z0) (h9 : n ≤ (Z 9).cap) (hG : Gn n (Z 9).xs) (h11 : d ≤ (Z 11).cap) (h12 : d ≤ (Z 12).cap) (hL : LsfOk d (Z 12).xs) (h15 : d ≤ (Z 15).cap) (hN15 : Nn d (Z 15).xs)
    (TT : ∀ (D : Dec) (Z : Nat → Buf), D.Ok → Fl Z Z0 → n ≤ (Z 9).cap → Gn n (Z 9).xs → d ≤ (Z 11).cap → d ≤ (Z 12).cap → LsfOk d (Z 12).xs → d ≤ (Z 15).cap → Nn d (Z 15).xs → d ≤ (Z 22).cap → d ≤ (Z 23).cap → WpN 38 193 (tl94 14) (mkE (eA va ns bw first skip n kind off (.sl 39 0 n (Z 9).cap) I1 d (.sl 41 0 d (Z 11).cap) (.sl 42 0 d (Z 12).cap) (.sl 45 0 d (Z 15).cap) w [(23, .c (.sl 24 0 2 2))])) (mkS (lay (dlu sd [(9, 39), (10, 40), (11, 41), (12, 42), (13, 43), (14, 44), (15, 45), (16, 52), (17, 53), (18, 54), (19, 55), (20, 50), (21, 56), (22, 51), (23, 57), (28, 38)] 2 (c, c) D Z (.st [.sl 51 0 d (Z 22).cap, .sl 57 0 d (Z 23).cap]) (.un c) 30 recs 1 2 3 4 39 40 41 42 43 44 45 52 53 54 55 50 56 51 57 25 26 27 38) 58)) 58 Q) :
    WpN 38 193 (tl94 10) (mkE (eA va ns bw first skip n kind off (.sl 39 0 n (Z 9).cap) I1 d (.sl 41 0 d (Z 11).cap) (.sl 42 0 d (Z 12).cap) (.sl 45 0 d (Z 15).cap) w [])) (mkS (lay (dlu sd [(9, 39), (10, 40), (11, 41), (12, 42), (13, 43), (14, 44), (15, 45), (28, 38)] a (c, c) D Z (.st [.any, .any]) (.un c) 30 recs 1 2 3 4 39 40 41 42 43 44 45 16 17 18 19 20 21 22 23 25 26 27 38) 46)) 46 Q := by
  have hd2 : (d = 10 ∧ bw ≠ 3) ∨ (d = 16 ∧ bw = 3) := by omega
  have hz12 := (Z 12).ok
  have hz15 := (Z 15).ok
  have hN : Nn d (Z 12).xs := fun i hi => by have := hL.1 i hi; omega
  refine WpN.seq (WpN.vc ?_)
  conv=>whnf
  refine And.intro (by decide) ?_
  conv=>whnf
  refine WpN.cut (ι := Dec × (Nat → Buf)) (fun x => (eA va ns bw first skip n kind off (.sl 39 0 n (x.2 9).cap) I1 d (.sl 41 0 d (x.2 11).cap) (.sl 42 0 d (x.2 12).cap) (.sl 45 0 d (x.2 15).cap) w [(23, .c (.sl 24 0 1 2))])) (fun x => lay (dlu sd [(9, 39), (10, 40), (11, 41), (12, 42), (13, 43), (14, 44), (15, 45), (16, 46), (17, 47), (18, 48), (19, 49), (20, 50), (22, 51), (28, 38)] a (c, c) x.1 x.2 (.st [.sl 51 0 d (x.2 22).cap, .any]) (.un c) 30 recs 1 2 3 4 39 40 41 42 43 44 45 46 47 48 49 50 21 51 23 25 26 27 38) 52) (fun x => x.1.Ok ∧ Fl x.2 Z0 ∧ n ≤ (x.2 9).cap ∧ Gn n (x.2 9).xs ∧ d ≤ (x.2 11).cap ∧ d ≤ (x.2 12).cap ∧ LsfOk d (x.2 12).xs ∧ d ≤ (x.2 15).cap ∧ Nn d (x.2 15).xs ∧ d ≤ (x.2 22).cap) (WpN.vc ?_) ?_
  · conv=>whnf
    refine CallQ.useF [0, 1, 2, 3, 4, 5, 6, 7, 8, 39, 40, 41, 42, 43, 44, 45, 16, 17, 18, 19, 20, 21, 22, 23, 24, 25, 26, 27, 38, 29, 30, 31, 32, 33, 34, 35, 36, 37] (f113_15_0 sd a (c, c) D Z d (Z 15).cap l0 k0 l1 k1 (Z 15).xs bw hd2 (by omega) hN15) rfl (by cases sd <;> kernel_rfl) (stEq_lay (by cases sd <;> repeat constructor) 38 0) ?_
    rintro v l' ⟨B1, B2, B3, B4, B5, B6, rfl, hB6, rfl⟩
    conv=>whnf
    exact ⟨(D, (setZ (setZ (setZ (setZ (setZ (setZ Z 16 B1) 17 B2) 18 B3) 19 B4) 20 B5) 22 B6)), ⟨hD, hF, h9, hG, h11, h12, hL, h15, hN15, hB6⟩, Rel.lay [] (by cases sd <;> kernel_rfl) (by repeat constructor) (by cases sd <;> repeat constructor)⟩
  clear hz12 hz15 hN hD hF h9 hG h11 h12 hL h15 hN15 D Z
  rintro ⟨D, Z⟩ ⟨hD, hF, h9, hG, h11, h12, hL, h15, hN15, h22⟩
  dsimp only at hD hF h9 hG h11 h12 hL h15 hN15 h22 ⊢
  have hz12 := (Z 12).ok
  have hN : Nn d (Z 12).xs := fun i hi => by have := hL.1 i hi; omega
  refine WpN.cut (ι := Dec × (Nat → Buf)) (fun x => (eA va ns bw first skip n kind off (.sl 39 0 n (x.2 9).cap) I1 d (.sl 41 0 d (x.2 11).cap) (.sl 42 0 d (x.2 12).cap) (.sl 45 0 d (x.2 15).cap) w [(23, .c (.sl 24 0 2 2))])) (fun x => lay (dlu sd [(9, 39), (10, 40), (11, 41), (12, 42), (13, 43), (14, 44), (15, 45), (16, 52), (17, 53), (18, 54), (19, 55), (20, 50), (21, 56), (22, 51), (23, 57), (28, 38)] a (c, c) x.1 x.2 (.st [.sl 51 0 d (x.2 22).cap, .sl 57 0 d (x.2 23).cap]) (.un c) 30 recs 1 2 3 4 39 40 41 42 43 44 45 52 53 54 55 50 56 51 57 25 26 27 38) 58) (fun x => x.1.Ok ∧ Fl x.2 Z0 ∧ n ≤ (x.2 9).cap ∧ Gn n (x.2 9).xs ∧ d ≤ (x.2 11).cap ∧ d ≤ (x.2 12).cap ∧ LsfOk d (x.2 12).xs ∧ d ≤ (x.2 15).cap ∧ Nn d (x.2 15).xs ∧ d ≤ (x.2 22).cap ∧ d ≤ (x.2 23).cap) (WpN.vc ?_) ?_
  · conv=>whnf
    refine CallQ.useF [0, 1, 2, 3, 4, 5, 6, 7, 8, 39, 40, 41, 42, 43, 44, 45, 46, 47, 48, 49, 50, 21, 51, 23, 24, 25, 26, 27, 38, 29, 30, 31, 32, 33, 34, 35, 36, 37] (f113_12_1 sd a (c, c) D Z d (Z 12).cap d (Z 22).cap l1 k1 (Z 12).xs bw hd2 (by omega) hN) rfl (by cases sd <;> kernel_rfl) (stEq_lay (by cases sd <;> repeat constructor) 38 0) ?_
    rintro v l' ⟨B1, B2, B3, B4, B5, B6, rfl, hB6, rfl⟩
    conv=>whnf
    exact ⟨(D, (setZ (setZ (setZ (setZ (setZ (setZ Z 16 B1) 17 B2) 18 B3) 19 B4) 21 B5) 23 B6)), ⟨hD, hF, h9, hG, h11, h12, hL, h15, hN15, h22, hB6⟩, Rel.lay [] (by cases sd <;> kernel_rfl) (by repeat constructor) (by cases sd <;> repeat constructor)⟩
  clear hz12 hN hD hF h9 hG h11 h12 hL h15 hN15 h22 D Z
  rintro ⟨D, Z⟩ ⟨hD, hF, h9, hG, h11, h12, hL, h15, hN15, h22, hf⟩
  dsimp only at hD hF h9 hG h11 h12 hL h15 hN15 h22 hf ⊢
  refine WpN.seq (WpN.vc ?_)
  conv=>whnf
  refine WpN.weaken (s := mkSt (eA va ns bw first skip n kind off (.sl 39 0 n (Z 9).cap) I1 d (.sl 41 0 d (Z 11).cap) (.sl 42 0 d (Z 12).cap) (.sl 45 0 d (Z 15).cap) w [(23, .c (.sl 24 0 2 2))]) (lay (dlu sd [(9, 39), (10, 40), (11, 41), (12, 42), (13, 43), (14, 44), (15, 45), (16, 52), (17, 53), (18, 54), (19, 55), (20, 50), (21, 56), (22, 51), (23, 57), (28, 38)] 2 (c, c) D Z (.st [.sl 51 0 d (Z 22).cap, .sl 57 0 d (Z 23).cap]) (.un c) 30 recs 1 2 3 4 39 40 41 42 43 44 45 52 53 54 55 50 56 51 57 25 26 27 38) 58) 193) (Rel.lay [] (by cases sd <;> kernel_rfl) (by repeat constructor) (by cases sd <;> repeat constructor)) rfl ?_
  exact TT D Z hD hF h9 hG h11 h12 hL h15 hN15 h22 hf
end Go.SX
