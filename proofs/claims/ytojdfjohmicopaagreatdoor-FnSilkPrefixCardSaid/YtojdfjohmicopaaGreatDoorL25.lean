/- A part of the proof: the SILK decoder of the given program, walked by an executor that is proved sound. No statement of the program is proved in this text. -/
import Derived.Test.YtojdfjohmicopaaGreatDoorL20
import Derived.Test.YtojdfjohmicopaaGreatDoorL24
set_option linter.all false
set_option maxRecDepth 100000
namespace Go.SX
open Go
def Nn (d : Nat) (xs : List Int) : Prop := ∀ i, i < d → 0 ≤ xs.getD i 0 ∧ xs.getD i 0 ≤ 32767
theorem between {x y w : Int} (hx : 0 ≤ x ∧ x ≤ 32767) (hy : 0 ≤ y ∧ y ≤ 32767) (hw : 0 ≤ w ∧ w < 4) :
    0 ≤ IntKind.i16.wrap (IntKind.i32.wrap (x + (IntKind.i32.wrap (w * IntKind.i32.wrap (y - x))).fdiv (2 ^ min (Int.toNat 2) IntKind.i32.bits))) ∧ IntKind.i16.wrap (IntKind.i32.wrap (x + (IntKind.i32.wrap (w * IntKind.i32.wrap (y - x))).fdiv (2 ^ min (Int.toNat 2) IntKind.i32.bits))) ≤ 32767 := by
  have e1 : (2 : Int) ^ min (Int.toNat 2) IntKind.i32.bits = 4 := by decide
  rw [e1, IntWalk.i32_in (y - x) (by omega)]
  have hb : -98301 ≤ w * (y - x) ∧ w * (y - x) ≤ 98301 ∧ (0 ≤ x + w * (y - x) / 4 ∧ x + w * (y - x) / 4 ≤ 32767) := by
    have : w = 0 ∨ w = 1 ∨ w = 2 ∨ w = 3 := by omega
    rcases this with rfl | rfl | rfl | rfl <;> omega
  rw [IntWalk.i32_in (w * (y - x)) (by omega), Int.fdiv_eq_ediv_of_nonneg _ (by decide), IntWalk.i32_in _ (by omega), IntWalk.i16_in _ (by omega)]
  exact hb.2.2
theorem f112 (sd : Bool) (a : Nat) (q : Nat × Nat) (D : Dec) (Z : Nat → Buf) (d cap : Nat) (xs : List Int) (ns : Int) (hD : D.Ok) (hd : d ≤ 16 ∧ d ≤ xs.length) (hx : Nn d xs) (h0 : Nn (Z 28).cap (Z 28).xs) :
    FnS 112 [.c (.p 0 0), .c (.sl 12 0 d cap), .c (.i .i64 ns)] (lay [(0, .st (cells sd [] a q D Z)), (12, .ar false .i16 xs), (15, .ar false .i16 (Z 15).xs), (28, .ar false .i16 (Z 28).xs)] 38) fun v l' => ∃ (D' : Dec) (w : Int), D'.Ok ∧
      ((v = .tu [.c .nsl, .c (.i .i16 w)] ∧ l' = lay [(0, .st (cells sd [] a q D' Z)), (12, .ar false .i16 xs), (15, .ar false .i16 (Z 15).xs), (28, .ar false .i16 (Z 28).xs)] 38) ∨
      ∃ Bf : Buf, v = .tu [.c (.sl 38 0 d Bf.cap), .c (.i .i16 w)] ∧ l' = lay [(0, .st (cells sd [(15, 38)] a q D' (setZ Z 15 Bf))), (12, .ar false .i16 xs), (28, .ar false .i16 (Z 28).xs), (38, .ar false .i16 Bf.xs)] 39 ∧ d ≤ Bf.cap ∧ Nn d Bf.xs) := by
  have h28 := (Z 28).ok
  refine FnS.wpR (b := 38) Proofs.Tryz.f112 rfl rfl rfl rfl rfl rfl ?_
  refine WpN.seq (WpN.vc ?_)
  conv=>whnf
  refine WpN.seq (WpN.vc ?_)
  conv=>whnf
  refine ⟨fun _=>?_, fun _=>?_⟩
  · conv=>whnf
    exact ⟨[], .tu [.c .nsl, .c (.i .i16 4)], lay [(0, .st (cells sd [] a q D Z)), (12, .ar false .i16 xs), (15, .ar false .i16 (Z 15).xs), (28, .ar false .i16 (Z 28).xs)] 38, rfl, by cases sd <;> kernel_rfl, stEq_lay (by cases sd <;> repeat constructor) 38 0, D, 4, hD, .inl ⟨rfl, rfl⟩⟩
  conv=>whnf
  refine WpN.seq (WpN.vc ?_)
  conv=>whnf
  refine .inl ⟨by kernel_rfl, ?_⟩
  conv=>whnf
  refine CallQ.use [] t169 rfl rfl trivial ?_
  rintro v l' ⟨rfl, rfl⟩
  conv=>whnf
  refine CallQ.use0 (f56 _ _ _ _ _ _ 256 _ _ hD.rc (by kernel_rfl)) (by rfl) ?_
  rintro v b' ⟨k, b, n, s, h, rfl, hk, hr, rfl⟩
  replace hk : k < 5 := hk
  have hok : Dec.Ok { D with b := b, n := n, s := s, h := h } := ⟨hr, hD.gain⟩
  have hkw : IntKind.i16.wrap (k : Int) = k := IntWalk.i16_in _ (by omega)
  conv=>whnf
  rw [hkw]
  have none_ : ∀ {st : Nat → Option B}, st 0 = some (.st (cells sd [] a q { D with b := b, n := n, s := s, h := h } Z)) → st 12 = some (.ar false .i16 xs) → st 15 = some (.ar false .i16 (Z 15).xs) → st 28 = some (.ar false .i16 (Z 28).xs) →
      ∃ (l0 : List (Nat × Nat)) (v : V) (l' : List (Option B)), resOf [.c .nsl, .c (.i .i16 k)] = v.ren (al l0) ∧ (renOk 38 l0 [] l' 81 81 && v.lo l'.length) = true ∧ stEq st (al l0) 0 l' ∧ ∃ (D' : Dec) (w : Int), D'.Ok ∧
      ((v = .tu [.c .nsl, .c (.i .i16 w)] ∧ l' = lay [(0, .st (cells sd [] a q D' Z)), (12, .ar false .i16 xs), (15, .ar false .i16 (Z 15).xs), (28, .ar false .i16 (Z 28).xs)] 38) ∨
      ∃ Bf : Buf, v = .tu [.c (.sl 38 0 d Bf.cap), .c (.i .i16 w)] ∧ l' = lay [(0, .st (cells sd [(15, 38)] a q D' (setZ Z 15 Bf))), (12, .ar false .i16 xs), (28, .ar false .i16 (Z 28).xs), (38, .ar false .i16 Bf.xs)] 39 ∧ d ≤ Bf.cap ∧ Nn d Bf.xs) := fun e0 e1 e2 e3 =>
    ⟨[], .tu [.c .nsl, .c (.i .i16 k)], lay [(0, .st (cells sd [] a q { D with b := b, n := n, s := s, h := h } Z)), (12, .ar false .i16 xs), (15, .ar false .i16 (Z 15).xs), (28, .ar false .i16 (Z 28).xs)] 38, rfl, by cases sd <;> kernel_rfl, stEq_lay (by exact ⟨by rw [show al [] 0 = 0 from rfl, e0]; cases sd <;> rfl, e1, e2, e3, trivial⟩) 38 0, _, k, hok, .inl ⟨rfl, rfl⟩⟩
  refine WpN.seq (WpN.vc ?_)
  conv=>whnf
  generalize hx4 : ((k : Int) == 4) = x4
  cases x4 <;> conv=>whnf
  all_goals
    repeat (first
        | (refine ⟨fun _=>?_, fun h => absurd h (by decide)⟩; conv=>whnf)
        | (refine ⟨fun h => absurd h (by decide), fun _=>?_⟩; conv=>whnf))
  rotate_left
  · exact none_ rfl rfl rfl rfl
  have hk4 : (k : Int) ≠ 4 := by simpa using hx4
  refine ⟨fun _=>?_, fun _=>?_⟩
  · conv=>whnf
    exact none_ rfl rfl rfl rfl
  conv=>whnf
  refine WpN.seq (WpN.vc ?_)
  conv=>whnf
  refine ⟨fun _=>?_, fun hc => ?_⟩
  · conv=>whnf
    exact none_ rfl rfl rfl rfl
  have hc : ((Z 28).cap : Int) = d := by simpa using hc
  have hc : (Z 28).cap = d := by omega
  conv=>whnf
  refine WpN.seq (WpN.vc ?_)
  conv=>whnf
  refine rz153 (m := 37) (j := 15) (n := (d : Int)) _ rfl rfl (fun c => rfl) (by decide) rfl (Z 15).ok (by decide) (by omega) fun Bf hBf _ => ?_
  rw [Int.toNat_natCast] at hBf ⊢
  have hBo := Bf.ok
  conv=>whnf
  refine WpN.cut (ι := List Int) (fun _=>[(6, .c (.sl 38 0 d Bf.cap)), (7, .c (.i .i16 k))]) (fun zs => lay [(0, .st (cells sd [(15, 38)] a q { D with b := b, n := n, s := s, h := h } (setZ Z 15 Bf))), (12, .ar false .i16 xs), (28, .ar false .i16 (Z 28).xs), (38, .ar false .i16 zs)] 39) (fun zs => zs.length = Bf.xs.length ∧ Nn d zs) (WpN.vc ?_) ?_
  · conv=>whnf
    refine WpS.loop (ι := Nat × List Int) (fun x => mkSt [(0, .c (.p 0 0)), (1, .c (.sl 12 0 d cap)), (6, .c (.sl 38 0 d Bf.cap)), (7, .c (.i .i16 k)), (44, .c (.i .i64 d)), (45, .c (.i .i64 x.1))] (lay [(0, .st (cells sd [(15, 38)] a q { D with b := b, n := n, s := s, h := h } (setZ Z 15 Bf))), (12, .ar false .i16 xs), (28, .ar false .i16 (Z 28).xs), (38, .ar false .i16 x.2)] 39) 81)
      (fun x => x.1 ≤ d ∧ x.2.length = Bf.xs.length ∧ Nn x.1 x.2) (fun x => d - x.1) (0, Bf.xs) ⟨Nat.zero_le _, rfl, fun i hi => absurd hi (Nat.not_lt_zero _)⟩ (Rel.lay [] (by cases sd <;> kernel_rfl) (by repeat constructor) (by cases sd <;> repeat constructor)) ?_
    rintro ⟨j, zs⟩ ⟨hj, hzl, hn⟩
    dsimp only at hj hzl hn ⊢
    have ej : IntKind.i64.wrap ((j : Int) + 1) = ((j + 1 : Nat) : Int) := by rw [IntWalk.i64_in _ (by omega)]; rfl
    refine WpN.toS (WpN.vc ?_)
    conv=>whnf
    refine ⟨fun hc2 => ?_, fun hc2 => ?_⟩
    rotate_left
    · have hc2 := of_decide_eq_false hc2
      conv=>whnf
      refine ⟨rfl, ?_⟩
      conv=>whnf
      exact ⟨zs, ⟨hzl, fun i hi => hn i (by omega)⟩, Rel.lay [] (by cases sd <;> kernel_rfl) (by repeat constructor) (by cases sd <;> repeat constructor)⟩
    have hc2 := of_decide_eq_true hc2
    have e9 : 0 + Int.toNat (j : Int) = j := by simp
    have g1 := hx j (by omega)
    have g2 := h0 j (by omega)
    conv=>whnf
    refine .inl ⟨by kernel_rfl, ?_⟩
    conv=>whnf
    refine ⟨by omega, ?_⟩
    conv=>whnf
    refine ⟨by omega, ?_⟩
    conv=>whnf
    refine ⟨by show _ ∧ (j : Int) < ((Z 28).cap : Int); omega, ?_⟩
    conv=>whnf
    refine ⟨by omega, ?_⟩
    rw [e9, IntWalk.i32_in (xs.getD j 0) (by omega), IntWalk.i32_in (k : Int) (by omega)]
    conv=>whnf
    rw [IntWalk.i32_in ((Z 28).xs.getD j 0) (by omega)]
    refine ⟨by decide, ?_⟩
    conv=>whnf
    refine ⟨by show _ ∧ (j : Int) < ((Z 28).cap : Int); omega, ?_⟩
    conv=>whnf
    refine ⟨by omega, ?_⟩
    rw [e9]
    conv=>whnf
    rw [IntWalk.i32_in ((Z 28).xs.getD j 0) (by omega)]
    refine ⟨by omega, ?_⟩
    have hbt := between g2 g1 (w := k) (by omega)
    generalize IntKind.i16.wrap (IntKind.i32.wrap ((Z 28).xs.getD j 0 + (IntKind.i32.wrap ((k : Int) * IntKind.i32.wrap (xs.getD j 0 - (Z 28).xs.getD j 0))).fdiv (2 ^ min (Int.toNat 2) IntKind.i32.bits))) = v1 at hbt
    conv=>whnf
    refine ⟨by omega, ?_⟩
    rw [e9]
    conv=>whnf
    rw [ej]
    refine ⟨(j + 1, zs.set j v1), ⟨by dsimp only; omega, by simpa using hzl, fun i hi => ?_⟩, by dsimp only; omega, Rel.lay [] (by cases sd <;> kernel_rfl) (by repeat constructor) (by cases sd <;> repeat constructor)⟩
    dsimp only at hi ⊢
    rw [getD_set (by omega)]
    split
    · exact hbt
    · exact hn i (by omega)
  rintro zs ⟨hzl, hn⟩
  refine WpN.vc ?_
  conv=>whnf
  exact ⟨[], .tu [.c (.sl 38 0 d Bf.cap), .c (.i .i16 k)], lay [(0, .st (cells sd [(15, 38)] a q { D with b := b, n := n, s := s, h := h } (setZ Z 15 ⟨Bf.cap, zs, Bf.ys, by omega, Bf.okb⟩))), (12, .ar false .i16 xs), (28, .ar false .i16 (Z 28).xs), (38, .ar false .i16 zs)] 39, rfl, by cases sd <;> kernel_rfl, stEq_lay (by cases sd <;> repeat constructor) 39 0, _, k, hok, .inr ⟨⟨Bf.cap, zs, Bf.ys, by omega, Bf.okb⟩, rfl, rfl, hBf, hn⟩⟩
def Dg (y t : Nat) : Prop := 1 ≤ t ∧ t ≤ 8 ∧ 2 ^ (t - 1) ≤ y ∧ y < 2 ^ t
instance (y t : Nat) : Decidable (Dg y t) := by unfold Dg; infer_instance
theorem forall_u8 {P : Nat → Prop} (h : ∀ z < 256, 0 < z → P z) {z : Nat} (hz : z < 256 ∧ 0 < z) : P z := h z hz.1 hz.2
theorem u32_div (x k : Nat) (c : Int) (m : Nat) (hm : (2 : Int) ^ min k IntKind.u32.bits = m) (hc : c = (x : Int)) : c.fdiv (2 ^ min k IntKind.u32.bits) = ((x / m : Nat) : Int) := by
  subst hc
  rw [hm, Int.fdiv_eq_ediv_of_nonneg _ (by omega)]
  rfl
theorem f30c (x : Nat) (hx : 0 < x ∧ x < 4294967296) : FnS 30 [.c (.i .u32 x)] [] fun v l' => ∃ t c y : Nat, v = .c (.i .i64 ((c + t : Nat) : Int)) ∧ l' = [] ∧ Dg y t ∧ ((c = 0 ∧ y = x) ∨ (c = 8 ∧ y = x / 256) ∨ (c = 16 ∧ y = x / 65536) ∨ (c = 24 ∧ y = x / 65536 / 256)) := by
  refine FnS.run (b := 0) Proofs.Tryz.f30 rfl rfl rfl rfl rfl rfl ?_
  conv=>whnf
  have ew : ∀ c t : Nat, c ≤ 24 → t ≤ 8 → IntKind.i64.wrap ((c : Int) + IntKind.i64.wrap (t : Int)) = ((c + t : Nat) : Int) := fun c t h1 h2 => by
    rw [IntWalk.i64_in (t : Int) (by omega), IntWalk.i64_in _ (by omega)]; omega
  refine ⟨fun hc => ?_, fun hc => ?_⟩
  · replace hc := of_decide_eq_true hc
    have e1 := u32_div x (Int.toNat 16) x 65536 (by decide) rfl
    have hy : x / 65536 < 65536 ∧ 0 < x / 65536 := by omega
    conv=>whnf
    refine ⟨by decide, ?_⟩
    rw [e1]
    generalize hyy : x / 65536 = y at hy
    conv=>whnf
    refine ⟨fun hc2 => ?_, fun hc2 => ?_⟩
    · replace hc2 := of_decide_eq_true hc2
      have e2 := u32_div y (Int.toNat 8) y 256 (by decide) rfl
      have hz : y / 256 < 256 ∧ 0 < y / 256 := by omega
      conv=>whnf
      refine ⟨by decide, ?_⟩
      rw [e2]
      generalize hzz : y / 256 = z at hz
      have e3 : IntKind.u8.wrap (z : Int) = z := IntWalk.u8_in _ (by omega)
      conv=>whnf
      refine ⟨by rw [e3]; constructor; omega; show (z : Int) < 256; omega, ?_⟩
      conv=>whnf
      generalize hT : UInt8.toNat _ = t
      have hD : Dg z t := by
        subst hT
        obtain ⟨ha, hb⟩ := hz
        clear hzz e3
        revert z
        decide +kernel
      exact ⟨[], rfl, trivial, t, 24, z, by have := ew 24 t (by omega) hD.2.1; exact congrArg (fun i => V.c (C.i .i64 i)) this, rfl, hD, by omega⟩
    · replace hc2 := of_decide_eq_false hc2
      have e3 : IntKind.u8.wrap (y : Int) = y := IntWalk.u8_in _ (by omega)
      conv=>whnf
      refine ⟨by rw [e3]; constructor; omega; show (y : Int) < 256; omega, ?_⟩
      conv=>whnf
      generalize hT : UInt8.toNat _ = t
      have hD : Dg y t := by
        subst hT
        have hy' : y < 256 ∧ 0 < y := by omega
        obtain ⟨ha, hb⟩ := hy'
        clear hyy hc2 e3 hy
        revert y
        decide +kernel
      exact ⟨[], rfl, trivial, t, 16, y, by have := ew 16 t (by omega) hD.2.1; exact congrArg (fun i => V.c (C.i .i64 i)) this, rfl, hD, by omega⟩
  · replace hc := of_decide_eq_false hc
    conv=>whnf
    refine ⟨fun hc2 => ?_, fun hc2 => ?_⟩
    · replace hc2 := of_decide_eq_true hc2
      have e2 := u32_div x (Int.toNat 8) x 256 (by decide) rfl
      have hz : x / 256 < 256 ∧ 0 < x / 256 := by omega
      conv=>whnf
      refine ⟨by decide, ?_⟩
      rw [e2]
      generalize hzz : x / 256 = z at hz
      have e3 : IntKind.u8.wrap (z : Int) = z := IntWalk.u8_in _ (by omega)
      conv=>whnf
      refine ⟨by rw [e3]; constructor; omega; show (z : Int) < 256; omega, ?_⟩
      conv=>whnf
      generalize hT : UInt8.toNat _ = t
      have hD : Dg z t := by
        subst hT
        obtain ⟨ha, hb⟩ := hz
        clear hzz e3
        revert z
        decide +kernel
      exact ⟨[], rfl, trivial, t, 8, z, by have := ew 8 t (by omega) hD.2.1; exact congrArg (fun i => V.c (C.i .i64 i)) this, rfl, hD, by omega⟩
    · replace hc2 := of_decide_eq_false hc2
      have e3 : IntKind.u8.wrap (x : Int) = x := IntWalk.u8_in _ (by omega)
      conv=>whnf
      refine ⟨by rw [e3]; constructor; omega; show (x : Int) < 256; omega, ?_⟩
      conv=>whnf
      generalize hT : UInt8.toNat _ = t
      have hD : Dg x t := by
        subst hT
        have hy' : x < 256 ∧ 0 < x := by omega
        obtain ⟨ha, hb⟩ := hy'
        clear hx hc hc2 e3
        revert x
        decide +kernel
      exact ⟨[], rfl, trivial, t, 0, x, by have := ew 0 t (by omega) hD.2.1; exact congrArg (fun i => V.c (C.i .i64 i)) this, rfl, hD, by omega⟩
theorem digits_of {x t c y : Nat} (h : Dg y t) (hc : (c = 0 ∧ y = x) ∨ (c = 8 ∧ y = x / 256) ∨ (c = 16 ∧ y = x / 65536) ∨ (c = 24 ∧ y = x / 65536 / 256)) : 1 ≤ c + t ∧ c + t ≤ 32 ∧ 2 ^ (c + t - 1) ≤ x ∧ x < 2 ^ (c + t) := by
  obtain ⟨h1, h2, h3, h4⟩ := h
  have ht : t = 1 ∨ t = 2 ∨ t = 3 ∨ t = 4 ∨ t = 5 ∨ t = 6 ∨ t = 7 ∨ t = 8 := by omega
  rcases ht with rfl | rfl | rfl | rfl | rfl | rfl | rfl | rfl <;> rcases hc with ⟨rfl, rfl⟩ | ⟨rfl, rfl⟩ | ⟨rfl, rfl⟩ | ⟨rfl, rfl⟩ <;> simp at h3 h4 ⊢ <;> omega
theorem f288 (x : Nat) (hx : 0 < x ∧ x < 2147483648) : FnS 288 [.c (.i .i32 x)] [] fun v l' => ∃ r : Nat, v = .c (.i .i64 (32 - r)) ∧ l' = [] ∧ (1 ≤ r ∧ r ≤ 31) ∧ 2 ^ (r - 1) ≤ x ∧ x < 2 ^ r := by
  have h304 : FnS 304 [.c (.i .u32 x)] [] fun v l' => ∃ r : Nat, v = .c (.i .i64 (32 - r)) ∧ l' = [] ∧ (1 ≤ r ∧ r ≤ 31) ∧ 2 ^ (r - 1) ≤ x ∧ x < 2 ^ r := by
    refine FnS.run (b := 0) Proofs.Tryz.f304 rfl rfl rfl rfl rfl rfl ?_
    conv=>whnf
    refine CallQ.use [] (f30c x (by omega)) rfl rfl trivial ?_
    rintro v l' ⟨t, c, y, rfl, rfl, h1, h2⟩
    have h3 := digits_of h1 h2
    have h4 : c + t ≤ 31 := by
      refine Nat.le_of_not_lt fun h => ?_
      have h5 : c + t = 32 := by omega
      rw [h5] at h3
      simp at h3
      omega
    conv=>whnf
    exact ⟨[], rfl, trivial, c + t, by rw [IntWalk.i64_in _ (by omega)]; rfl, rfl, ⟨h3.1, h4⟩, h3.2.2⟩
  refine FnS.run (b := 0) Proofs.Tryz.f288 rfl rfl rfl rfl rfl rfl ?_
  conv=>whnf
  rw [IntWalk.u32_in _ (by omega)]
  refine CallQ.use [] h304 rfl rfl trivial ?_
  rintro v l' ⟨r, rfl, rfl, h⟩
  conv=>whnf
  exact ⟨[], rfl, trivial, r, rfl, rfl, h⟩
theorem f291 (x y : Int) : FnS 291 [.c (.i .i32 x), .c (.i .i32 y)] [] fun v l' => ∃ r : Int, v = .c (.i .i32 r) ∧ l' = [] := by
  refine FnS.run (b := 0) Proofs.Tryz.f291 rfl rfl rfl rfl rfl rfl ?_
  conv=>whnf
  refine ⟨fun _=>?_, fun _=>?_⟩
  · conv=>whnf
    exact ⟨[], rfl, trivial, _, rfl, rfl⟩
  · conv=>whnf
    refine ⟨fun _=>?_, fun _=>?_⟩
    · conv=>whnf
      exact ⟨[], rfl, trivial, _, rfl, rfl⟩
    · conv=>whnf
      exact ⟨[], rfl, trivial, _, rfl, rfl⟩
theorem f292 (x s : Int) (hs : 1 ≤ s ∧ s ≤ 64) : FnS 292 [.c (.i .i64 x), .c (.i .i64 s)] [] fun v l' => ∃ r : Int, v = .c (.i .i64 r) ∧ l' = [] := by
  refine FnS.run (b := 0) Proofs.Tryz.f292 rfl rfl rfl rfl rfl rfl ?_
  conv=>whnf
  refine ⟨fun _=>?_, fun _=>?_⟩
  · conv=>whnf
    refine ⟨by decide, ?_⟩
    conv=>whnf
    exact ⟨[], rfl, trivial, _, rfl, rfl⟩
  · conv=>whnf
    refine ⟨by rw [IntWalk.i64_in _ (by omega)]; omega, ?_⟩
    conv=>whnf
    refine ⟨by decide, ?_⟩
    conv=>whnf
    exact ⟨[], rfl, trivial, _, rfl, rfl⟩
theorem f315 (x : Int) : FnS 315 [.c (.i .i32 x), .c (.i .i64 16)] [] fun v l' => ∃ r : Int, v = .c (.i .i32 r) ∧ l' = [] := by
  refine FnS.run (b := 0) Proofs.Tryz.f315 rfl rfl rfl rfl rfl rfl ?_
  conv=>whnf
  refine ⟨fun h => absurd h (by decide), fun _=>?_⟩
  conv=>whnf
  refine ⟨by decide, ?_⟩
  conv=>whnf
  refine ⟨by decide, ?_⟩
  conv=>whnf
  exact ⟨[], rfl, trivial, _, rfl, rfl⟩
theorem f305 (x y : Int) : FnS 305 [.c (.i .i32 x), .c (.i .i32 y)] [] fun v l' => ∃ r : Int, v = .c (.i .i32 r) ∧ l' = [] := by
  refine FnS.run (b := 0) Proofs.Tryz.f305 rfl rfl rfl rfl rfl rfl ?_
  conv=>whnf
  refine ⟨by decide, ?_⟩
  conv=>whnf
  exact ⟨[], rfl, trivial, _, rfl, rfl⟩
theorem f306 (x y z : Int) : FnS 306 [.c (.i .i32 x), .c (.i .i32 y), .c (.i .i32 z)] [] fun v l' => ∃ r : Int, v = .c (.i .i32 r) ∧ l' = [] := by
  refine FnS.run (b := 0) Proofs.Tryz.f306 rfl rfl rfl rfl rfl rfl ?_
  conv=>whnf
  refine CallQ.use [] (f305 _ _) rfl rfl trivial ?_
  rintro v l' ⟨r, rfl, rfl⟩
  conv=>whnf
  refine CallQ.use [] (f315 _) rfl rfl trivial ?_
  rintro v l' ⟨r2, rfl, rfl⟩
  conv=>whnf
  exact ⟨[], rfl, trivial, _, rfl, rfl⟩
theorem shl_top {x r : Nat} (hr : 1 ≤ r ∧ r ≤ 31) (h1 : 2 ^ (r - 1) ≤ x) (h2 : x < 2 ^ r) : 1073741824 ≤ x * 2 ^ (31 - r) ∧ x * 2 ^ (31 - r) < 2147483648 := by
  have e1 : 2 ^ (r - 1) * 2 ^ (31 - r) = 1073741824 := by rw [← Nat.pow_add, show r - 1 + (31 - r) = 30 by omega]
  have e2 : 2 ^ r * 2 ^ (31 - r) = 2147483648 := by rw [← Nat.pow_add, show r + (31 - r) = 31 by omega]
  constructor
  · rw [← e1]; exact Nat.mul_le_mul_right _ h1
  · rw [← e2]; exact Nat.mul_lt_mul_of_pos_right h2 (Nat.pow_pos (by decide))
theorem f290 (x : Nat) (qr : Int) (hx : 0 < x ∧ x < 2147483648) (hq : 31 ≤ qr ∧ qr ≤ 61) : FnS 290 [.c (.i .i32 x), .c (.i .i64 qr)] [] fun v l' => ∃ r : Int, v = .c (.i .i32 r) ∧ l' = [] := by
  refine FnS.run (b := 0) Proofs.Tryz.f290 rfl rfl rfl rfl rfl rfl ?_
  conv=>whnf
  refine CallQ.use [] (f289 _) rfl rfl trivial ?_
  rintro v l' ⟨rfl, rfl⟩
  rw [if_neg (by omega)]
  conv=>whnf
  refine CallQ.use [] (f288 x hx) rfl rfl trivial ?_
  rintro v l' ⟨r, rfl, rfl, hr, h1, h2⟩
  have e1 : IntKind.i64.wrap ((32 : Int) - r - 1) = ((31 - r : Nat) : Int) := by rw [IntWalk.i64_in _ (by omega)]; omega
  have htop := shl_top hr h1 h2
  conv=>whnf
  rw [e1]
  refine ⟨by omega, ?_⟩
  have e2 : IntKind.i32.wrap ((x : Int) * 2 ^ min (Int.toNat ((31 - r : Nat) : Int)) IntKind.i32.bits) = ((x * 2 ^ (31 - r) : Nat) : Int) := by
    have : min (Int.toNat ((31 - r : Nat) : Int)) IntKind.i32.bits = 31 - r := by
      show min (31 - r) 32 = 31 - r
      omega
    rw [this]
    have h9 : (x : Int) * 2 ^ (31 - r) = ((x * 2 ^ (31 - r) : Nat) : Int) := by simp
    rw [h9]
    exact IntWalk.i32_in _ (by omega)
  rw [e2]
  generalize x * 2 ^ (31 - r) = y at htop
  conv=>whnf
  refine ⟨by decide, ?_⟩
  have e3 : ((y : Nat) : Int).fdiv (2 ^ min (Int.toNat 16) IntKind.i32.bits) = ((y / 65536 : Nat) : Int) := by
    have : (2 : Int) ^ min (Int.toNat 16) IntKind.i32.bits = 65536 := by decide
    rw [this, Int.fdiv_eq_ediv_of_nonneg _ (by decide)]; rfl
  rw [e3]
  conv=>whnf
  refine ⟨by omega, ?_⟩
  conv=>whnf
  refine ⟨by decide, ?_⟩
  conv=>whnf
  refine CallQ.use [] (f305 _ _) rfl rfl trivial ?_
  rintro v l' ⟨r2, rfl, rfl⟩
  conv=>whnf
  refine ⟨by decide, ?_⟩
  conv=>whnf
  refine CallQ.use [] (f306 _ _ _) rfl rfl trivial ?_
  rintro v l' ⟨r3, rfl, rfl⟩
  conv=>whnf
  have hl : IntKind.i64.wrap (IntKind.i64.wrap (61 - ((31 - r : Nat) : Int)) - qr) = 61 - ((31 - r : Nat) : Int) - qr := by
    rw [IntWalk.i64_in (61 - ((31 - r : Nat) : Int)) (by omega), IntWalk.i64_in _ (by omega)]
  rw [hl]
  generalize hls : 61 - ((31 - r : Nat) : Int) - qr = ls
  have hlr : -31 ≤ ls ∧ ls ≤ 30 := by omega
  have en : IntKind.i64.wrap (0 - ls) = 0 - ls := IntWalk.i64_in _ (by omega)
  refine ⟨fun hc => ?_, fun hc => ?_⟩
  · replace hc := of_decide_eq_true hc
    conv=>whnf
    refine ⟨by show 0 ≤ IntKind.i64.wrap _; rw [en]; omega, ?_⟩
    conv=>whnf
    refine ⟨fun _=>?_, fun _=>?_⟩
    · conv=>whnf
      exact ⟨[], rfl, trivial, _, rfl, rfl⟩
    · conv=>whnf
      refine ⟨fun _=>?_, fun _=>?_⟩
      · conv=>whnf
        exact ⟨[], rfl, trivial, _, rfl, rfl⟩
      · conv=>whnf
        exact ⟨[], rfl, trivial, _, rfl, rfl⟩
  · replace hc := of_decide_eq_false hc
    conv=>whnf
    refine ⟨fun _=>?_, fun _=>?_⟩
    · conv=>whnf
      refine ⟨by omega, ?_⟩
      conv=>whnf
      exact ⟨[], rfl, trivial, _, rfl, rfl⟩
    · conv=>whnf
      exact ⟨[], rfl, trivial, _, rfl, rfl⟩
theorem Lt {p q A B : Prop} (h : ¬ q) (a : A) : (p → A) ∧ (q → B) := ⟨fun _=>a, fun x => absurd x h⟩
theorem Lf {p q A B : Prop} (h : ¬ p) (b : B) : (p → A) ∧ (q → B) := ⟨fun x => absurd x h, fun _=>b⟩
theorem cells_ren (sd : Bool) (N : List (Nat × Nat)) (a : Nat) (q : Nat × Nat) (D : Dec) (Z : Nat → Buf) : (B.st (cells sd N a q D Z)).ren (al []) = B.st (cells sd N a q D Z) := by cases sd <;> rfl
theorem Rel.layD {b k : Nat} {s : S} {n : Nat} {E : List (Nat × V)} {l : List (Nat × B)} {sd : Bool} {N : List (Nat × Nat)} {a : Nat} {q : Nat × Nat} {D : Dec} {Z : Nat → Buf} (he : envEq s.env (al []) E)
    (h0 : s.st 0 = some (.st (cells sd N a q D Z))) (hs : stL s.st (al []) l) (h : renOk b [] E (Go.SX.lay ((0, B.st (cells sd N a q D Z)) :: l) k) n s.n = true) : Rel b s (mkSt E (Go.SX.lay ((0, B.st (cells sd N a q D Z)) :: l) k) n) :=
  Rel.lay [] h he ⟨by rw [cells_ren]; exact h0, hs⟩
theorem stL_D {st : Nat → Option B} {l : List (Nat × B)} {sd : Bool} {N : List (Nat × Nat)} {a : Nat} {q : Nat × Nat} {D : Dec} {Z : Nat → Buf} (h0 : st 0 = some (.st (cells sd N a q D Z))) (hs : stL st (al []) l) :
    stL st (al []) ((0, B.st (cells sd N a q D Z)) :: l) := ⟨by rw [cells_ren]; exact h0, hs⟩
theorem i64_nat (j : Nat) (h : j < 1000000) : IntKind.i64.wrap ((j : Int) + 1) = ((j + 1 : Nat) : Int) := by rw [IntWalk.i64_in _ (by omega)]; rfl
theorem zero_nat (j : Nat) : 0 + Int.toNat (j : Int) = j := by simp
theorem f209 (d cap : Nat) (xs : List Int) (c : Int) (hd : d ≤ 16 ∧ d ≤ xs.length) : Fn0 209 [.c (.sl 0 0 d cap), .c (.i .i32 c)] (.ar false .i32 xs) fun v b' => ∃ ys : List Int, v = .tu [] ∧ b' = .ar false .i32 ys ∧ ys.length = xs.length := by
  refine Fn0.run Proofs.Tryz.f209 rfl rfl rfl rfl rfl fun st m => ?_
  conv=>whnf
  refine WpS.loop (ι := Nat × List Int × Int) (fun x => ⟨mkE [(0, .c (.sl 0 0 d cap)), (1, .c (.i .i32 x.2.2)), (4, .c (.i .i32 c)), (8, .c (.i .i64 d)), (9, .c (.i .i64 x.1))], upd st 0 (.ar false .i32 x.2.1), m + 1, 39⟩) (fun x => x.1 ≤ d ∧ x.2.1.length = xs.length) (fun x => d - x.1) (0, xs, c) ⟨Nat.zero_le _, rfl⟩ (Rel.of _ (by repeat constructor) (Only0.eq (by repeat constructor) rfl)) ?_
  rintro ⟨j, ys, cc⟩ ⟨hj, hl⟩
  dsimp only at hj hl ⊢
  have ej := i64_nat j (by omega)
  refine VC_ok ?_
  conv=>whnf
  refine ⟨fun hc => ?_, fun hc => ?_⟩
  · replace hc := of_decide_eq_true hc
    conv=>whnf
    repeat first|(refine Lt (by decide) ?_;conv=>whnf)|(refine Lf (by decide) ?_;conv=>whnf)|(refine And.intro (by first|decide|omega|(simp only [List.length_set];omega)) ?_;conv=>whnf)|(refine .inl ⟨by kernel_rfl,?_⟩;conv=>whnf)
    rw [ej]
    refine ⟨fun _=>?_, fun _=>?_⟩
    · conv=>whnf
      repeat first|(refine Lt (by decide) ?_;conv=>whnf)|(refine Lf (by decide) ?_;conv=>whnf)|(refine And.intro (by first|decide|omega|(simp only [List.length_set];omega)) ?_;conv=>whnf)|(refine .inl ⟨by kernel_rfl,?_⟩;conv=>whnf)
      rw [ej]
      exact ⟨(j + 1, _, _), ⟨by dsimp only; omega, by simpa using hl⟩, by dsimp only; omega, Rel.of _ (by repeat constructor) (Only0.eq (by repeat constructor) rfl)⟩
    · conv=>whnf
      rw [ej]
      exact ⟨(j + 1, _, _), ⟨by dsimp only; omega, by simpa using hl⟩, by dsimp only; omega, Rel.of _ (by repeat constructor) (Only0.eq (by repeat constructor) rfl)⟩
  · conv=>whnf
    refine ⟨rfl, ?_⟩
    conv=>whnf
    exact ⟨_, rfl, rfl, by repeat constructor, rfl, ys, rfl, rfl, hl⟩
theorem and1 {k : Nat} (h : k < 17) : bits .and .i64 (k : Int) 1 = ((k % 2 : Nat) : Int) := by
  revert k; decide +kernel
theorem rcOk {v : Int} (h : -16773022 ≤ v ∧ v ≤ 16773022) :
    IntKind.i32.wrap (0 - IntKind.i32.wrap (v * 2 ^ min (Int.toNat 7) IntKind.i32.bits)) = -(v * 128) ∧ ∃ m : Nat, IntKind.i32.wrap (1073741824 - IntKind.i32.wrap ((IntKind.i64.wrap (IntKind.i64.wrap (IntKind.i32.wrap (0 - IntKind.i32.wrap (v * 2 ^ min (Int.toNat 7) IntKind.i32.bits))) * IntKind.i64.wrap (IntKind.i32.wrap (0 - IntKind.i32.wrap (v * 2 ^ min (Int.toNat 7) IntKind.i32.bits))))).fdiv 4294967296)) = m ∧ 0 < m ∧ m ≤ 1073741824 := by
  have e1 : (2 : Int) ^ min (Int.toNat 7) IntKind.i32.bits = 128 := by decide
  rw [e1, IntWalk.i32_in (v * 128) (by omega), IntWalk.i32_in (0 - v * 128) (by omega)]
  refine ⟨by omega, ?_⟩
  have hq : 0 ≤ (0 - v * 128) * (0 - v * 128) ∧ (0 - v * 128) * (0 - v * 128) ≤ 2146946816 * 2146946816 := by
    have e3 : (0 - v * 128) * (0 - v * 128) = (v * v) * 16384 := by
      rw [Int.zero_sub, Int.neg_mul_neg, Int.mul_assoc, Int.mul_comm 128 (v * 128), Int.mul_assoc, ← Int.mul_assoc v v]
      rfl
    have e2 : v * v ≤ 16773022 * 16773022 := by
      have h1 := Int.mul_nonneg (a := 16773022 - v) (b := 16773022 + v) (by omega) (by omega)
      rw [Int.sub_mul, Int.mul_add, Int.mul_add, Int.mul_comm v 16773022] at h1
      omega
    have e4 : 0 ≤ v * v := by
      rcases Int.le_total 0 v with h0 | h0
      · exact Int.mul_nonneg h0 h0
      · exact Int.mul_nonneg_of_nonpos_of_nonpos h0 h0
    rw [e3]
    omega
  have e5 : IntKind.i64.wrap (0 - v * 128) = 0 - v * 128 := IntWalk.i64_in _ (by omega)
  rw [e5]
  generalize (0 - v * 128) * (0 - v * 128) = q at hq
  rw [IntWalk.i64_in q (by omega), Int.fdiv_eq_ediv_of_nonneg _ (by decide), IntWalk.i32_in (q / 4294967296) (by omega), IntWalk.i32_in _ (by omega)]
  exact ⟨(1073741824 - q / 4294967296).toNat, by omega, by omega, by omega⟩
theorem f210 (d cap : Nat) (xs : List Int) (hd : (d = 10 ∨ d = 16) ∧ d ≤ xs.length) : FnS 210 [.c (.sl 0 0 d cap)] [some (.ar false .i16 xs)] fun v l' => ∃ r : Int, v = .c (.i .i32 r) ∧ l' = [some (.ar false .i16 xs)] := by
  have hd16 : d < 17 := by omega
  have ed2 : d % 2 = 0 := by omega
  have ed := and1 hd16
  rw [ed2] at ed
  refine FnS.run (b := 1) Proofs.Tryz.f210 rfl rfl rfl rfl rfl rfl ?_
  conv=>whnf
  rw [ed]
  repeat first|(refine Lt (by decide) ?_;conv=>whnf)|(refine Lf (by decide) ?_;conv=>whnf)|(refine And.intro (by first|decide|omega|(simp only [List.length_set];omega)) ?_;conv=>whnf)|(refine .inl ⟨by kernel_rfl,?_⟩;conv=>whnf)
  refine WpS.loop (ι := Nat × List Int × Int) (fun x => mkSt [(0, .c (.sl 0 0 d cap)), (3, .c (.i .i64 d)), (4, .c (.p 1 0)), (5, .c (.sl 1 0 16 16)), (6, .c (.i .i32 x.2.2)), (26, .c (.i .i64 d)), (27, .c (.i .i64 x.1))] [some (.ar false .i16 xs), some (.ar false .i32 x.2.1)] 159) (fun x => x.1 ≤ d ∧ x.2.1.length = 32) (fun x => d - x.1) (0, List.replicate 32 0, 0) ⟨Nat.zero_le _, rfl⟩ (Ren.relOf [] rfl (by repeat constructor) ⟨rfl, rfl, trivial⟩) ?_
  rintro ⟨j, ys, dc⟩ ⟨hj, hl⟩
  dsimp only at hj hl ⊢
  have ej := i64_nat j (by omega)
  refine VC_ok ?_
  conv=>whnf
  refine ⟨fun hc => ?_, fun hc => ?_⟩
  · replace hc := of_decide_eq_true hc
    conv=>whnf
    repeat first|(refine Lt (by decide) ?_;conv=>whnf)|(refine Lf (by decide) ?_;conv=>whnf)|(refine And.intro (by first|decide|omega|(simp only [List.length_set];omega)) ?_;conv=>whnf)|(refine .inl ⟨by kernel_rfl,?_⟩;conv=>whnf)
    rw [ej]
    exact ⟨(j + 1, _, _), ⟨by dsimp only; omega, by simpa using hl⟩, by dsimp only; omega, Ren.relOf [] rfl (by repeat constructor) ⟨rfl, rfl, trivial⟩⟩
  conv=>whnf
  refine ⟨rfl, ?_⟩
  conv=>whnf
  refine ⟨fun _=>?_, fun _=>?_⟩
  · conv=>whnf
    exact ⟨[some (.ar false .i16 xs)], rfl, ⟨rfl, trivial⟩, _, rfl, rfl⟩
  conv=>whnf
  have e1 : IntKind.i64.wrap ((d : Int) - 1) = ((d - 1 : Nat) : Int) := by rw [IntWalk.i64_in _ (by omega)]; omega
  rw [e1]
  refine WpS.loop (ι := Nat × List Int × Int) (fun x => mkSt [(4, .c (.p 1 0)), (5, .c (.sl 1 (16 * ((x.1 + 1) % 2)) 16 16)), (8, .c (.i .i32 x.2.2)), (9, .c (.i .i64 x.1))] [some (.ar false .i16 xs), some (.ar false .i32 x.2.1)] 159) (fun x => x.1 < d ∧ x.2.1.length = 32) (fun x => x.1) (d - 1, ys, 1073741824) ⟨by dsimp only; omega, hl⟩ (Ren.relOf [] rfl (by simp only [show (d - 1 + 1) % 2 = 0 by omega]; repeat constructor) ⟨rfl, rfl, trivial⟩) ?_
  clear hl hj ej
  rintro ⟨k, ys, ig⟩ ⟨hk, hl⟩
  dsimp only at hk hl ⊢
  have ek := and1 (k := k) (by omega)
  have hp1 : (k + 1) % 2 < 2 := Nat.mod_lt _ (by decide)
  generalize hp : (k + 1) % 2 = p at hp1
  refine VC_ok ?_
  conv=>whnf
  refine ⟨fun hc => ?_, fun hc => ?_⟩
  · replace hc := of_decide_eq_true hc
    conv=>whnf
    refine ⟨by omega, ?_⟩
    conv=>whnf
    refine ⟨by omega, ?_⟩
    conv=>whnf
    generalize hv : ys.getD (16 * p + Int.toNat (k : Int)) 0 = v
    generalize hx : decide (v > 16773022) = x
    cases x
    rotate_left
    · conv=>whnf
      repeat first|(refine Lt (by decide) ?_;conv=>whnf)|(refine Lf (by decide) ?_;conv=>whnf)|(refine And.intro (by first|decide|omega|(simp only [List.length_set];omega)) ?_;conv=>whnf)|(refine .inl ⟨by kernel_rfl,?_⟩;conv=>whnf)
      refine ⟨rfl, ?_⟩
      conv=>whnf
      exact ⟨[some (.ar false .i16 xs)], rfl, ⟨rfl, trivial⟩, _, rfl, rfl⟩
    replace hx := of_decide_eq_false hx
    conv=>whnf
    repeat first|(refine Lt (by decide) ?_;conv=>whnf)|(refine Lf (by decide) ?_;conv=>whnf)|(refine And.intro (by first|decide|omega|(simp only [List.length_set];omega)) ?_;conv=>whnf)|(refine .inl ⟨by kernel_rfl,?_⟩;conv=>whnf)
    rw [hv]
    refine ⟨fun hc => ?_, fun hc3 => ?_⟩
    · conv=>whnf
      refine ⟨rfl, ?_⟩
      conv=>whnf
      exact ⟨[some (.ar false .i16 xs)], rfl, ⟨rfl, trivial⟩, _, rfl, rfl⟩
    replace hc3 := of_decide_eq_false hc3
    conv=>whnf
    repeat first|(refine Lt (by decide) ?_;conv=>whnf)|(refine Lf (by decide) ?_;conv=>whnf)|(refine And.intro (by first|decide|omega|(simp only [List.length_set];omega)) ?_;conv=>whnf)|(refine .inl ⟨by kernel_rfl,?_⟩;conv=>whnf)
    rw [hv]
    obtain ⟨er, m, em, hm⟩ := rcOk (v := v) (by omega)
    generalize IntKind.i32.wrap (0 - IntKind.i32.wrap (v * 2 ^ min (Int.toNat 7) IntKind.i32.bits)) = rc at er em
    refine CallQ.use [] (f287 _ _) rfl rfl trivial ?_
    rintro v' l' ⟨rfl, rfl⟩
    conv=>whnf
    rw [em]
    refine CallQ.use [] (f289 _) rfl rfl trivial ?_
    rintro v' l' ⟨rfl, rfl⟩
    rw [if_neg (by omega)]
    conv=>whnf
    refine CallQ.use [] (f288 m (by omega)) rfl rfl trivial ?_
    rintro v' l' ⟨r, rfl, rfl, hr, h1, h2⟩
    have e2 : IntKind.i64.wrap (32 - (32 - (r : Int))) = r := by rw [IntWalk.i64_in _ (by omega)]; omega
    conv=>whnf
    rw [e2]
    have e3 : IntKind.i64.wrap ((r : Int) + 30) = r + 30 := IntWalk.i64_in _ (by omega)
    refine CallQ.use [] (f290 m (IntKind.i64.wrap ((r : Int) + 30)) (by omega) (by omega)) rfl rfl trivial ?_
    rintro v' l' ⟨iv, rfl, rfl⟩
    conv=>whnf
    refine CallQ.use [] (f287 _ _) rfl rfl trivial ?_
    rintro v' l' ⟨rfl, rfl⟩
    conv=>whnf
    repeat first|(refine Lt (by decide) ?_;conv=>whnf)|(refine Lf (by decide) ?_;conv=>whnf)|(refine And.intro (by first|decide|omega|(simp only [List.length_set];omega)) ?_;conv=>whnf)|(refine .inl ⟨by kernel_rfl,?_⟩;conv=>whnf)
    rw [ek]
    have hp2 : k % 2 < 2 := Nat.mod_lt _ (by decide)
    have hpk : (k - 1 + 1) % 2 = k % 2 := by rw [Nat.sub_add_cancel (by omega)]
    generalize k % 2 = p2 at hp2 hpk
    have e7 : 0 + Int.toNat (p2 : Int) * (14 + 2) = 16 * p2 := by omega
    repeat first|(refine Lt (by decide) ?_;conv=>whnf)|(refine Lf (by decide) ?_;conv=>whnf)|(refine And.intro (by first|decide|omega|(simp only [List.length_set];omega)) ?_;conv=>whnf)|(refine .inl ⟨by kernel_rfl,?_⟩;conv=>whnf)
    rw [e7]
    refine WpS.loop (ι := Nat × List Int) (fun x => mkSt [(4, .c (.p 1 0)), (5, .c (.sl 1 (16 * p2) 16 16)), (8, .c (.i .i32 _)), (9, .c (.i .i64 k)), (10, .c (.i .i32 rc)), (12, .c (.i .i64 r)), (13, .c (.i .i32 iv)), (14, .c (.sl 1 (16 * p) 16 16)), (15, .c (.i .i64 x.1))] [some (.ar false .i16 xs), some (.ar false .i32 x.2)] 159) (fun x => x.1 ≤ k ∧ x.2.length = 32) (fun x => k - x.1) (0, ys) ⟨Nat.zero_le _, hl⟩ (Ren.relOf [] rfl (by repeat constructor) ⟨rfl, rfl, trivial⟩) ?_
    clear hl hv
    rintro ⟨n, zs⟩ ⟨hn, hl⟩
    dsimp only at hn hl ⊢
    have en := i64_nat n (by omega)
    refine VC_ok ?_
    conv=>whnf
    refine ⟨fun hc4 => ?_, fun hc4 => ?_⟩
    · replace hc4 := of_decide_eq_true hc4
      conv=>whnf
      refine .inr (WpS.draw [0, 0, 0, 1, 0, 0, 0, 0, 0, 0, 1, 0, 0, 0, 0, 2, 0, 2, 0] (fun st2 => st2 1 = some (.ar false .i32 zs)) (by kernel_rfl) ?_)
      conv=>whnf
      have f1 : IntKind.i64.wrap ((k : Int) - n) = k - n := IntWalk.i64_in _ (by omega)
      have f2 : IntKind.i64.wrap ((k : Int) - n - 1) = k - n - 1 := IntWalk.i64_in _ (by omega)
      refine ⟨by omega, ?_⟩
      conv=>whnf
      refine ⟨.c (.i .i32 (zs.getD (16 * p + Int.toNat (n : Int)) 0)), ⟨rfl, fun st2 h2 => ⟨_, h2, .inr ⟨_, rfl, by omega⟩⟩⟩, ?_⟩
      conv=>whnf
      rw [f1]
      refine ⟨by rw [f2]; omega, ?_⟩
      conv=>whnf
      rw [f2]
      refine ⟨.c (.i .i32 (zs.getD (16 * p + Int.toNat ((k : Int) - n - 1)) 0)), ⟨rfl, fun st2 h2 => ⟨_, h2, .inr ⟨_, rfl, by omega⟩⟩⟩, ?_⟩
      conv=>whnf
      refine ⟨rfl, ?_⟩
      refine CallQ.use [] (f292 _ _ (by decide)) rfl rfl trivial ?_
      rintro v' l' ⟨r1, rfl, rfl⟩
      refine ⟨rfl, ?_⟩
      conv=>whnf
      refine ⟨rfl, ?_⟩
      refine CallQ.use [] (f291 _ _) rfl rfl trivial ?_
      rintro v' l' ⟨r2, rfl, rfl⟩
      refine ⟨rfl, ?_⟩
      conv=>whnf
      refine ⟨rfl, ?_⟩
      conv=>whnf
      refine CallQ.use [] (f292 _ r (by omega)) rfl rfl trivial ?_
      rintro v' l' ⟨r3, rfl, rfl⟩
      conv=>whnf
      generalize hx : decide (r3 > 2147483647) = x
      cases x
      rotate_left
      · conv=>whnf
        repeat first|(refine Lt (by decide) ?_;conv=>whnf)|(refine Lf (by decide) ?_;conv=>whnf)|(refine And.intro (by first|decide|omega|(simp only [List.length_set];omega)) ?_;conv=>whnf)|(refine .inl ⟨by kernel_rfl,?_⟩;conv=>whnf)
        refine ⟨rfl, ?_⟩
        conv=>whnf
        refine ⟨rfl, ?_⟩
        conv=>whnf
        exact ⟨[some (.ar false .i16 xs)], rfl, ⟨rfl, trivial⟩, _, rfl, rfl⟩
      conv=>whnf
      repeat first|(refine Lt (by decide) ?_;conv=>whnf)|(refine Lf (by decide) ?_;conv=>whnf)|(refine And.intro (by first|decide|omega|(simp only [List.length_set];omega)) ?_;conv=>whnf)|(refine .inl ⟨by kernel_rfl,?_⟩;conv=>whnf)
      refine ⟨fun _=>?_, fun _=>?_⟩
      · conv=>whnf
        refine ⟨rfl, ?_⟩
        conv=>whnf
        refine ⟨rfl, ?_⟩
        conv=>whnf
        exact ⟨[some (.ar false .i16 xs)], rfl, ⟨rfl, trivial⟩, _, rfl, rfl⟩
      conv=>whnf
      repeat first|(refine Lt (by decide) ?_;conv=>whnf)|(refine Lf (by decide) ?_;conv=>whnf)|(refine And.intro (by first|decide|omega|(simp only [List.length_set];omega)) ?_;conv=>whnf)|(refine .inl ⟨by kernel_rfl,?_⟩;conv=>whnf)
      rw [en]
      exact ⟨(n + 1, _), ⟨by dsimp only; omega, by simpa using hl⟩, by dsimp only; omega, Ren.relOf [] rfl (by repeat constructor) ⟨rfl, rfl, trivial⟩⟩
    · conv=>whnf
      refine ⟨rfl, ?_⟩
      conv=>whnf
      have e8 : IntKind.i64.wrap ((k : Int) - 1) = ((k - 1 : Nat) : Int) := by rw [IntWalk.i64_in _ (by omega)]; omega
      rw [e8]
      exact ⟨(k - 1, zs, _), ⟨by dsimp only; omega, hl⟩, by dsimp only; omega, Ren.relOf [] rfl (by simp only [hpk]; repeat constructor) ⟨rfl, rfl, trivial⟩⟩
  · replace hc := of_decide_eq_false hc
    conv=>whnf
    refine ⟨rfl, ?_⟩
    conv=>whnf
    have g0 : Int.toNat 0 = 0 := rfl
    refine ⟨by omega, ?_⟩
    conv=>whnf
    refine ⟨by omega, ?_⟩
    conv=>whnf
    generalize hv : ys.getD (16 * p + Int.toNat 0) 0 = v
    generalize hx : decide (v > 16773022) = x
    cases x
    rotate_left
    · conv=>whnf
      repeat first|(refine Lt (by decide) ?_;conv=>whnf)|(refine Lf (by decide) ?_;conv=>whnf)|(refine And.intro (by first|decide|omega|(simp only [List.length_set];omega)) ?_;conv=>whnf)|(refine .inl ⟨by kernel_rfl,?_⟩;conv=>whnf)
      exact ⟨[some (.ar false .i16 xs)], rfl, ⟨rfl, trivial⟩, _, rfl, rfl⟩
    replace hx := of_decide_eq_false hx
    conv=>whnf
    repeat first|(refine Lt (by decide) ?_;conv=>whnf)|(refine Lf (by decide) ?_;conv=>whnf)|(refine And.intro (by first|decide|omega|(simp only [List.length_set];omega)) ?_;conv=>whnf)|(refine .inl ⟨by kernel_rfl,?_⟩;conv=>whnf)
    rw [hv]
    refine ⟨fun hc => ?_, fun hc3 => ?_⟩
    · conv=>whnf
      exact ⟨[some (.ar false .i16 xs)], rfl, ⟨rfl, trivial⟩, _, rfl, rfl⟩
    conv=>whnf
    repeat first|(refine Lt (by decide) ?_;conv=>whnf)|(refine Lf (by decide) ?_;conv=>whnf)|(refine And.intro (by first|decide|omega|(simp only [List.length_set];omega)) ?_;conv=>whnf)|(refine .inl ⟨by kernel_rfl,?_⟩;conv=>whnf)
    refine CallQ.use [] (f287 _ _) rfl rfl trivial ?_
    rintro v' l' ⟨rfl, rfl⟩
    conv=>whnf
    refine CallQ.use [] (f287 _ _) rfl rfl trivial ?_
    rintro v' l' ⟨rfl, rfl⟩
    conv=>whnf
    repeat first|(refine Lt (by decide) ?_;conv=>whnf)|(refine Lf (by decide) ?_;conv=>whnf)|(refine And.intro (by first|decide|omega|(simp only [List.length_set];omega)) ?_;conv=>whnf)|(refine .inl ⟨by kernel_rfl,?_⟩;conv=>whnf)
    exact ⟨[some (.ar false .i16 xs)], rfl, ⟨rfl, trivial⟩, _, rfl, rfl⟩
end Go.SX
