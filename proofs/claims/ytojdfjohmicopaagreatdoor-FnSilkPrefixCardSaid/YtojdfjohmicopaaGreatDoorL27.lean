/- A part of the proof: the SILK decoder of the given program, walked by an executor that is proved sound. No statement of the program is proved in this text. -/
import Derived.Test.YtojdfjohmicopaaGreatDoorL22
import Derived.Test.YtojdfjohmicopaaGreatDoorL26
set_option linter.all false
set_option maxRecDepth 100000
namespace Go.SX
open Go
def P2 (p : Nat × Nat) : List Int := [(p.1 : Int), (p.2 : Int)]
def Pk (p : Nat × Nat) : Prop := p.1 ≤ 16 ∧ p.2 ≤ 16
theorem pick2 {p : Nat × Nat} (h : Pk p) {j : Nat} (hj : j < 2) : ∃ m : Nat, m ≤ 16 ∧ (P2 p).getD (0 + Int.toNat (j : Int)) 0 = m := by
  have : j = 0 ∨ j = 1 := by omega
  rcases this with rfl | rfl
  · exact ⟨p.1, h.1, rfl⟩
  · exact ⟨p.2, h.2, rfl⟩
theorem in_nat {hi n : Nat} {xs : List Int} (h : In 0 hi n xs) {j : Nat} (hj : j < n) : ∃ m : Nat, m ≤ hi ∧ xs.getD (0 + Int.toNat (j : Int)) 0 = m := by
  have h1 := h j hj
  rw [zero_nat]
  exact ⟨(xs.getD j 0).toNat, by omega, by omega⟩
theorem f191 (sd : Bool) (a : Nat) (q : Nat × Nat) (D : Dec) (Z : Nat → Buf) (n cap1 : Nat) (ps : List Int) (hD : D.Ok) (hn : n ≤ 20 ∧ n ≤ ps.length) (hp : In 0 16 n ps) :
    FnS 191 [.c (.p 0 0), .c (.sl 1 0 n cap1)] (lay [(0, .st (cells sd [] a q D Z)), (1, .ar false .u8 ps), (3, .ar false .i32 (Z 3).xs)] 38) fun v l' => ∃ (D' : Dec) (B1 : Buf), D'.Ok ∧ v = .c (.sl 38 0 (16 * n) B1.cap) ∧ 16 * n ≤ B1.cap ∧ l' = lay [(0, .st (cells sd [(3, 38)] a q D' (setZ Z 3 B1))), (1, .ar false .u8 ps), (38, .ar false .i32 B1.xs)] 39 := by
  refine FnS.wpR (b := 38) Proofs.Tryz.f191 rfl rfl rfl rfl rfl rfl ?_
  refine WpN.seq (WpN.vc ?_)
  conv=>whnf
  refine WpN.seq (WpN.vc ?_)
  conv=>whnf
  have e16 : IntKind.i64.wrap ((n : Int) * 16) = ((16 * n : Nat) : Int) := by rw [IntWalk.i64_in _ (by omega)]; omega
  rw [e16]
  refine rz136 (m := 37) (j := 3) (n := ((16 * n : Nat) : Int)) _ rfl rfl (fun c => rfl) (by decide) rfl (Z 3).ok (by decide) (by omega) fun B1 hB1 _ => ?_
  rw [Int.toNat_natCast] at hB1 ⊢
  have hb1 := B1.ok
  conv=>whnf
  refine WpN.vc ?_
  conv=>whnf
  refine WpS.loop (ι := Nat × Dec × List Int) (fun x => mkSt [(0, .c (.p 0 0)), (1, .c (.sl 1 0 n cap1)), (4, .c (.sl 38 0 (16 * n) B1.cap)), (22, .c (.i .i64 n)), (23, .c (.i .i64 x.1))] (lay [(0, .st (cells sd [(3, 38)] a q x.2.1 (setZ Z 3 B1))), (1, .ar false .u8 ps), (38, .ar false .i32 x.2.2)] 39) 92) (fun x => x.1 ≤ n ∧ x.2.1.Ok ∧ x.2.2.length = B1.xs.length) (fun x => n - x.1) (0, D, B1.xs) ⟨Nat.zero_le _, hD, rfl⟩ (Rel.layD (by repeat constructor) (by first | rfl | (cases sd <;> rfl)) ⟨rfl, rfl, trivial⟩ (by cases sd <;> kernel_rfl)) ?_
  clear hD
  rintro ⟨i, D1, zs⟩ ⟨hi, hD1, hzl⟩
  dsimp only at hi hD1 hzl ⊢
  have ei := i64_nat i (by omega)
  refine VC_ok ?_
  conv=>whnf
  refine ⟨fun hc => ?_, fun hc => ?_⟩
  rotate_left
  · conv=>whnf
    refine ⟨rfl, ?_⟩
    conv=>whnf
    exact ⟨[], .c (.sl 38 0 (16 * n) B1.cap), lay [(0, .st (cells sd [(3, 38)] a q D1 (setZ Z 3 ⟨B1.cap, zs, B1.ys, by omega, B1.okb⟩))), (1, .ar false .u8 ps), (38, .ar false .i32 zs)] 39, rfl, by cases sd <;> kernel_rfl, stEq_lay (by cases sd <;> repeat constructor) 39 0, D1, ⟨B1.cap, zs, B1.ys, by omega, B1.okb⟩, hD1, rfl, hB1, rfl⟩
  replace hc := of_decide_eq_true hc
  obtain ⟨m0, hm0, em0⟩ := in_nat hp (j := i) (by omega)
  conv=>whnf
  refine And.intro (by omega) ?_
  conv=>whnf
  refine And.intro (by omega) ?_
  conv=>whnf
  rw [em0]
  refine ⟨fun _=>?_, fun _=>?_⟩
  · conv=>whnf
    rw [ei]
    exact ⟨(i + 1, D1, zs), ⟨by dsimp only; omega, hD1, hzl⟩, by dsimp only; omega, Rel.layD (by repeat constructor) (by first | rfl | (cases sd <;> rfl)) ⟨rfl, rfl, trivial⟩ (by cases sd <;> kernel_rfl)⟩
  conv=>whnf
  refine .inr (WpS.draw [0, 2, 0, 0, 0, 1, 0, 3] (fun st2 => st2 1 = some (.ar false .u8 ps)) (by kernel_rfl) ?_)
  conv=>whnf
  refine ⟨rfl, ?_⟩
  refine CallQ.use [] t227 rfl rfl trivial ?_
  rintro v l' ⟨rfl, rfl⟩
  refine ⟨rfl, ?_⟩
  conv=>whnf
  refine And.intro (by omega) ?_
  conv=>whnf
  refine ⟨.c (.i .u8 (ps.getD (0 + Int.toNat (i : Int)) 0)), ⟨rfl, fun st2 h2 => ⟨_, h2, .inr ⟨_, rfl, by omega⟩⟩⟩, ?_⟩
  rw [em0]
  conv=>whnf
  refine And.intro (by decide) ?_
  conv=>whnf
  refine CallQ.useF [0, 1, 2, 38, 4, 5, 6, 7, 8, 9, 10, 11, 12, 13, 14, 15, 16, 17, 18, 19, 20, 21, 22, 23, 24, 25, 26, 27, 28, 29, 30, 31, 32, 33, 34, 35, 36, 37, 39] (f226 sd a q D1 (setZ Z 3 B1) T227 m0 0 0 hD1 T227_ok hm0) rfl (by cases sd <;> kernel_rfl) (stEq_lay (by cases sd <;> repeat constructor) 39 0) ?_
  rintro v l' ⟨D2, u1, u2, hD2, hu, rfl, rfl⟩
  conv=>whnf
  refine ⟨rfl, ?_⟩
  conv=>whnf
  have ee : IntKind.i64.wrap (16 * (i : Int)) = ((16 * i : Nat) : Int) := by rw [IntWalk.i64_in _ (by omega)]; omega
  rw [ee]
  refine WpS.loop (ι := Nat × Dec × List Int × (Nat × Nat) × (Nat × Nat) × (Nat × Nat)) (fun x => mkSt [(0, .c (.p 0 0)), (1, .c (.sl 1 0 n cap1)), (4, .c (.sl 38 0 (16 * n) B1.cap)), (22, .c (.i .i64 n)), (23, .c (.i .i64 i)), (7, .c (.p 39 0)), (8, .c (.p 40 0)), (9, .c (.p 41 0)), (10, .c (.p 42 0)), (6, .c (.i .i64 ((16 * i + 8 * x.1 : Nat) : Int))), (41, .c (.i .i64 x.1))] (lay [(0, .st (cells sd [(3, 38)] a q x.2.1 (setZ Z 3 B1))), (1, .ar false .u8 ps), (38, .ar false .i32 x.2.2.1), (39, .ar false .u8 (P2 (u1, u2))), (40, .ar false .u8 (P2 x.2.2.2.1)), (41, .ar false .u8 (P2 x.2.2.2.2.1)), (42, .ar false .u8 (P2 x.2.2.2.2.2))] 43) 92) (fun x => x.1 ≤ 2 ∧ x.2.1.Ok ∧ x.2.2.1.length = B1.xs.length ∧ Pk x.2.2.2.1 ∧ Pk x.2.2.2.2.1 ∧ Pk x.2.2.2.2.2) (fun x => 2 - x.1) (0, D2, zs, (0, 0), (0, 0), (0, 0)) ⟨Nat.zero_le _, hD2, hzl, ⟨Nat.zero_le _, Nat.zero_le _⟩, ⟨Nat.zero_le _, Nat.zero_le _⟩, ⟨Nat.zero_le _, Nat.zero_le _⟩⟩ (Rel.layD (by repeat constructor) (by first | rfl | (cases sd <;> rfl)) ⟨rfl, rfl, rfl, rfl, rfl, rfl, trivial⟩ (by cases sd <;> kernel_rfl)) ?_
  clear hD1 hD2 hzl
  rintro ⟨x, D3, zs, A, B, C⟩ ⟨hx, hD3, hzl, hA, hB, hC⟩
  dsimp only at hx hD3 hzl hA hB hC ⊢
  have ex := i64_nat x (by omega)
  refine VC_ok ?_
  conv=>whnf
  refine ⟨fun hc2 => ?_, fun hc2 => ?_⟩
  rotate_left
  · conv=>whnf
    refine ⟨rfl, ?_⟩
    conv=>whnf
    rw [ei]
    exact ⟨(i + 1, D3, zs), ⟨by dsimp only; omega, hD3, hzl⟩, by dsimp only; omega, Rel.layD (by repeat constructor) (by first | rfl | (cases sd <;> rfl)) ⟨rfl, rfl, trivial⟩ (by cases sd <;> kernel_rfl)⟩
  replace hc2 := of_decide_eq_true hc2
  obtain ⟨m1, hm1, em1⟩ := pick2 (p := (u1, u2)) hu (j := x) (by omega)
  conv=>whnf
  refine .inr (WpS.draw [0, 2, 0, 0, 1, 0, 3] (fun st2 => st2 39 = some (.ar false .u8 (P2 (u1, u2)))) (by kernel_rfl) ?_)
  conv=>whnf
  refine ⟨rfl, ?_⟩
  refine CallQ.use [] t228 rfl rfl trivial ?_
  rintro v l' ⟨rfl, rfl⟩
  refine ⟨rfl, ?_⟩
  conv=>whnf
  refine And.intro (by omega) ?_
  conv=>whnf
  refine ⟨.c (.i .u8 ((P2 (u1, u2)).getD (0 + Int.toNat (x : Int)) 0)), ⟨rfl, fun st2 h2 => ⟨_, h2, .inr ⟨_, rfl, by show _ < 2; omega⟩⟩⟩, ?_⟩
  rw [em1]
  conv=>whnf
  refine And.intro (by decide) ?_
  conv=>whnf
  refine CallQ.useF [0, 1, 2, 38, 4, 5, 6, 7, 8, 9, 10, 11, 12, 13, 14, 15, 16, 17, 18, 19, 20, 21, 22, 23, 24, 25, 26, 27, 28, 29, 30, 31, 32, 33, 34, 35, 36, 37, 40] (f226 sd a q D3 (setZ Z 3 B1) T228 m1 A.1 A.2 hD3 T228_ok hm1) rfl (by cases sd <;> kernel_rfl) (stEq_lay (by cases sd <;> repeat constructor) 39 0) ?_
  rintro v l' ⟨D4, a1, a2, hD4, ha, rfl, rfl⟩
  conv=>whnf
  refine ⟨rfl, ?_⟩
  conv=>whnf
  refine WpS.loop (ι := Nat × Dec × List Int × (Nat × Nat) × (Nat × Nat)) (fun x2 => mkSt [(0, .c (.p 0 0)), (1, .c (.sl 1 0 n cap1)), (4, .c (.sl 38 0 (16 * n) B1.cap)), (22, .c (.i .i64 n)), (23, .c (.i .i64 i)), (7, .c (.p 39 0)), (8, .c (.p 40 0)), (9, .c (.p 41 0)), (10, .c (.p 42 0)), (6, .c (.i .i64 ((16 * i + 8 * x + 4 * x2.1 : Nat) : Int))), (41, .c (.i .i64 x)), (51, .c (.i .i64 x2.1))] (lay [(0, .st (cells sd [(3, 38)] a q x2.2.1 (setZ Z 3 B1))), (1, .ar false .u8 ps), (38, .ar false .i32 x2.2.2.1), (39, .ar false .u8 (P2 (u1, u2))), (40, .ar false .u8 (P2 (a1, a2))), (41, .ar false .u8 (P2 x2.2.2.2.1)), (42, .ar false .u8 (P2 x2.2.2.2.2))] 43) 92) (fun x => x.1 ≤ 2 ∧ x.2.1.Ok ∧ x.2.2.1.length = B1.xs.length ∧ Pk x.2.2.2.1 ∧ Pk x.2.2.2.2) (fun x => 2 - x.1) (0, D4, zs, B, C) ⟨Nat.zero_le _, hD4, hzl, hB, hC⟩ (Rel.layD (by repeat constructor) (by first | rfl | (cases sd <;> rfl)) ⟨rfl, rfl, rfl, rfl, rfl, rfl, trivial⟩ (by cases sd <;> kernel_rfl)) ?_
  clear hD3 hD4 hzl hA hB hC
  rintro ⟨y, D5, zs, B, C⟩ ⟨hy, hD5, hzl, hB, hC⟩
  dsimp only at hy hD5 hzl hB hC ⊢
  have ey := i64_nat y (by omega)
  refine VC_ok ?_
  conv=>whnf
  refine ⟨fun hc3 => ?_, fun hc3 => ?_⟩
  rotate_left
  · have hy2 : y = 2 := by have := of_decide_eq_false hc3; omega
    subst hy2
    conv=>whnf
    refine ⟨rfl, ?_⟩
    conv=>whnf
    rw [ex]
    exact ⟨(x + 1, D5, zs, (a1, a2), B, C), ⟨by dsimp only; omega, hD5, hzl, ha, hB, hC⟩, by dsimp only; omega, Rel.layD (by repeat constructor) (by first | rfl | (cases sd <;> rfl)) ⟨rfl, rfl, rfl, rfl, rfl, rfl, trivial⟩ (by cases sd <;> kernel_rfl)⟩
  replace hc3 := of_decide_eq_true hc3
  obtain ⟨m2, hm2, em2⟩ := pick2 (p := (a1, a2)) ha (j := y) (by omega)
  conv=>whnf
  refine .inr (WpS.draw [0, 2, 0, 0, 1, 0, 3] (fun st2 => st2 40 = some (.ar false .u8 (P2 (a1, a2)))) (by kernel_rfl) ?_)
  conv=>whnf
  refine ⟨rfl, ?_⟩
  refine CallQ.use [] t229 rfl rfl trivial ?_
  rintro v l' ⟨rfl, rfl⟩
  refine ⟨rfl, ?_⟩
  conv=>whnf
  refine And.intro (by omega) ?_
  conv=>whnf
  refine ⟨.c (.i .u8 ((P2 (a1, a2)).getD (0 + Int.toNat (y : Int)) 0)), ⟨rfl, fun st2 h2 => ⟨_, h2, .inr ⟨_, rfl, by show _ < 2; omega⟩⟩⟩, ?_⟩
  rw [em2]
  conv=>whnf
  refine And.intro (by decide) ?_
  conv=>whnf
  refine CallQ.useF [0, 1, 2, 38, 4, 5, 6, 7, 8, 9, 10, 11, 12, 13, 14, 15, 16, 17, 18, 19, 20, 21, 22, 23, 24, 25, 26, 27, 28, 29, 30, 31, 32, 33, 34, 35, 36, 37, 41] (f226 sd a q D5 (setZ Z 3 B1) T229 m2 B.1 B.2 hD5 T229_ok hm2) rfl (by cases sd <;> kernel_rfl) (stEq_lay (by cases sd <;> repeat constructor) 39 0) ?_
  rintro v l' ⟨D6, b1, b2, hD6, hb, rfl, rfl⟩
  conv=>whnf
  refine ⟨rfl, ?_⟩
  conv=>whnf
  refine WpS.loop (ι := Nat × Dec × List Int × (Nat × Nat)) (fun x2 => mkSt [(0, .c (.p 0 0)), (1, .c (.sl 1 0 n cap1)), (4, .c (.sl 38 0 (16 * n) B1.cap)), (22, .c (.i .i64 n)), (23, .c (.i .i64 i)), (7, .c (.p 39 0)), (8, .c (.p 40 0)), (9, .c (.p 41 0)), (10, .c (.p 42 0)), (6, .c (.i .i64 ((16 * i + 8 * x + 4 * y + 2 * x2.1 : Nat) : Int))), (41, .c (.i .i64 x)), (51, .c (.i .i64 y)), (61, .c (.i .i64 x2.1))] (lay [(0, .st (cells sd [(3, 38)] a q x2.2.1 (setZ Z 3 B1))), (1, .ar false .u8 ps), (38, .ar false .i32 x2.2.2.1), (39, .ar false .u8 (P2 (u1, u2))), (40, .ar false .u8 (P2 (a1, a2))), (41, .ar false .u8 (P2 (b1, b2))), (42, .ar false .u8 (P2 x2.2.2.2))] 43) 92) (fun x => x.1 ≤ 2 ∧ x.2.1.Ok ∧ x.2.2.1.length = B1.xs.length ∧ Pk x.2.2.2) (fun x => 2 - x.1) (0, D6, zs, C) ⟨Nat.zero_le _, hD6, hzl, hC⟩ (Rel.layD (by repeat constructor) (by first | rfl | (cases sd <;> rfl)) ⟨rfl, rfl, rfl, rfl, rfl, rfl, trivial⟩ (by cases sd <;> kernel_rfl)) ?_
  clear hD5 hD6 hzl hB hC
  rintro ⟨z, D7, zs, C⟩ ⟨hz, hD7, hzl, hC⟩
  dsimp only at hz hD7 hzl hC ⊢
  have ez := i64_nat z (by omega)
  refine VC_ok ?_
  conv=>whnf
  refine ⟨fun hc4 => ?_, fun hc4 => ?_⟩
  rotate_left
  · have hz2 : z = 2 := by have := of_decide_eq_false hc4; omega
    subst hz2
    conv=>whnf
    refine ⟨rfl, ?_⟩
    conv=>whnf
    rw [ey]
    exact ⟨(y + 1, D7, zs, (b1, b2), C), ⟨by dsimp only; omega, hD7, hzl, hb, hC⟩, by dsimp only; omega, Rel.layD (by repeat constructor) (by first | rfl | (cases sd <;> rfl)) ⟨rfl, rfl, rfl, rfl, rfl, rfl, trivial⟩ (by cases sd <;> kernel_rfl)⟩
  replace hc4 := of_decide_eq_true hc4
  obtain ⟨m3, hm3, em3⟩ := pick2 (p := (b1, b2)) hb (j := z) (by omega)
  conv=>whnf
  refine .inr (WpS.draw [0, 2, 0, 0, 1, 0, 3] (fun st2 => st2 41 = some (.ar false .u8 (P2 (b1, b2)))) (by kernel_rfl) ?_)
  conv=>whnf
  refine ⟨rfl, ?_⟩
  refine CallQ.use [] t230 rfl rfl trivial ?_
  rintro v l' ⟨rfl, rfl⟩
  refine ⟨rfl, ?_⟩
  conv=>whnf
  refine And.intro (by omega) ?_
  conv=>whnf
  refine ⟨.c (.i .u8 ((P2 (b1, b2)).getD (0 + Int.toNat (z : Int)) 0)), ⟨rfl, fun st2 h2 => ⟨_, h2, .inr ⟨_, rfl, by show _ < 2; omega⟩⟩⟩, ?_⟩
  rw [em3]
  conv=>whnf
  refine And.intro (by decide) ?_
  conv=>whnf
  refine CallQ.useF [0, 1, 2, 38, 4, 5, 6, 7, 8, 9, 10, 11, 12, 13, 14, 15, 16, 17, 18, 19, 20, 21, 22, 23, 24, 25, 26, 27, 28, 29, 30, 31, 32, 33, 34, 35, 36, 37, 42] (f226 sd a q D7 (setZ Z 3 B1) T230 m3 C.1 C.2 hD7 T230_ok hm3) rfl (by cases sd <;> kernel_rfl) (stEq_lay (by cases sd <;> repeat constructor) 39 0) ?_
  rintro v l' ⟨D8, c1, c2, hD8, hcc, rfl, rfl⟩
  conv=>whnf
  refine ⟨rfl, ?_⟩
  conv=>whnf
  have ew1 := i64_nat (16 * i + 8 * x + 4 * y + 2 * z) (by omega)
  have ew2 := i64_nat (16 * i + 8 * x + 4 * y + 2 * z + 1) (by omega)
  have ew3 : 16 * i + 8 * x + 4 * y + 2 * z + 1 + 1 = 16 * i + 8 * x + 4 * y + 2 * (z + 1) := by omega
  repeat first|(refine Lt (by decide) ?_;conv=>whnf)|(refine Lf (by decide) ?_;conv=>whnf)|(refine And.intro (by first|decide|omega|(simp only [List.length_set];omega)) ?_;conv=>whnf)|(refine .inl ⟨by kernel_rfl,?_⟩;conv=>whnf)|(refine And.intro (by simp only [List.length_set,List.length_cons,List.length_nil];omega) ?_;conv=>whnf)
  rw [ew1, ew2, ez, ew3]
  exact ⟨(z + 1, D8, _, (c1, c2)), ⟨by dsimp only; omega, hD8, by simpa using hzl, hcc⟩, by dsimp only; omega, Rel.layD (by repeat constructor) (by first | rfl | (cases sd <;> rfl)) ⟨rfl, rfl, rfl, rfl, rfl, rfl, trivial⟩ (by cases sd <;> kernel_rfl)⟩
theorem f192 (sd : Bool) (a : Nat) (q : Nat × Nat) (D : Dec) (Z : Nat → Buf) (n cap2 cap3 : Nat) (ls xs : List Int) (hD : D.Ok) (hn : n ≤ 20 ∧ n ≤ ls.length ∧ 16 * n ≤ xs.length) (hl : In 0 10 n ls) :
    FnS 192 [.c (.p 0 0), .c (.sl 3 0 (16 * n) cap3), .c (.sl 2 0 n cap2)] (lay [(0, .st (cells sd [] a q D Z)), (2, .ar false .u8 ls), (3, .ar false .i32 xs)] 38) fun v l' => ∃ (D' : Dec) (ys : List Int), D'.Ok ∧ v = .tu [] ∧ ys.length = xs.length ∧ l' = lay [(0, .st (cells sd [] a q D' Z)), (2, .ar false .u8 ls), (3, .ar false .i32 ys)] 38 := by
  refine FnS.wpR (b := 38) Proofs.Tryz.f192 rfl rfl rfl rfl rfl rfl ?_
  refine WpN.vc ?_
  conv=>whnf
  refine WpS.loop (ι := Nat × Dec × List Int) (fun x => mkSt [(0, .c (.p 0 0)), (1, .c (.sl 3 0 (16 * n) cap3)), (2, .c (.sl 2 0 n cap2)), (9, .c (.i .i64 ((16 * n : Nat) : Int))), (10, .c (.i .i64 x.1))] (lay [(0, .st (cells sd [] a q x.2.1 Z)), (2, .ar false .u8 ls), (3, .ar false .i32 x.2.2)] 38) 38) (fun x => x.1 ≤ 16 * n ∧ x.2.1.Ok ∧ x.2.2.length = xs.length) (fun x => 16 * n - x.1) (0, D, xs) ⟨Nat.zero_le _, hD, rfl⟩ (Rel.layD (by repeat constructor) (by first | rfl | (cases sd <;> rfl)) ⟨rfl, rfl, trivial⟩ (by cases sd <;> kernel_rfl)) ?_
  clear hD
  rintro ⟨i, D1, zs⟩ ⟨hi, hD1, hzl⟩
  dsimp only at hi hD1 hzl ⊢
  have ei := i64_nat i (by omega)
  refine VC_ok ?_
  conv=>whnf
  refine ⟨fun hc => ?_, fun hc => ?_⟩
  rotate_left
  · conv=>whnf
    refine ⟨rfl, ?_⟩
    conv=>whnf
    exact ⟨[], .tu [], lay [(0, .st (cells sd [] a q D1 Z)), (2, .ar false .u8 ls), (3, .ar false .i32 zs)] 38, rfl, by cases sd <;> kernel_rfl, stEq_lay (by cases sd <;> repeat constructor) 38 0, D1, zs, hD1, rfl, hzl, rfl⟩
  replace hc := of_decide_eq_true hc
  have eq : IntKind.i64.wrap ((i : Int).tdiv 16) = ((i / 16 : Nat) : Int) := by rw [IntWalk.i64_quo _ _ (by omega)]; rfl
  obtain ⟨m, hm, em⟩ := in_nat (hi := 10) hl (j := i / 16) (by omega)
  conv=>whnf
  refine WpS.loop (ι := Nat × Dec × List Int) (fun x => mkSt [(0, .c (.p 0 0)), (1, .c (.sl 3 0 (16 * n) cap3)), (2, .c (.sl 2 0 n cap2)), (9, .c (.i .i64 ((16 * n : Nat) : Int))), (10, .c (.i .i64 i)), (6, .c (.i .i64 i)), (7, .c (.i .u8 x.1))] (lay [(0, .st (cells sd [] a q x.2.1 Z)), (2, .ar false .u8 ls), (3, .ar false .i32 x.2.2)] 38) 38) (fun x => x.1 ≤ m ∧ x.2.1.Ok ∧ x.2.2.length = xs.length) (fun x => m - x.1) (0, D1, zs) ⟨Nat.zero_le _, hD1, hzl⟩ (Rel.layD (by repeat constructor) (by first | rfl | (cases sd <;> rfl)) ⟨rfl, rfl, trivial⟩ (by cases sd <;> kernel_rfl)) ?_
  clear hD1 hzl
  rintro ⟨j, D2, zs⟩ ⟨hj, hD2, hzl⟩
  dsimp only at hj hD2 hzl ⊢
  have ej : IntKind.u8.wrap ((j : Int) + 1) = ((j + 1 : Nat) : Int) := by rw [IntWalk.u8_in _ (by omega)]; rfl
  refine VC_ok ?_
  conv=>whnf
  refine And.intro (by decide) ?_
  conv=>whnf
  rw [eq]
  refine And.intro (by omega) ?_
  conv=>whnf
  refine And.intro (by omega) ?_
  conv=>whnf
  rw [em]
  refine ⟨fun hc2 => ?_, fun hc2 => ?_⟩
  rotate_left
  · conv=>whnf
    refine ⟨rfl, ?_⟩
    conv=>whnf
    rw [ei]
    exact ⟨(i + 1, D2, zs), ⟨by dsimp only; omega, hD2, hzl⟩, by dsimp only; omega, Rel.layD (by repeat constructor) (by first | rfl | (cases sd <;> rfl)) ⟨rfl, rfl, trivial⟩ (by cases sd <;> kernel_rfl)⟩
  replace hc2 := of_decide_eq_true hc2
  conv=>whnf
  refine .inr (WpS.draw [0, 0, 0, 0, 0, 1, 0, 0, 0, 0, 2, 2, 0, 0, 0, 3] (fun st2 => st2 3 = some (.ar false .i32 zs)) (by kernel_rfl) ?_)
  conv=>whnf
  refine And.intro (by omega) ?_
  conv=>whnf
  refine ⟨.c (.i .i32 (zs.getD (0 + Int.toNat (i : Int)) 0)), ⟨rfl, fun st2 h2 => ⟨_, h2, .inr ⟨_, rfl, by omega⟩⟩⟩, ?_⟩
  conv=>whnf
  refine And.intro (by decide) ?_
  conv=>whnf
  refine ⟨rfl, ?_⟩
  refine CallQ.use [] t231 rfl rfl trivial ?_
  rintro v l' ⟨rfl, rfl⟩
  refine ⟨rfl, ?_⟩
  conv=>whnf
  refine ⟨rfl, ?_⟩
  refine CallQ.use0 (f56 _ _ _ _ _ _ 256 _ _ hD2.rc (by kernel_rfl)) (by rfl) ?_
  rintro v b' ⟨k, b, nn, s, h, rfl, hk, hr, rfl⟩
  refine ⟨rfl, ?_⟩
  conv=>whnf
  repeat first|(refine Lt (by decide) ?_;conv=>whnf)|(refine Lf (by decide) ?_;conv=>whnf)|(refine And.intro (by first|decide|omega|(simp only [List.length_set];omega)) ?_;conv=>whnf)|(refine .inl ⟨by kernel_rfl,?_⟩;conv=>whnf)
  refine ⟨rfl, ?_⟩
  conv=>whnf
  rw [ej]
  exact ⟨(j + 1, { D2 with b := b, n := nn, s := s, h := h }, _), ⟨by dsimp only; omega, ⟨hr, hD2.gain⟩, by simpa using hzl⟩, by dsimp only; omega, Rel.layD (by repeat constructor) (by first | rfl | (cases sd <;> rfl)) ⟨rfl, rfl, trivial⟩ (by cases sd <;> kernel_rfl)⟩
set_option maxHeartbeats 2000000 in
theorem f193 (sd : Bool) (a : Nat) (q : Nat × Nat) (D : Dec) (Z : Nat → Buf) (kind off : Int) (n cap1 cap3 : Nat) (ps xs : List Int) (hkk : (kind = 7 ∨ kind = 8 ∨ kind = 9) ∧ (off = 10 ∨ off = 11)) (hD : D.Ok) (hn : n ≤ 20 ∧ n ≤ ps.length ∧ 16 * n ≤ xs.length) (hp : In 0 16 n ps) :
    FnS 193 [.c (.p 0 0), .c (.sl 3 0 (16 * n) cap3), .c (.i .u8 kind), .c (.i .u8 off), .c (.sl 1 0 n cap1)] (lay [(0, .st (cells sd [] a q D Z)), (1, .ar false .u8 ps), (3, .ar false .i32 xs)] 38) fun v l' => ∃ (D' : Dec) (ys : List Int), D'.Ok ∧ v = .tu [] ∧ ys.length = xs.length ∧ l' = lay [(0, .st (cells sd [] a q D' Z)), (1, .ar false .u8 ps), (3, .ar false .i32 ys)] 38 := by
  refine FnS.wpR (b := 38) Proofs.Tryz.f193 rfl rfl rfl rfl rfl rfl ?_
  refine WpN.vc ?_
  conv=>whnf
  refine WpS.loop (ι := Nat × Dec × List Int) (fun x => mkSt [(0, .c (.p 0 0)), (1, .c (.sl 3 0 (16 * n) cap3)), (2, .c (.i .u8 kind)), (3, .c (.i .u8 off)), (4, .c (.sl 1 0 n cap1)), (14, .c (.i .i64 ((16 * n : Nat) : Int))), (15, .c (.i .i64 x.1))] (lay [(0, .st (cells sd [] a q x.2.1 Z)), (1, .ar false .u8 ps), (3, .ar false .i32 x.2.2)] 38) 183) (fun x => x.1 ≤ 16 * n ∧ x.2.1.Ok ∧ x.2.2.length = xs.length) (fun x => 16 * n - x.1) (0, D, xs) ⟨Nat.zero_le _, hD, rfl⟩ (Rel.layD (by repeat constructor) (by first | rfl | (cases sd <;> rfl)) ⟨rfl, rfl, trivial⟩ (by cases sd <;> kernel_rfl)) ?_
  clear hD
  rintro ⟨i, D1, zs⟩ ⟨hi, hD1, hzl⟩
  dsimp only at hi hD1 hzl ⊢
  have ei := i64_nat i (by omega)
  refine VC_ok ?_
  conv=>whnf
  refine ⟨fun hc => ?_, fun hc => ?_⟩
  rotate_left
  · conv=>whnf
    refine ⟨rfl, ?_⟩
    conv=>whnf
    exact ⟨[], .tu [], lay [(0, .st (cells sd [] a q D1 Z)), (1, .ar false .u8 ps), (3, .ar false .i32 zs)] 38, rfl, by cases sd <;> kernel_rfl, stEq_lay (by cases sd <;> repeat constructor) 38 0, D1, zs, hD1, rfl, hzl, rfl⟩
  replace hc := of_decide_eq_true hc
  have eq : IntKind.i64.wrap ((i : Int).tdiv 16) = ((i / 16 : Nat) : Int) := by rw [IntWalk.i64_quo _ _ (by omega)]; rfl
  obtain ⟨m, hm, em⟩ := in_nat (hi := 16) hp (j := i / 16) (by omega)
  conv=>whnf
  refine And.intro (by omega) ?_
  conv=>whnf
  refine And.intro (by omega) ?_
  conv=>whnf
  refine ⟨fun _=>?_, fun _=>?_⟩
  · conv=>whnf
    rw [ei]
    exact ⟨(i + 1, D1, zs), ⟨by dsimp only; omega, hD1, hzl⟩, by dsimp only; omega, Rel.layD (by repeat constructor) (by first | rfl | (cases sd <;> rfl)) ⟨rfl, rfl, trivial⟩ (by cases sd <;> kernel_rfl)⟩
  conv=>whnf
  refine And.intro (by decide) ?_
  conv=>whnf
  rw [eq]
  refine And.intro (by omega) ?_
  conv=>whnf
  refine And.intro (by omega) ?_
  conv=>whnf
  rw [em]
  obtain ⟨rfl | rfl | rfl, rfl | rfl⟩ := hkk
  all_goals
    repeat' first|(refine Lt (by decide) ?_;conv=>whnf)|(refine Lf (by decide) ?_;conv=>whnf)|fail
    repeat' (refine And.intro (fun (_ : (_ : Bool) = true) => ?_) (fun (_ : (_ : Bool) = false) => ?_)
             conv=>whnf)
  all_goals
    first
    | refine CallQ.use [] t232 rfl rfl trivial ?_
    | refine CallQ.use [] t233 rfl rfl trivial ?_
    | refine CallQ.use [] t234 rfl rfl trivial ?_
    | refine CallQ.use [] t235 rfl rfl trivial ?_
    | refine CallQ.use [] t236 rfl rfl trivial ?_
    | refine CallQ.use [] t237 rfl rfl trivial ?_
    | refine CallQ.use [] t238 rfl rfl trivial ?_
    | refine CallQ.use [] t239 rfl rfl trivial ?_
    | refine CallQ.use [] t240 rfl rfl trivial ?_
    | refine CallQ.use [] t241 rfl rfl trivial ?_
    | refine CallQ.use [] t242 rfl rfl trivial ?_
    | refine CallQ.use [] t243 rfl rfl trivial ?_
    | refine CallQ.use [] t244 rfl rfl trivial ?_
    | refine CallQ.use [] t245 rfl rfl trivial ?_
    | refine CallQ.use [] t246 rfl rfl trivial ?_
    | refine CallQ.use [] t247 rfl rfl trivial ?_
    | refine CallQ.use [] t248 rfl rfl trivial ?_
    | refine CallQ.use [] t249 rfl rfl trivial ?_
    | refine CallQ.use [] t250 rfl rfl trivial ?_
    | refine CallQ.use [] t251 rfl rfl trivial ?_
    | refine CallQ.use [] t252 rfl rfl trivial ?_
    | refine CallQ.use [] t253 rfl rfl trivial ?_
    | refine CallQ.use [] t254 rfl rfl trivial ?_
    | refine CallQ.use [] t255 rfl rfl trivial ?_
    | refine CallQ.use [] t256 rfl rfl trivial ?_
    | refine CallQ.use [] t257 rfl rfl trivial ?_
    | refine CallQ.use [] t258 rfl rfl trivial ?_
    | refine CallQ.use [] t259 rfl rfl trivial ?_
    | refine CallQ.use [] t260 rfl rfl trivial ?_
    | refine CallQ.use [] t261 rfl rfl trivial ?_
    | refine CallQ.use [] t262 rfl rfl trivial ?_
    | refine CallQ.use [] t263 rfl rfl trivial ?_
    | refine CallQ.use [] t264 rfl rfl trivial ?_
    | refine CallQ.use [] t265 rfl rfl trivial ?_
    | refine CallQ.use [] t266 rfl rfl trivial ?_
    | refine CallQ.use [] t267 rfl rfl trivial ?_
    | refine CallQ.use [] t268 rfl rfl trivial ?_
    | refine CallQ.use [] t269 rfl rfl trivial ?_
    | refine CallQ.use [] t270 rfl rfl trivial ?_
    | refine CallQ.use [] t271 rfl rfl trivial ?_
    | refine CallQ.use [] t272 rfl rfl trivial ?_
    | refine CallQ.use [] t273 rfl rfl trivial ?_
    rintro v l' ⟨rfl, rfl⟩
    conv=>whnf
    refine CallQ.use0 (f56 _ _ _ _ _ _ 256 _ _ hD1.rc (by kernel_rfl)) (by rfl) ?_
    rintro v b' ⟨k, b, nn, s, h, rfl, hk, hr, rfl⟩
    conv=>whnf
    refine ⟨fun _=>?_, fun _=>?_⟩
    · conv=>whnf
      repeat first|(refine Lt (by decide) ?_;conv=>whnf)|(refine Lf (by decide) ?_;conv=>whnf)|(refine And.intro (by first|decide|omega|(simp only [List.length_set];omega)) ?_;conv=>whnf)|(refine .inl ⟨by kernel_rfl,?_⟩;conv=>whnf)
      rw [ei]
      exact ⟨(i + 1, { D1 with b := b, n := nn, s := s, h := h }, _), ⟨by dsimp only; omega, ⟨hr, hD1.gain⟩, by simpa using hzl⟩, by dsimp only; omega, Rel.layD (by repeat constructor) (by first | rfl | (cases sd <;> rfl)) ⟨rfl, rfl, trivial⟩ (by cases sd <;> kernel_rfl)⟩
    · conv=>whnf
      rw [ei]
      exact ⟨(i + 1, { D1 with b := b, n := nn, s := s, h := h }, zs), ⟨by dsimp only; omega, ⟨hr, hD1.gain⟩, hzl⟩, by dsimp only; omega, Rel.layD (by repeat constructor) (by first | rfl | (cases sd <;> rfl)) ⟨rfl, rfl, trivial⟩ (by cases sd <;> kernel_rfl)⟩
theorem f121 (sd : Bool) (a : Nat) (q : Nat × Nat) (D : Dec) (Z : Nat → Buf) (kind off seed : Int) (n cap1 cap2 : Nat) (ps ls : List Int) (hkk : (kind = 7 ∨ kind = 8 ∨ kind = 9) ∧ (off = 10 ∨ off = 11)) (hD : D.Ok) (hn : n ≤ 20 ∧ n ≤ ps.length ∧ n ≤ ls.length) (hp : In 0 16 n ps) (hl : In 0 10 n ls) :
    FnS 121 [.c (.p 0 0), .c (.i .u8 kind), .c (.i .u8 off), .c (.i .u32 seed), .c (.sl 1 0 n cap1), .c (.sl 2 0 n cap2)] (lay [(0, .st (cells sd [] a q D Z)), (1, .ar false .u8 ps), (2, .ar false .u8 ls), (3, .ar false .i32 (Z 3).xs), (4, .ar false .i32 (Z 4).xs)] 38) fun v l' => ∃ (D' : Dec) (B1 B2 : Buf), D'.Ok ∧ v = .c (.sl 39 0 (16 * n) B2.cap) ∧ 16 * n ≤ B2.cap ∧ l' = lay [(0, .st (cells sd [(3, 38), (4, 39)] a q D' (setZ (setZ Z 3 B1) 4 B2))), (1, .ar false .u8 ps), (2, .ar false .u8 ls), (38, .ar false .i32 B1.xs), (39, .ar false .i32 B2.xs)] 40 := by
  refine FnS.wpR (b := 38) Proofs.Tryz.f121 rfl rfl rfl rfl rfl rfl ?_
  refine WpN.seq (WpN.vc ?_)
  conv=>whnf
  refine WpN.seq (WpN.vc ?_)
  conv=>whnf
  refine WpN.cut (ι := Int) (fun oq => [(0, .c (.p 0 0)), (1, .c (.i .u8 kind)), (2, .c (.i .u8 off)), (3, .c (.i .u32 seed)), (4, .c (.sl 1 0 n cap1)), (5, .c (.sl 2 0 n cap2)), (13, .c (.i .i32 oq))]) (fun _=>lay [(0, .st (cells sd [] a q D Z)), (1, .ar false .u8 ps), (2, .ar false .u8 ls), (3, .ar false .i32 (Z 3).xs), (4, .ar false .i32 (Z 4).xs)] 38) (fun _=>True) (WpN.vc ?_) ?_
  · conv=>whnf
    obtain ⟨rfl | rfl | rfl, rfl | rfl⟩ := hkk
    all_goals
      repeat' first|(refine Lt (by decide) ?_;conv=>whnf)|(refine Lf (by decide) ?_;conv=>whnf)|fail
      exact ⟨_, trivial, Rel.layD (by repeat constructor) (by first | rfl | (cases sd <;> rfl)) ⟨rfl, rfl, rfl, rfl, trivial⟩ (by cases sd <;> kernel_rfl)⟩
  intro oq _
  refine WpN.seq (WpN.vc ?_)
  conv=>whnf
  refine CallQ.useF [0, 1, 2, 3, 4, 5, 6, 7, 8, 9, 10, 11, 12, 13, 14, 15, 16, 17, 18, 19, 20, 21, 22, 23, 24, 25, 26, 27, 28, 29, 30, 31, 32, 33, 34, 35, 36, 37] (f191 sd a q D Z n cap1 ps hD (by omega) hp) rfl (by cases sd <;> kernel_rfl) (stEq_lay (by cases sd <;> repeat constructor) 38 0) ?_
  rintro v l' ⟨D1, B1, hD1, rfl, hB1, rfl⟩
  have hb1 := B1.ok
  conv=>whnf
  refine WpN.seq (WpN.vc ?_)
  conv=>whnf
  refine CallQ.useF [0, 1, 2, 38, 4, 5, 6, 7, 8, 9, 10, 11, 12, 13, 14, 15, 16, 17, 18, 19, 20, 21, 22, 23, 24, 25, 26, 27, 28, 29, 30, 31, 32, 33, 34, 35, 36, 37] (f192 sd a q D1 (setZ Z 3 B1) n cap2 B1.cap ls B1.xs hD1 (by omega) hl) rfl (by cases sd <;> kernel_rfl) (stEq_lay (by cases sd <;> repeat constructor) 38 0) ?_
  rintro v l' ⟨D2, ys, hD2, rfl, hyl, rfl⟩
  conv=>whnf
  refine WpN.seq (WpN.vc ?_)
  conv=>whnf
  refine CallQ.useF [0, 1, 2, 38, 4, 5, 6, 7, 8, 9, 10, 11, 12, 13, 14, 15, 16, 17, 18, 19, 20, 21, 22, 23, 24, 25, 26, 27, 28, 29, 30, 31, 32, 33, 34, 35, 36, 37] (f193 sd a q D2 (setZ Z 3 B1) kind off n cap1 B1.cap ps ys hkk hD2 (by omega) hp) rfl (by cases sd <;> kernel_rfl) (stEq_lay (by cases sd <;> repeat constructor) 38 0) ?_
  rintro v l' ⟨D3, zs, hD3, rfl, hzl, rfl⟩
  conv=>whnf
  refine WpN.weaken (s := mkSt [(0, .c (.p 0 0)), (1, .c (.i .u8 kind)), (2, .c (.i .u8 off)), (3, .c (.i .u32 seed)), (4, .c (.sl 1 0 n cap1)), (5, .c (.sl 2 0 n cap2)), (13, .c (.i .i32 oq)), (14, .c (.sl 38 0 (16 * n) B1.cap))] (lay [(0, .st (cells sd [(3, 38)] a q D3 (setZ Z 3 B1))), (1, .ar false .u8 ps), (2, .ar false .u8 ls), (4, .ar false .i32 (Z 4).xs), (38, .ar false .i32 zs)] 39) 124) (Rel.layD (by repeat constructor) (by first | rfl | (cases sd <;> rfl)) ⟨rfl, rfl, rfl, rfl, trivial⟩ (by cases sd <;> kernel_rfl)) rfl ?_
  clear hD hD1 hD2
  refine WpN.seq (WpN.vc ?_)
  conv=>whnf
  refine rz136 (m := 38) (j := 4) (n := ((16 * n : Nat) : Int)) _ (by first | rfl | (cases sd <;> rfl)) rfl (fun c => rfl) (by decide) rfl (Z 4).ok (by decide) (by omega) fun B2 hB2 _ => ?_
  rw [Int.toNat_natCast] at hB2 ⊢
  have hb2 := B2.ok
  conv=>whnf
  refine WpN.vc ?_
  conv=>whnf
  refine WpS.loop (ι := Nat × List Int × Int) (fun x => mkSt [(3, .c (.i .u32 x.2.2)), (12, .c (.sl 39 0 (16 * n) B2.cap)), (13, .c (.i .i32 oq)), (14, .c (.sl 38 0 (16 * n) B1.cap)), (78, .c (.i .i64 ((16 * n : Nat) : Int))), (79, .c (.i .i64 x.1))] (lay [(0, .st (cells sd [(3, 38), (4, 39)] a q D3 (setZ (setZ Z 3 B1) 4 B2))), (1, .ar false .u8 ps), (2, .ar false .u8 ls), (38, .ar false .i32 zs), (39, .ar false .i32 x.2.1)] 40) 124) (fun x => x.1 ≤ 16 * n ∧ x.2.1.length = B2.xs.length) (fun x => 16 * n - x.1) (0, B2.xs, seed) ⟨Nat.zero_le _, rfl⟩ (Rel.layD (by repeat constructor) (by first | rfl | (cases sd <;> rfl)) ⟨rfl, rfl, rfl, rfl, trivial⟩ (by cases sd <;> kernel_rfl)) ?_
  rintro ⟨i, es, sd'⟩ ⟨hi, hel⟩
  dsimp only at hi hel ⊢
  have ei := i64_nat i (by omega)
  refine VC_ok ?_
  conv=>whnf
  refine ⟨fun hc => ?_, fun hc => ?_⟩
  rotate_left
  · conv=>whnf
    refine ⟨rfl, ?_⟩
    conv=>whnf
    exact ⟨[], .c (.sl 39 0 (16 * n) B2.cap), lay [(0, .st (cells sd [(3, 38), (4, 39)] a q D3 (setZ (setZ Z 3 ⟨B1.cap, zs, B1.ys, by omega, B1.okb⟩) 4 ⟨B2.cap, es, B2.ys, by omega, B2.okb⟩))), (1, .ar false .u8 ps), (2, .ar false .u8 ls), (38, .ar false .i32 zs), (39, .ar false .i32 es)] 40, rfl, by cases sd <;> kernel_rfl, stEq_lay (by cases sd <;> repeat constructor) 40 0, D3, ⟨B1.cap, zs, B1.ys, by omega, B1.okb⟩, ⟨B2.cap, es, B2.ys, by omega, B2.okb⟩, hD3, rfl, hB2, rfl⟩
  replace hc := of_decide_eq_true hc
  conv=>whnf
  refine .inr (WpS.draw [0, 0, 0, 0, 0, 1, 0, 0, 0, 0, 1, 0, 2, 0, 0, 0, 0, 0, 0, 3] (fun st2 => st2 38 = some (.ar false .i32 zs)) (by kernel_rfl) ?_)
  conv=>whnf
  refine And.intro (by omega) ?_
  conv=>whnf
  refine ⟨.c (.i .i32 (zs.getD (0 + Int.toNat (i : Int)) 0)), ⟨rfl, fun st2 h2 => ⟨_, h2, .inr ⟨_, rfl, by omega⟩⟩⟩, ?_⟩
  conv=>whnf
  refine And.intro (by decide) ?_
  conv=>whnf
  refine And.intro (by omega) ?_
  conv=>whnf
  refine ⟨.c (.i .i32 (zs.getD (0 + Int.toNat (i : Int)) 0)), ⟨rfl, fun st2 h2 => ⟨_, h2, .inr ⟨_, rfl, by omega⟩⟩⟩, ?_⟩
  conv=>whnf
  refine ⟨rfl, ?_⟩
  refine CallQ.use [] (f158 _) rfl rfl trivial ?_
  rintro v l' ⟨rfl, rfl⟩
  refine ⟨rfl, ?_⟩
  conv=>whnf
  repeat first|(refine Lt (by decide) ?_;conv=>whnf)|(refine Lf (by decide) ?_;conv=>whnf)|(refine And.intro (by first|decide|omega|(simp only [List.length_set];omega)) ?_;conv=>whnf)|(refine .inl ⟨by kernel_rfl,?_⟩;conv=>whnf)
  refine ⟨rfl, ?_⟩
  conv=>whnf
  refine ⟨fun _=>?_, fun _=>?_⟩
  · conv=>whnf
    repeat first|(refine Lt (by decide) ?_;conv=>whnf)|(refine Lf (by decide) ?_;conv=>whnf)|(refine And.intro (by first|decide|omega|(simp only [List.length_set];omega)) ?_;conv=>whnf)|(refine .inl ⟨by kernel_rfl,?_⟩;conv=>whnf)
    rw [ei]
    exact ⟨(i + 1, _, _), ⟨by dsimp only; omega, by simpa using hel⟩, by dsimp only; omega, Rel.layD (by repeat constructor) (by first | rfl | (cases sd <;> rfl)) ⟨rfl, rfl, rfl, rfl, trivial⟩ (by cases sd <;> kernel_rfl)⟩
  · conv=>whnf
    repeat first|(refine Lt (by decide) ?_;conv=>whnf)|(refine Lf (by decide) ?_;conv=>whnf)|(refine And.intro (by first|decide|omega|(simp only [List.length_set];omega)) ?_;conv=>whnf)|(refine .inl ⟨by kernel_rfl,?_⟩;conv=>whnf)
    rw [ei]
    exact ⟨(i + 1, _, _), ⟨by dsimp only; omega, by simpa using hel⟩, by dsimp only; omega, Rel.layD (by repeat constructor) (by first | rfl | (cases sd <;> rfl)) ⟨rfl, rfl, rfl, rfl, trivial⟩ (by cases sd <;> kernel_rfl)⟩
def nilB : Buf := ⟨0, [], [], Nat.le_refl _, Nat.le_refl _⟩
theorem f123 (sd : Bool) (a : Nat) (q : Nat × Nat) (D : Dec) (Z : Nat → Buf) :
    FnS 123 [.c (.p 0 0)] (lay [(0, .st (cells sd [] a q D Z))] 38) fun v l' => v = .tu [] ∧ l' = lay [(0, .st ((cells sd [] a q { D with hav := false, voi := false, lag := 100, gain := 10 } Z).set 12 .nsl))] 38 := by
  refine FnS.wpR (b := 38) Proofs.Tryz.f123 rfl rfl rfl rfl rfl rfl ?_
  refine WpN.vc ?_
  conv=>whnf
  exact ⟨[], .tu [], lay [(0, .st ((cells sd [] a q { D with hav := false, voi := false, lag := 100, gain := 10 } Z).set 12 .nsl))] 38, rfl, by cases sd <;> kernel_rfl, stEq_lay (by cases sd <;> repeat constructor) 38 0, rfl, rfl⟩
theorem f105 (sd : Bool) (a : Nat) (q : Nat × Nat) (D : Dec) (Z : Nat → Buf) (bw : Int) (hD : D.Ok) (h28 : Nn (Z 28).cap (Z 28).xs) :
    FnS 105 [.c (.p 0 0), .c (.i .u8 bw)] (lay [(0, .st (cells sd [] a q D Z)), (28, .ar false .i16 (Z 28).xs)] 38) fun v l' => ∃ (D' : Dec) (B1 : Buf), D'.Ok ∧ Nn B1.cap B1.xs ∧ v = .tu [] ∧ l' = lay [(0, .st (cells sd [(28, 38)] a q D' (setZ Z 28 B1))), (38, .ar false .i16 B1.xs)] 39 := by
  refine FnS.wpR (b := 38) Proofs.Tryz.f105 rfl rfl rfl rfl rfl rfl ?_
  refine WpN.cut (ι := Dec × Buf) (fun _=>[(0, .c (.p 0 0)), (1, .c (.i .u8 bw))]) (fun x => lay [(0, .st (cells sd [(28, 38)] a q x.1 (setZ Z 28 x.2))), (38, .ar false .i16 x.2.xs)] 39) (fun x => x.1.Ok ∧ Nn x.2.cap x.2.xs) (WpN.vc ?_) ?_
  · conv=>whnf
    generalize hx : (D.bw != 0) = x
    cases x
    · conv=>whnf
      repeat' first|(refine Lt (by decide) ?_;conv=>whnf)|(refine Lf (by decide) ?_;conv=>whnf)|fail
      exact ⟨(D, Z 28), ⟨hD, h28⟩, Rel.lay [(38, 28)] (by cases sd <;> kernel_rfl) (by repeat constructor) (by cases sd <;> repeat constructor)⟩
    · conv=>whnf
      repeat' first|(refine Lt (by decide) ?_;conv=>whnf)|(refine Lf (by decide) ?_;conv=>whnf)|fail
      refine ⟨fun _=>?_, fun _=>?_⟩
      · conv=>whnf
        refine CallQ.useF [0, 1, 2, 3, 4, 5, 6, 7, 8, 9, 10, 11, 12, 13, 14, 15, 16, 17, 18, 19, 20, 21, 22, 23, 24, 25, 26, 27, 28, 29, 30, 31, 32, 33, 34, 35, 36, 37] (f123 sd a q D Z) rfl (by cases sd <;> kernel_rfl) (stEq_lay (by cases sd <;> repeat constructor) 38 0) ?_
        rintro v l' ⟨rfl, rfl⟩
        conv=>whnf
        refine ⟨({ D with hav := false, voi := false, lag := 100, gain := 10 }, nilB), ⟨⟨hD.rc, (show (0 : Int) ≤ 10 ∧ (10 : Int) ≤ 63 by decide)⟩, fun i hi => absurd hi (Nat.not_lt_zero _)⟩, ?_⟩
        refine Rel.trans (s' := mkSt [(0, .c (.p 0 0)), (1, .c (.i .u8 bw))] (lay [(0, .st ((cells sd [] a q { D with hav := false, voi := false, lag := 100, gain := 10 } Z).set 12 .nsl))] 38) Proofs.Tryz.f105.ntmps) (Rel.lay (k := 38) [] (E := [(0, .c (.p 0 0)), (1, .c (.i .u8 bw))]) (l := [(0, .st ((cells sd [] a q { D with hav := false, voi := false, lag := 100, gain := 10 } Z).set 12 .nsl))]) (by cases sd <;> kernel_rfl) (by repeat constructor) (by cases sd <;> repeat constructor)) ?_
        refine Rel.trans (s' := ⟨mkE [(0, .c (.p 0 0)), (1, .c (.i .u8 bw))], _, 39, Proofs.Tryz.f105.ntmps⟩) (Rel.nil (i := 12) (y := .ar false .i16 []) rfl (by cases sd <;> rfl) rfl (fun m h => by cases h)) ?_
        exact Rel.lay [] (by cases sd <;> kernel_rfl) (by repeat constructor) (by cases sd <;> repeat constructor)
      · conv=>whnf
        exact ⟨(D, Z 28), ⟨hD, h28⟩, Rel.lay [(38, 28)] (by cases sd <;> kernel_rfl) (by repeat constructor) (by cases sd <;> repeat constructor)⟩
  rintro ⟨D1, B1⟩ ⟨hD1, hB1⟩
  dsimp only at hD1 hB1 ⊢
  refine WpN.vc ?_
  conv=>whnf
  exact ⟨[], .tu [], lay [(0, .st (cells sd [(28, 38)] a q { D1 with bw := bw } (setZ Z 28 B1))), (38, .ar false .i16 B1.xs)] 39, rfl, by cases sd <;> kernel_rfl, stEq_lay (by cases sd <;> repeat constructor) 39 0, { D1 with bw := bw }, B1, ⟨hD1.rc, hD1.gain⟩, hB1, rfl, rfl⟩
theorem f116 (sd : Bool) (a : Nat) (q : Nat × Nat) (D : Dec) (Z : Nat → Buf) (kind : Int) (fs : Bool) (hD : D.Ok) :
    Fn0 116 [.c (.p 0 0), .c (.i .u8 kind), .c (.b fs)] (.st (cells sd [] a q D Z)) fun v b' => ∃ (D' : Dec) (r : Int), D'.Ok ∧ v = .c (.i .i32 r) ∧ b' = .st (cells sd [] a q D' Z) := by
  refine Fn0.run Proofs.Tryz.f116 rfl rfl rfl rfl rfl fun st m => ?_
  conv=>whnf
  generalize hx : (kind != 9) = x
  cases x <;> cases fs <;> conv=>whnf
  all_goals (repeat' first|(refine Lt (by decide) ?_;conv=>whnf)|(refine Lf (by decide) ?_;conv=>whnf)|fail)
  all_goals first
    | exact ⟨_, rfl, rfl, by repeat constructor, rfl, D, _, hD, rfl, rfl⟩
    | skip
  refine .inl ⟨by kernel_rfl, ?_⟩
  conv=>whnf
  refine CallQ.use [] t185 rfl rfl trivial ?_
  rintro v l' ⟨rfl, rfl⟩
  conv=>whnf
  refine CallQ.use0 (f56 _ _ _ _ _ _ 256 _ _ hD.rc (by kernel_rfl)) (by rfl) ?_
  rintro v b' ⟨k, b, n, s, h, rfl, hk, hr, rfl⟩
  conv=>whnf
  refine ⟨fun _=>?_, fun _=>?_⟩
  · conv=>whnf
    exact ⟨_, rfl, rfl, by repeat constructor, rfl, { D with b := b, n := n, s := s, h := h }, _, ⟨hr, hD.gain⟩, rfl, rfl⟩
  conv=>whnf
  refine ⟨fun _=>?_, fun _=>?_⟩
  · conv=>whnf
    exact ⟨_, rfl, rfl, by repeat constructor, rfl, { D with b := b, n := n, s := s, h := h }, _, ⟨hr, hD.gain⟩, rfl, rfl⟩
  conv=>whnf
  refine ⟨fun _=>?_, fun _=>?_⟩
  · conv=>whnf
    exact ⟨_, rfl, rfl, by repeat constructor, rfl, { D with b := b, n := n, s := s, h := h }, _, ⟨hr, hD.gain⟩, rfl, rfl⟩
  conv=>whnf
  exact ⟨_, rfl, rfl, by repeat constructor, rfl, { D with b := b, n := n, s := s, h := h }, _, ⟨hr, hD.gain⟩, rfl, rfl⟩
@[reducible] def dlu (sd : Bool) (N : List (Nat × Nat)) (a : Nat) (q : Nat × Nat) (D : Dec) (Z : Nat → Buf) (b24 b26 : B) (r : Nat) (recs : List (List C))
    (n1 n2 n3 n4 n9 n10 n11 n12 n13 n14 n15 n16 n17 n18 n19 n20 n21 n22 n23 n25 n26 n27 n28 : Nat) : List (Nat × B) :=
  [(0, .st (cells sd N a q D Z)), (n1, .ar false .u8 (Z 1).xs), (n2, .ar false .u8 (Z 2).xs), (n3, .ar false .i32 (Z 3).xs), (n4, .ar false .i32 (Z 4).xs), (n9, .ar false .i32 (Z 9).xs), (n10, .ar false .i8 (Z 10).xs), (n11, .ar false .i16 (Z 11).xs), (n12, .ar false .i16 (Z 12).xs), (n13, .ar false .u64 (Z 13).xs), (n14, .ar false .i16 (Z 14).xs), (n15, .ar false .i16 (Z 15).xs), (n16, .ar false .i32 (Z 16).xs), (n17, .ar false .i32 (Z 17).xs), (n18, .ar false .i32 (Z 18).xs), (n19, .ar false .i32 (Z 19).xs), (n20, .ar false .i16 (Z 20).xs), (n21, .ar false .i16 (Z 21).xs), (n22, .ar false .i16 (Z 22).xs), (n23, .ar false .i16 (Z 23).xs), (n25, .ar false .i64 (Z 25).xs), (n27, .ar false .i8 (Z 27).xs), (n28, .ar false .i16 (Z 28).xs), (24, b24), (n26, b26), (29, .st [.osl r recs.length]), (r, .rs true 24 recs)]
@[reducible] def dl (sd : Bool) (N : List (Nat × Nat)) (a : Nat) (q : Nat × Nat) (D : Dec) (Z : Nat → Buf) (c24 c26 : List C) (r : Nat) (recs : List (List C))
    (n1 n2 n3 n4 n9 n10 n11 n12 n13 n14 n15 n16 n17 n18 n19 n20 n21 n22 n23 n25 n26 n27 n28 : Nat) : List (Nat × B) :=
  dlu sd N a q D Z (.st c24) (.st c26) r recs n1 n2 n3 n4 n9 n10 n11 n12 n13 n14 n15 n16 n17 n18 n19 n20 n21 n22 n23 n25 n26 n27 n28
@[reducible] def eA (va : Bool) (ns bw : Int) (first skip : Bool) (n kind off : Int) (g : C) (I1 d : Int) (x y z : C) (w : Int) (r : List (Nat × V)) : List (Nat × V) :=
  (0, .c (.p 0 0)) :: (1, .c (.b va)) :: (2, .c (.i .i64 ns)) :: (3, .c (.i .u8 bw)) :: (4, .c (.b first)) :: (5, .c (.b skip)) :: (13, .c (.i .i64 n)) :: (14, .c (.i .u8 kind)) :: (15, .c (.i .u8 off)) :: (16, .c g) :: (17, .c (.i .u32 I1)) :: (18, .c (.i .i64 d)) :: (19, .c x) :: (20, .c y) :: (21, .c z) :: (22, .c (.i .i16 w)) :: r
end Go.SX
