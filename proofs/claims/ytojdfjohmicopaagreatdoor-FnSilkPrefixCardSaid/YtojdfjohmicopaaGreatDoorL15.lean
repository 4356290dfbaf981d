/- A part of the proof: the SILK decoder of the given program, walked by an executor that is proved sound. No statement of the program is proved in this text. -/
import Derived.Test.YtojdfjohmicopaaGreatDoorL13
import Derived.Test.YtojdfjohmicopaaGreatDoorL14
set_option linter.all false
set_option maxRecDepth 100000
namespace Go.SX
open Go
theorem f117 (data : List Int) (b r n s h : Int) (rest : List C) (hr : RcOk data b n s h) : Fn0 117 [.c (.p 0 0)] (rc data b r n s h rest) fun v b' => ∃ (x bn n' s' h' : Int), v = .c (.i .u32 x) ∧ (0 ≤ x ∧ x < 4) ∧ RcOk data bn n' s' h' ∧ b' = rc data bn r n' s' h' rest := by
  refine Fn0.run Proofs.Tryz.f117 rfl rfl rfl rfl rfl fun st m => ?_
  conv=>whnf
  refine .inl ⟨by kernel_rfl, ?_⟩
  conv=>whnf
  refine CallQ.use [] t186 rfl rfl trivial ?_
  rintro v l' ⟨rfl, rfl⟩
  conv=>whnf
  refine CallQ.use0 (f56 data b r n s h 256 _ rest hr (by kernel_rfl)) (by rfl) ?_
  rintro v b' ⟨k, bn, n', s', h', rfl, hk, k1, rfl⟩
  conv=>whnf
  have hk : k < 4 := hk
  exact ⟨_, rfl, rfl, by repeat constructor, rfl, k, bn, n', s', h', rfl, ⟨by omega, by omega⟩, k1, rfl⟩
theorem f119 (data : List Int) (b r n s h : Int) (rest : List C) (va : Bool) (hr : RcOk data b n s h) : Fn0 119 [.c (.p 0 0), .c (.b va)] (rc data b r n s h rest) fun v b' => ∃ (x bn n' s' h' : Int), v = .c (.i .u32 x) ∧ (0 ≤ x ∧ x < 9) ∧ RcOk data bn n' s' h' ∧ b' = rc data bn r n' s' h' rest := by
  refine Fn0.run Proofs.Tryz.f119 rfl rfl rfl rfl rfl fun st m => ?_
  conv=>whnf
  refine ⟨fun _=>?_, fun _=>?_⟩
  · conv=>whnf
    refine .inl ⟨by kernel_rfl, ?_⟩
    conv=>whnf
    refine CallQ.use [] t187 rfl rfl trivial ?_
    rintro v l' ⟨rfl, rfl⟩
    conv=>whnf
    refine CallQ.use0 (f56 data _ r _ _ _ 256 _ rest hr (by kernel_rfl)) (by rfl) ?_
    rintro v b' ⟨k, b, n, s, h, rfl, hk, hr, rfl⟩
    have hk : k < 9 := hk
    conv=>whnf
    exact ⟨_, rfl, rfl, by repeat constructor, rfl, k, b, n, s, h, rfl, ⟨by omega, by omega⟩, hr, rfl⟩
  · conv=>whnf
    refine .inl ⟨by kernel_rfl, ?_⟩
    conv=>whnf
    refine CallQ.use [] t188 rfl rfl trivial ?_
    rintro v l' ⟨rfl, rfl⟩
    conv=>whnf
    refine CallQ.use0 (f56 data _ r _ _ _ 256 _ rest hr (by kernel_rfl)) (by rfl) ?_
    rintro v b' ⟨k, b, n, s, h, rfl, hk, hr, rfl⟩
    have hk : k < 9 := hk
    conv=>whnf
    exact ⟨_, rfl, rfl, by repeat constructor, rfl, k, b, n, s, h, rfl, ⟨by omega, by omega⟩, hr, rfl⟩
theorem f97 (data : List Int) (b r n s h : Int) (rest : List C) (hr : RcOk data b n s h) : Fn0 97 [.c (.p 0 0)] (rc data b r n s h rest) fun v b' => ∃ (x : Bool) (bn n' s' h' : Int), v = .c (.b x) ∧ True ∧ RcOk data bn n' s' h' ∧ b' = rc data bn r n' s' h' rest := by
  refine Fn0.run Proofs.Tryz.f97 rfl rfl rfl rfl rfl fun st m => ?_
  conv=>whnf
  refine .inl ⟨by kernel_rfl, ?_⟩
  conv=>whnf
  refine CallQ.use [] t128 rfl rfl trivial ?_
  rintro v l' ⟨rfl, rfl⟩
  conv=>whnf
  refine CallQ.use0 (f56 data _ r _ _ _ 256 _ rest hr (by kernel_rfl)) (by rfl) ?_
  rintro v b' ⟨k, b, n, s, h, rfl, hk, hr, rfl⟩
  have hk : k < 2 := hk
  conv=>whnf
  exact ⟨_, rfl, rfl, by repeat constructor, rfl, _, b, n, s, h, rfl, trivial, hr, rfl⟩
theorem f127 (n i0 i1 i2 i3 : Int) (hn : 0 ≤ n ∧ n < 25) (h0 : 0 ≤ i0 ∧ i0 < 3) (h2 : 0 ≤ i2 ∧ i2 < 3) : FnS 127 [.c (.i .i32 n), .c (.i .i32 i0), .c (.i .i32 i1), .c (.i .i32 i2), .c (.i .i32 i3)] [] fun v l' => ∃ x y : Int, v = .tu [.c (.i .i32 x), .c (.i .i32 y)] ∧ l' = [] := by
  have e1 : IntKind.i32.wrap (i0 + IntKind.i32.wrap (3 * IntKind.i32.wrap (n.tdiv 5))) = i0 + 3 * (n / 5) := by
    rw [IntWalk.i32_quo _ _ (by omega), IntWalk.i32_in (3 * (n / 5)) (by omega), IntWalk.i32_in _ (by omega)]
  have e2 : IntKind.i32.wrap (i2 + IntKind.i32.wrap (3 * n.tmod 5)) = i2 + 3 * (n % 5) := by
    rw [Int.tmod_eq_emod_of_nonneg hn.1, IntWalk.i32_in (3 * (n % 5)) (by omega), IntWalk.i32_in _ (by omega)]
  refine FnS.run (b := 0) Proofs.Tryz.f127 rfl rfl rfl rfl rfl rfl ?_
  conv=>whnf
  refine ⟨by decide, ?_⟩
  conv=>whnf
  refine ⟨by decide, ?_⟩
  conv=>whnf
  rw [e1, e2]
  generalize hw0 : i0 + 3 * (n / 5) = w0
  generalize hw1 : i2 + 3 * (n % 5) = w1
  have k0 : 0 ≤ w0 ∧ w0 < 15 := by omega
  have k1 : 0 ≤ w1 ∧ w1 < 15 := by omega
  have a0 : IntKind.i32.wrap (w0 + 1) = w0 + 1 := IntWalk.i32_in _ (by omega)
  have a1 : IntKind.i32.wrap (w1 + 1) = w1 + 1 := IntWalk.i32_in _ (by omega)
  have hT : ((T194.length : Nat) : Int) = 16 := rfl
  refine .inr (WpS.draw [3, 0, 0, 0, 3, 0, 0, 0, 0, 3, 0, 0, 0, 0, 0, 0, 0, 0, 0, 0, 0, 3] (fun _=>True) (by kernel_rfl) ?_)
  conv=>whnf
  refine CallQ.use [] t194 rfl rfl trivial ?_
  rintro v l' ⟨rfl, rfl⟩
  conv=>whnf
  refine ⟨⟨k1.1, by rw [hT]; omega⟩, ?_⟩
  conv=>whnf
  refine CallQ.use [] t194 rfl rfl trivial ?_
  rintro v l' ⟨rfl, rfl⟩
  conv=>whnf
  refine ⟨(by rw [a1, hT]; omega), ?_⟩
  conv=>whnf
  refine CallQ.use [] t194 rfl rfl trivial ?_
  rintro v l' ⟨rfl, rfl⟩
  conv=>whnf
  refine ⟨⟨k1.1, by rw [hT]; omega⟩, ?_⟩
  conv=>whnf
  refine ⟨by decide, ?_⟩
  conv=>whnf
  refine ⟨rfl, ?_⟩
  conv=>whnf
  refine .inr (WpS.draw [3, 0, 0, 0, 3, 0, 0, 0, 0, 3, 0, 0, 0, 0, 0, 0, 0, 0, 0, 0, 0, 0, 0, 3] (fun _=>True) (by kernel_rfl) ?_)
  conv=>whnf
  refine CallQ.use [] t194 rfl rfl trivial ?_
  rintro v l' ⟨rfl, rfl⟩
  conv=>whnf
  refine ⟨⟨k0.1, by rw [hT]; omega⟩, ?_⟩
  conv=>whnf
  refine CallQ.use [] t194 rfl rfl trivial ?_
  rintro v l' ⟨rfl, rfl⟩
  conv=>whnf
  refine ⟨(by rw [a0, hT]; omega), ?_⟩
  conv=>whnf
  refine CallQ.use [] t194 rfl rfl trivial ?_
  rintro v l' ⟨rfl, rfl⟩
  conv=>whnf
  refine ⟨⟨k0.1, by rw [hT]; omega⟩, ?_⟩
  conv=>whnf
  refine ⟨by decide, ?_⟩
  conv=>whnf
  refine ⟨rfl, ?_⟩
  conv=>whnf
  exact ⟨[], rfl, trivial, _, _, rfl, rfl⟩
theorem f96 (data : List Int) (b r n s h : Int) (rest : List C) (hr : RcOk data b n s h) : Fn0 96 [.c (.p 0 0)] (rc data b r n s h rest) fun v b' => ∃ (x y bn n' s' h' : Int), v = .tu [.c (.i .i32 x), .c (.i .i32 y)] ∧ True ∧ RcOk data bn n' s' h' ∧ b' = rc data bn r n' s' h' rest := by
  refine Fn0.run Proofs.Tryz.f96 rfl rfl rfl rfl rfl fun st m => ?_
  conv=>whnf
  refine .inl ⟨by kernel_rfl, ?_⟩
  conv=>whnf
  refine CallQ.use [] t124 rfl rfl trivial ?_
  rintro v l' ⟨rfl, rfl⟩
  conv=>whnf
  refine CallQ.use0 (f56 data _ r _ _ _ 256 _ rest hr (by kernel_rfl)) (by rfl) ?_
  rintro v b' ⟨k1, b, n, s, h, rfl, hk1, hr, rfl⟩
  have hk1 : k1 < 25 := hk1
  conv=>whnf
  refine .inl ⟨by kernel_rfl, ?_⟩
  conv=>whnf
  refine CallQ.use [] t125 rfl rfl trivial ?_
  rintro v l' ⟨rfl, rfl⟩
  conv=>whnf
  refine CallQ.use0 (f56 data _ r _ _ _ 256 _ rest hr (by kernel_rfl)) (by rfl) ?_
  rintro v b' ⟨k2, b, n, s, h, rfl, hk2, hr, rfl⟩
  have hk2 : k2 < 3 := hk2
  conv=>whnf
  refine .inl ⟨by kernel_rfl, ?_⟩
  conv=>whnf
  refine CallQ.use [] t126 rfl rfl trivial ?_
  rintro v l' ⟨rfl, rfl⟩
  conv=>whnf
  refine CallQ.use0 (f56 data _ r _ _ _ 256 _ rest hr (by kernel_rfl)) (by rfl) ?_
  rintro v b' ⟨k3, b, n, s, h, rfl, hk3, hr, rfl⟩
  have hk3 : k3 < 5 := hk3
  conv=>whnf
  refine .inl ⟨by kernel_rfl, ?_⟩
  conv=>whnf
  refine CallQ.use [] t125 rfl rfl trivial ?_
  rintro v l' ⟨rfl, rfl⟩
  conv=>whnf
  refine CallQ.use0 (f56 data _ r _ _ _ 256 _ rest hr (by kernel_rfl)) (by rfl) ?_
  rintro v b' ⟨k4, b, n, s, h, rfl, hk4, hr, rfl⟩
  have hk4 : k4 < 3 := hk4
  conv=>whnf
  refine .inl ⟨by kernel_rfl, ?_⟩
  conv=>whnf
  refine CallQ.use [] t126 rfl rfl trivial ?_
  rintro v l' ⟨rfl, rfl⟩
  conv=>whnf
  refine CallQ.use0 (f56 data _ r _ _ _ 256 _ rest hr (by kernel_rfl)) (by rfl) ?_
  rintro v b' ⟨k5, b, n, s, h, rfl, hk5, hr, rfl⟩
  have hk5 : k5 < 5 := hk5
  conv=>whnf
  have w : ∀ k : Nat, k < 25 → IntKind.i32.wrap (k : Int) = k := fun k hk => IntWalk.i32_in _ (by omega)
  refine CallQ.use [] (f127 _ _ _ _ _ (by rw [w k1 hk1]; omega) (by rw [w k2 (by omega)]; omega) (by rw [w k4 (by omega)]; omega)) rfl rfl trivial ?_
  rintro v l' ⟨x, y, rfl, rfl⟩
  conv=>whnf
  exact ⟨_, rfl, rfl, by repeat constructor, rfl, _, _, b, n, s, h, rfl, trivial, hr, rfl⟩
structure Buf where
  cap : Nat
  xs : List Int
  ys : List Bool
  ok : cap ≤ xs.length
  okb : cap ≤ ys.length
structure Dec where
  data : List Int
  b : Int
  r : Int
  n : Int
  s : Int
  h : Int
  bw : Int
  hav : Bool
  voi : Bool
  lag : Int
  gain : Int
  sw0 : Int
  sw1 : Int
  om : Bool
  ws : Bool
  red : Bool
  sid : Bool
  wei : Bool
  mo : Bool
  w0 : Int
  w1 : Int
def setZ (Z : Nat → Buf) (i : Nat) (x : Buf) : Nat → Buf := fun j => bif Nat.beq j i then x else Z j
def bC (N : List (Nat × Nat)) (Z : Nat → Buf) (i : Nat) : C := .sl (al N i) 0 (Z i).cap (Z i).cap
def cells (sd : Bool) (N : List (Nat × Nat)) (a : Nat) (q : Nat × Nat) (D : Dec) (Z : Nat → Buf) : List C := [
  .is .u8 D.data, .i .u64 D.b, .i .u64 D.r, .i .u64 D.n, .i .u32 D.s, .i .u32 D.h,
  (match sd with | true => .p 31 0 | false => .np), .i .u8 D.bw, .b D.hav, .b D.voi, .i .i64 D.lag, .i .i32 D.gain, bC N Z 28, .i .i32 D.sw0, .i .i32 D.sw1, .b D.om, .b D.ws,
  bC N Z 1, bC N Z 2, bC N Z 3, bC N Z 4, bC N Z 5, bC N Z 6, bC N Z 7, bC N Z 8, bC N Z 9, bC N Z 10, bC N Z 11, bC N Z 12, bC N Z 13, bC N Z 14, bC N Z 15, bC N Z 16, bC N Z 17, bC N Z 18, bC N Z 19,
  bC N Z 20, bC N Z 21, bC N Z 22, bC N Z 23, .sl (al N 24) 0 a 2, bC N Z 25, .sl (al N 26) 0 q.1 q.2, bC N Z 27, .p 29 0,
  .b D.red, .b D.sid, .b D.wei, .b D.mo, .i .i32 D.w0, .i .i32 D.w1]
def getB (i : Nat) : List (Nat × B) → Option B
  | [] => none
  | (j, x) :: r => bif Nat.beq i j then some x else getB i r
def layF (l : List (Nat × B)) : Nat → Nat → List (Option B)
  | _, 0 => []
  | i, k + 1 => getB i l :: layF l (i + 1) k
def lay (l : List (Nat × B)) (k : Nat) : List (Option B) := layF l 0 k
theorem layF_len (l : List (Nat × B)) : ∀ (k i : Nat), (layF l i k).length = k
  | 0, _ => rfl
  | k + 1, i => by simp [layF, layF_len l k]
theorem lay_len (l : List (Nat × B)) (k : Nat) : (lay l k).length = k := layF_len l k 0
structure Dec.Ok (D : Dec) : Prop where
  rc : RcOk D.data D.b D.n D.s D.h
  gain : 0 ≤ D.gain ∧ D.gain ≤ 63
end Go.SX
