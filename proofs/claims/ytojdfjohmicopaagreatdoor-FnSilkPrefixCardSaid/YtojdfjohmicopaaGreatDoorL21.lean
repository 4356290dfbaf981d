/- A part of the proof: the SILK decoder of the given program, walked by an executor that is proved sound. No statement of the program is proved in this text. -/
import Derived.Test.YtojdfjohmicopaaGreatDoorL12
import Derived.Test.YtojdfjohmicopaaGreatDoorL17
set_option linter.all false
set_option maxRecDepth 100000
namespace Go.SX
open Go
def stL (st : Nat → Option B) (α : Nat → Nat) : List (Nat × B) → Prop
  | [] => True
  | (j, x) :: r => st (α j) = some (x.ren α) ∧ stL st α r
theorem stL_get {st : Nat → Option B} {α : Nat → Nat} {i : Nat} {x : B} : ∀ {l : List (Nat × B)}, stL st α l → getB i l = some x → st (α i) = some (x.ren α)
  | [], _, h => by cases h
  | (j, y) :: r, hl, h => by
    by_cases hj : i = j
    · subst hj; simp only [getB, Nat.beq_refl, cond_true] at h; cases h; exact hl.1
    · simp only [getB, beq_ne hj, cond_false] at h; exact stL_get hl.2 h
theorem stEq_lay {st : Nat → Option B} {α : Nat → Nat} {l : List (Nat × B)} (h : stL st α l) : ∀ (k i : Nat), stEq st α i (layF l i k)
  | 0, _ => trivial
  | k + 1, i => by
    simp only [layF]
    cases hg : getB i l with
    | none => exact stEq_lay h k (i + 1)
    | some x => exact ⟨stL_get h hg, stEq_lay h k (i + 1)⟩
theorem Rel.lay {b k : Nat} {s : S} {n : Nat} (ρ : List (Nat × Nat)) {E : List (Nat × V)} {l : List (Nat × B)} (h : renOk b ρ E (lay l k) n s.n = true) (he : envEq s.env (al ρ) E) (hs : stL s.st (al ρ) l) : Rel b s (mkSt E (lay l k) n) :=
  Ren.relOf ρ h he (stEq_lay hs k 0)
def gainOf (g : Int) : Int :=
  let l := IntKind.i32.wrap ((IntKind.i32.wrap (1907825 * g)).fdiv (2 ^ min (Int.toNat 16) IntKind.i32.bits) + 2090)
  let i := l.fdiv (2 ^ min (Int.toNat 7) IntKind.i32.bits)
  let f := bits .and .i32 l 127
  IntKind.i32.wrap (IntKind.i32.wrap (1 * 2 ^ min i.toNat IntKind.i32.bits) + IntKind.i32.wrap (IntKind.i32.wrap ((IntKind.i32.wrap (IntKind.i32.wrap (-174 * f) * IntKind.i32.wrap (128 - f))).fdiv (2 ^ min (Int.toNat 16) IntKind.i32.bits) + f) * (IntKind.i32.wrap (1 * 2 ^ min i.toNat IntKind.i32.bits)).fdiv (2 ^ min (Int.toNat 7) IntKind.i32.bits)))
theorem gain_all : ∀ g : Nat, g < 64 → (81920 ≤ gainOf g ∧ gainOf g ≤ 1686110208) ∧ 0 ≤ (IntKind.i32.wrap ((IntKind.i32.wrap (1907825 * (g : Int))).fdiv (2 ^ min (Int.toNat 16) IntKind.i32.bits) + 2090)).fdiv (2 ^ min (Int.toNat 7) IntKind.i32.bits) := by decide +kernel
theorem mem_take_set {xs : List Int} {i : Nat} {v y : Int} (h : y ∈ (xs.set i v).take (i + 1)) : y = v ∨ y ∈ xs.take i := by
  obtain ⟨j, hj⟩ := List.mem_iff_getElem?.1 h
  have hl : j < i + 1 := by have := (List.getElem?_eq_some_iff.1 hj).1; simp at this; omega
  rw [List.getElem?_take_of_lt hl] at hj
  by_cases hji : j = i
  · subst hji
    have := (List.getElem?_eq_some_iff.1 hj).1
    rw [List.getElem?_set_self (by simpa using this)] at hj
    cases hj; exact .inl rfl
  · rw [List.getElem?_set_ne (Ne.symm hji)] at hj
    exact .inr (List.mem_iff_getElem?.2 ⟨j, by rw [List.getElem?_take_of_lt (by omega)]; exact hj⟩)
theorem max_in {x y : Int} (h : 0 ≤ x ∧ x ≤ 63) (hy : y ≤ 63) : 0 ≤ (if x > y then x else y) ∧ (if x > y then x else y) ≤ 63 := by split <;> omega
theorem msb_lsb : ∀ k : Nat, k < 8 → ∀ j : Nat, j < 8 → 0 ≤ bits .or .i32 (IntKind.i32.wrap (IntKind.i32.wrap (k : Int) * 2 ^ min (Int.toNat 3) IntKind.i32.bits)) (IntKind.i32.wrap (j : Int)) ∧ bits .or .i32 (IntKind.i32.wrap (IntKind.i32.wrap (k : Int) * 2 ^ min (Int.toNat 3) IntKind.i32.bits)) (IntKind.i32.wrap (j : Int)) ≤ 63 := by decide +kernel
theorem f107 (sd : Bool) (a : Nat) (q : Nat × Nat) (D : Dec) (Z : Nat → Buf) (kind n : Int) (first : Bool) (hD : D.Ok) (hk : kind = 7 ∨ kind = 8 ∨ kind = 9) (hn : 0 ≤ n ∧ n ≤ 4) :
    FnS 107 [.c (.p 0 0), .c (.i .u8 kind), .c (.i .i64 n), .c (.b first)] (lay [(0, .st (cells sd [] a q D Z)), (9, .ar false .i32 (Z 9).xs)] 38) fun v l' => ∃ (D' : Dec) (Bf : Buf),
      v = .c (.sl 38 0 n.toNat Bf.cap) ∧ l' = lay [(0, .st (cells sd [(9, 38)] a q D' (setZ Z 9 Bf))), (38, .ar false .i32 Bf.xs)] 39 ∧ D'.Ok ∧ n.toNat ≤ Bf.cap ∧ ∀ x ∈ Bf.xs.take n.toNat, 81920 ≤ x ∧ x ≤ 1686110208 := by
  refine FnS.run (b := 38) Proofs.Tryz.f107 rfl rfl rfl rfl rfl rfl ?_
  conv=>whnf
  refine rz136 (m := 37) (j := 9) (n := n) _ rfl rfl (fun c => rfl) (by decide) rfl (Z 9).ok (by decide) (by omega) fun Bf hB _ => ?_
  conv=>whnf
  refine WpS.loop (ι := Int × Dec × List Int) (fun x => mkSt [(0, .c (.p 0 0)), (1, .c (.i .u8 kind)), (3, .c (.b first)), (8, .c (.sl 38 0 n.toNat Bf.cap)), (21, .c (.i .i64 n)), (22, .c (.i .i64 x.1))] (lay [(0, .st (cells sd [(9, 38)] a q x.2.1 (setZ Z 9 Bf))), (38, .ar false .i32 x.2.2)] 39) 133)
    (fun x => (0 ≤ x.1 ∧ x.1 ≤ n) ∧ x.2.1.Ok ∧ x.2.2.length = Bf.xs.length ∧ ∀ y ∈ x.2.2.take x.1.toNat, 81920 ≤ y ∧ y ≤ 1686110208) (fun x => (n - x.1).toNat) (0, D, Bf.xs) ⟨⟨Int.le_refl 0, hn.1⟩, hD, rfl, fun y hy => by simp at hy⟩
    (Rel.lay [] (by cases sd <;> kernel_rfl) (by repeat constructor) (by cases sd <;> repeat constructor)) ?_
  clear hD
  rintro ⟨i, D, xs⟩ ⟨hi, hD, hxl, hxs⟩
  dsimp only at hi hD hxl hxs ⊢
  refine WpN.toS (WpN.seq (WpN.vc ?_))
  conv=>whnf
  refine WpN.seq (WpN.vc ?_)
  conv=>whnf
  refine ⟨fun hc => ?_, fun hc => ?_⟩
  · have hc := of_decide_eq_true hc
    conv=>whnf
    refine WpN.seq (WpN.block (WpN.seq (WpN.vc ?_)))
    conv=>whnf
    refine WpN.cut (ι := Dec × Int) (fun x => [(0, .c (.p 0 0)), (1, .c (.i .u8 kind)), (3, .c (.b first)), (8, .c (.sl 38 0 n.toNat Bf.cap)), (21, .c (.i .i64 n)), (22, .c (.i .i64 i)), (9, .c (.i .i32 x.2)), (12, .c (.i .i64 i))])
      (fun x => lay [(0, .st (cells sd [(9, 38)] a q x.1 (setZ Z 9 Bf))), (38, .ar false .i32 xs)] 39) (fun x => x.1.Ok ∧ 0 ≤ x.2 ∧ x.2 ≤ 63) (WpN.vc ?_) ?_
    · conv=>whnf
      generalize hx0 : (i == 0) = x0
      cases x0 <;> conv=>whnf
      all_goals repeat' (first | (refine ⟨fun _=>?_, fun h => Bool.noConfusion h⟩; conv=>whnf) | (refine ⟨fun h => Bool.noConfusion h, fun _=>?_⟩; conv=>whnf) | (refine ⟨fun _=>?_, fun _=>?_⟩ <;> conv=>whnf) | fail)
      all_goals first | (exfalso; simp only [beq_eq_false_iff_ne, ne_eq] at *; omega) | skip
      all_goals
        refine .inl ⟨by kernel_rfl, ?_⟩
        conv=>whnf
      all_goals first
        | refine CallQ.use [] t142 rfl rfl trivial ?_
        | refine CallQ.use [] t137 rfl rfl trivial ?_
        | refine CallQ.use [] t138 rfl rfl trivial ?_
        | refine CallQ.use [] t139 rfl rfl trivial ?_
      all_goals
        rintro v l' ⟨rfl, rfl⟩
        conv=>whnf
        refine CallQ.use0 (f56 _ _ _ _ _ _ 256 _ _ hD.rc (by kernel_rfl)) (by rfl) ?_
        rintro v b' ⟨k, b, n', s, h, rfl, hk1, hr, rfl⟩
        conv=>whnf
      all_goals first
        | (refine CallQ.use [] (f141 _ _) rfl rfl trivial ?_
           rintro v l' ⟨rfl, rfl⟩
           conv=>whnf
           refine CallQ.use [] (f143 _ _ _) rfl rfl trivial ?_
           rintro v l' ⟨rfl, rfl⟩
           conv=>whnf
           exact ⟨({ D with b := b, n := n', s := s, h := h }, _), ⟨⟨hr, hD.gain⟩, clampI_in (by decide)⟩, Rel.lay [] (by cases sd <;> kernel_rfl) (by repeat constructor) (by cases sd <;> repeat constructor)⟩)
        | (have hk1 : k < 8 := hk1
           refine .inl ⟨by kernel_rfl, ?_⟩
           conv=>whnf
           refine ⟨by decide, ?_⟩
           conv=>whnf
           refine CallQ.use [] t140 rfl rfl trivial ?_
           rintro v l' ⟨rfl, rfl⟩
           conv=>whnf
           refine CallQ.use0 (f56 _ _ _ _ _ _ 256 _ _ hr (by kernel_rfl)) (by rfl) ?_
           rintro v b' ⟨k2, b2, n2, s2, h2, rfl, hk2, hr2, rfl⟩
           have hk2 : k2 < 8 := hk2
           have hg := msb_lsb k hk1 k2 hk2
           have hp := hD.gain
           conv=>whnf
           refine ⟨fun _=>?_, fun _=>?_⟩
           · conv=>whnf
             refine CallQ.use [] (f141 _ _) rfl rfl trivial ?_
             rintro v l' ⟨rfl, rfl⟩
             conv=>whnf
             refine ⟨({ D with b := b2, n := n2, s := s2, h := h2 }, _), ⟨⟨hr2, hD.gain⟩, ?_⟩, Rel.lay [] (by cases sd <;> kernel_rfl) (by repeat constructor) (by cases sd <;> repeat constructor)⟩
             exact max_in hg (by rw [IntWalk.i32_in (D.gain - 16) (by omega)]; omega)
           · conv=>whnf
             exact ⟨({ D with b := b2, n := n2, s := s2, h := h2 }, _), ⟨⟨hr2, hD.gain⟩, hg⟩, Rel.lay [] (by cases sd <;> kernel_rfl) (by repeat constructor) (by cases sd <;> repeat constructor)⟩)
    · rintro ⟨D, g⟩ ⟨hD, hg⟩
      dsimp only at hD hg ⊢
      obtain ⟨gn, rfl⟩ := Int.eq_ofNat_of_zero_le hg.1
      have hga := gain_all gn (by omega)
      have hBo := Bf.ok
      refine WpN.vc ?_
      conv=>whnf
      repeat (refine ⟨by first | decide | omega, ?_⟩; conv=>whnf)
      refine .inl ⟨by kernel_rfl, ?_⟩
      conv=>whnf
      repeat (refine ⟨by first | decide | exact hga.2 | omega, ?_⟩; conv=>whnf)
      refine WpN.vc ?_
      conv=>whnf
      have e1 : IntKind.i64.wrap (i + 1) = i + 1 := IntWalk.i64_in _ (by omega)
      refine ⟨(IntKind.i64.wrap (i + 1), { D with gain := gn }, xs.set (0 + i.toNat) (gainOf gn)), ⟨?_, ⟨hD.rc, hg⟩, by simpa using hxl, ?_⟩, ?_, Rel.lay [] (by cases sd <;> kernel_rfl) (by repeat constructor) (by cases sd <;> repeat constructor)⟩
      · dsimp only; omega
      · dsimp only
        rw [e1]
        intro y hy
        rw [Nat.zero_add, show (i + 1).toNat = i.toNat + 1 by omega] at hy
        rcases mem_take_set hy with rfl | hy
        · exact hga.1
        · exact hxs y hy
      · dsimp only; omega
  · have hc := of_decide_eq_false hc
    have hin : i = n := by omega
    subst hin
    conv=>whnf
    refine ⟨rfl, ?_⟩
    conv=>whnf
    refine ⟨lay [(0, .st (cells sd [(9, 38)] a q D (setZ Z 9 ⟨Bf.cap, xs, Bf.ys, by have := Bf.ok; omega, Bf.okb⟩))), (38, .ar false .i32 xs)] 39, by cases sd <;> kernel_rfl, stEq_lay (by cases sd <;> repeat constructor) 39 0, ?_⟩
    exact ⟨D, ⟨Bf.cap, xs, Bf.ys, by have := Bf.ok; omega, Bf.okb⟩, rfl, rfl, hD, hB, hxs⟩
theorem f106 (data : List Int) (b r n s h : Int) (rest : List C) (va : Bool) (hr : RcOk data b n s h) : Fn0 106 [.c (.p 0 0), .c (.b va)] (rc data b r n s h rest) fun v b' => ∃ kind off b n s h : Int, v = .tu [.c (.i .u8 kind), .c (.i .u8 off)] ∧ ((kind = 7 ∨ kind = 8 ∨ kind = 9) ∧ (off = 10 ∨ off = 11)) ∧ RcOk data b n s h ∧ b' = rc data b r n s h rest := by
  refine Fn0.run Proofs.Tryz.f106 rfl rfl rfl rfl rfl fun st m => ?_
  conv=>whnf
  cases va
  all_goals
    repeat' (first
      | (refine ⟨fun _=>?_, fun h => absurd h (by decide)⟩; conv=>whnf)
      | (refine ⟨fun h => absurd h (by decide), fun _=>?_⟩; conv=>whnf)
      | (refine ⟨fun _=>?_, fun _=>?_⟩ <;> conv=>whnf)
      | fail)
  all_goals
    refine .inl ⟨by kernel_rfl, ?_⟩
    conv=>whnf
    first | refine CallQ.use [] t134 rfl rfl trivial ?_ | refine CallQ.use [] t135 rfl rfl trivial ?_
    rintro v l' ⟨rfl, rfl⟩
    conv=>whnf
    refine CallQ.use0 (f56 _ _ _ _ _ _ 256 _ _ hr (by kernel_rfl)) (by rfl) ?_
    rintro v b' ⟨k, b, n, s, h, rfl, hk, hr, rfl⟩
    replace hk : k < 4 := Nat.lt_of_lt_of_le hk (by decide)
    conv=>whnf
    repeat' (first
      | (refine ⟨fun _=>?_, fun h => absurd h (by decide)⟩; conv=>whnf)
      | (refine ⟨fun h => absurd h (by decide), fun _=>?_⟩; conv=>whnf)
      | (refine ⟨fun _=>?_, fun _=>?_⟩ <;> conv=>whnf)
      | fail)
  all_goals first
    | exact ⟨_, rfl, rfl, by repeat constructor, rfl, 7, 10, b, n, s, h, rfl, by decide, hr, rfl⟩
    | exact ⟨_, rfl, rfl, by repeat constructor, rfl, 7, 11, b, n, s, h, rfl, by decide, hr, rfl⟩
    | exact ⟨_, rfl, rfl, by repeat constructor, rfl, 8, 10, b, n, s, h, rfl, by decide, hr, rfl⟩
    | exact ⟨_, rfl, rfl, by repeat constructor, rfl, 8, 11, b, n, s, h, rfl, by decide, hr, rfl⟩
    | exact ⟨_, rfl, rfl, by repeat constructor, rfl, 9, 10, b, n, s, h, rfl, by decide, hr, rfl⟩
    | exact ⟨_, rfl, rfl, by repeat constructor, rfl, 9, 11, b, n, s, h, rfl, by decide, hr, rfl⟩
    | (exfalso; simp only [beq_eq_false_iff_ne, ne_eq] at *; omega)
theorem f108 (data : List Int) (b r n s h : Int) (rest : List C) (va : Bool) (bw : Int) (hr : RcOk data b n s h) (hb : bw = 1 ∨ bw = 2 ∨ bw = 3) : Fn0 108 [.c (.p 0 0), .c (.b va), .c (.i .u8 bw)] (rc data b r n s h rest) fun v b' => ∃ (k : Nat) (b n s h : Int), v = .c (.i .u32 k) ∧ k < 32 ∧ RcOk data b n s h ∧ b' = rc data b r n s h rest := by
  refine Fn0.run Proofs.Tryz.f108 rfl rfl rfl rfl rfl fun st m => ?_
  conv=>whnf
  cases va <;> rcases hb with rfl | rfl | rfl
  all_goals
    repeat' (first
      | (refine ⟨fun _=>?_, fun h => absurd h (by decide)⟩; conv=>whnf)
      | (refine ⟨fun h => absurd h (by decide), fun _=>?_⟩; conv=>whnf)
      | (refine ⟨fun _=>?_, fun _=>?_⟩ <;> conv=>whnf)
      | fail)
  all_goals
    refine .inl ⟨by kernel_rfl, ?_⟩
    conv=>whnf
    first | refine CallQ.use [] t144 rfl rfl trivial ?_ | refine CallQ.use [] t145 rfl rfl trivial ?_ | refine CallQ.use [] t146 rfl rfl trivial ?_ | refine CallQ.use [] t147 rfl rfl trivial ?_
    rintro v l' ⟨rfl, rfl⟩
    conv=>whnf
    refine CallQ.use0 (f56 _ _ _ _ _ _ 256 _ _ hr (by kernel_rfl)) (by rfl) ?_
    rintro v b' ⟨k, b, n, s, h, rfl, hk, hr, rfl⟩
    replace hk : k < 32 := hk
    conv=>whnf
    exact ⟨_, rfl, rfl, by repeat constructor, rfl, k, b, n, s, h, rfl, hk, hr, rfl⟩
def T148 : List (List Int) := [[8, 8, 8, 8, 8, 8, 8, 8, 8, 8, 8, 8, 8, 8, 8, 8], [10, 11, 11, 11, 11, 11, 10, 10, 10, 10, 10, 9, 9, 9, 8, 11], [10, 13, 13, 11, 15, 12, 12, 13, 10, 13, 12, 13, 13, 12, 11, 11], [8, 10, 9, 10, 10, 9, 9, 9, 9, 9, 8, 8, 8, 8, 8, 9], [8, 14, 13, 12, 14, 12, 15, 13, 12, 12, 12, 13, 13, 12, 12, 11], [8, 11, 13, 13, 12, 11, 11, 13, 11, 11, 11, 11, 11, 11, 10, 12], [8, 8, 8, 8, 8, 8, 8, 8, 8, 8, 8, 8, 8, 8, 8, 8], [8, 10, 14, 11, 15, 10, 13, 11, 12, 13, 13, 12, 11, 11, 10, 11], [8, 14, 10, 14, 14, 12, 13, 12, 14, 13, 12, 12, 13, 11, 11, 11], [10, 9, 8, 8, 8, 8, 8, 8, 8, 8, 8, 8, 8, 8, 8, 8], [8, 9, 8, 8, 8, 8, 8, 8, 8, 8, 8, 8, 8, 8, 8, 9], [10, 10, 11, 12, 13, 11, 11, 11, 11, 11, 11, 11, 10, 10, 9, 11], [10, 10, 11, 11, 12, 11, 11, 11, 11, 11, 11, 11, 11, 10, 9, 11], [11, 12, 12, 12, 14, 12, 12, 13, 11, 13, 12, 12, 13, 12, 11, 12], [8, 14, 12, 13, 12, 15, 13, 10, 14, 13, 15, 12, 12, 11, 13, 11], [8, 9, 8, 9, 9, 9, 9, 9, 9, 9, 8, 8, 8, 8, 9, 8], [9, 14, 13, 15, 13, 12, 13, 11, 12, 13, 12, 12, 12, 11, 11, 12], [9, 11, 11, 12, 12, 11, 11, 13, 10, 11, 11, 13, 13, 13, 11, 12], [10, 11, 11, 10, 10, 10, 11, 10, 9, 10, 9, 10, 9, 9, 9, 12], [8, 10, 11, 13, 11, 11, 10, 10, 10, 9, 9, 8, 8, 8, 8, 8], [11, 12, 11, 13, 11, 11, 10, 10, 9, 9, 9, 9, 9, 10, 10, 12], [10, 14, 11, 15, 15, 12, 13, 12, 13, 11, 13, 11, 11, 10, 11, 11], [10, 11, 13, 14, 14, 11, 13, 11, 12, 12, 11, 11, 11, 11, 10, 12], [9, 11, 11, 12, 12, 12, 12, 11, 13, 13, 13, 11, 9, 9, 9, 9], [10, 13, 11, 14, 14, 12, 15, 12, 12, 13, 11, 12, 12, 11, 11, 11], [8, 14, 9, 9, 8, 8, 8, 8, 8, 8, 8, 8, 8, 8, 8, 8], [8, 14, 14, 11, 13, 10, 13, 13, 11, 12, 12, 15, 15, 12, 12, 12], [11, 11, 15, 11, 13, 12, 11, 11, 11, 10, 10, 11, 11, 11, 10, 11], [8, 8, 9, 8, 8, 8, 10, 9, 10, 9, 9, 10, 10, 10, 9, 9], [8, 11, 10, 13, 11, 11, 10, 11, 10, 9, 8, 8, 9, 8, 8, 9], [11, 13, 13, 12, 15, 13, 11, 11, 10, 11, 10, 10, 9, 8, 9, 8], [10, 11, 13, 11, 12, 11, 11, 11, 10, 9, 10, 14, 12, 8, 8, 8]]
theorem t148 : FnS 148 [] [] fun v l' => v = .c (.iss .u64 T148) ∧ l' = [] := by
  refine FnS.runT (b := 0) Proofs.Tryz.f148 rfl rfl rfl rfl rfl rfl ?_
  conv=>whnf
  exact ⟨⟨rfl, rfl, rfl, rfl, rfl, rfl, rfl, rfl, rfl, rfl, rfl, rfl, rfl, rfl, rfl, rfl, rfl, rfl, rfl, rfl, rfl, rfl, rfl, rfl, rfl, rfl, rfl, rfl, rfl, rfl, rfl, rfl⟩, [], rfl, trivial, rfl, rfl⟩
def T149 : List (List Int) := [[0, 0, 0, 0, 0, 0, 0, 0, 0, 0], [1, 3, 1, 2, 2, 1, 2, 1, 1, 1], [2, 1, 1, 1, 1, 1, 1, 1, 1, 1], [1, 2, 2, 2, 2, 1, 2, 1, 1, 1], [2, 3, 3, 3, 3, 2, 2, 2, 2, 2], [0, 5, 3, 3, 2, 2, 2, 2, 1, 1], [0, 2, 2, 2, 2, 2, 2, 2, 2, 1], [2, 3, 6, 4, 4, 4, 5, 4, 5, 5], [2, 4, 5, 5, 4, 5, 4, 6, 4, 4], [2, 4, 4, 7, 4, 5, 4, 5, 5, 4], [4, 3, 3, 3, 2, 3, 2, 2, 2, 2], [1, 5, 5, 6, 4, 5, 4, 5, 5, 5], [2, 7, 4, 6, 5, 5, 5, 5, 5, 5], [2, 7, 5, 5, 5, 5, 5, 6, 5, 4], [3, 3, 5, 4, 4, 5, 4, 5, 4, 4], [2, 3, 3, 5, 5, 4, 4, 4, 4, 4], [2, 4, 4, 6, 4, 5, 4, 5, 5, 5], [2, 5, 4, 6, 5, 5, 5, 4, 5, 4], [2, 7, 4, 5, 4, 5, 4, 5, 5, 5], [2, 5, 4, 6, 7, 6, 5, 6, 5, 4], [3, 6, 7, 4, 6, 5, 5, 6, 4, 5], [2, 7, 6, 4, 4, 4, 5, 4, 5, 5], [4, 5, 5, 4, 6, 6, 5, 6, 5, 4], [2, 5, 5, 6, 5, 6, 4, 6, 4, 4], [4, 5, 5, 5, 3, 7, 4, 5, 5, 4], [2, 3, 4, 5, 5, 6, 4, 5, 5, 4], [2, 3, 2, 3, 3, 4, 2, 3, 3, 3], [1, 1, 2, 2, 2, 2, 2, 3, 2, 2], [4, 5, 5, 6, 6, 6, 5, 6, 4, 5], [3, 5, 5, 4, 4, 4, 4, 3, 3, 2], [2, 5, 3, 7, 5, 5, 4, 4, 5, 4], [4, 4, 5, 4, 5, 6, 5, 6, 5, 4]]
theorem t149 : FnS 149 [] [] fun v l' => v = .c (.iss .u64 T149) ∧ l' = [] := by
  refine FnS.runT (b := 0) Proofs.Tryz.f149 rfl rfl rfl rfl rfl rfl ?_
  conv=>whnf
  exact ⟨⟨rfl, rfl, rfl, rfl, rfl, rfl, rfl, rfl, rfl, rfl, rfl, rfl, rfl, rfl, rfl, rfl, rfl, rfl, rfl, rfl, rfl, rfl, rfl, rfl, rfl, rfl, rfl, rfl, rfl, rfl, rfl, rfl⟩, [], rfl, trivial, rfl, rfl⟩
def T151 : List (List Int) := [[256, 1, 2, 3, 18, 242, 253, 254, 255, 256], [256, 1, 2, 4, 38, 221, 253, 254, 255, 256], [256, 1, 2, 6, 48, 197, 252, 254, 255, 256], [256, 1, 2, 10, 62, 185, 246, 254, 255, 256], [256, 1, 4, 20, 73, 174, 248, 254, 255, 256], [256, 1, 4, 21, 76, 166, 239, 254, 255, 256], [256, 1, 8, 32, 85, 159, 226, 252, 255, 256], [256, 1, 2, 20, 83, 161, 219, 249, 255, 256], [256, 1, 2, 3, 12, 244, 253, 254, 255, 256], [256, 1, 2, 4, 32, 218, 253, 254, 255, 256], [256, 1, 2, 5, 47, 199, 252, 254, 255, 256], [256, 1, 2, 12, 61, 187, 252, 254, 255, 256], [256, 1, 5, 24, 72, 172, 249, 254, 255, 256], [256, 1, 2, 16, 70, 170, 242, 254, 255, 256], [256, 1, 2, 17, 78, 165, 226, 251, 255, 256], [256, 1, 8, 29, 79, 156, 237, 254, 255, 256]]
theorem t151 : FnS 151 [] [] fun v l' => v = .c (.iss .u64 T151) ∧ l' = [] := by
  refine FnS.runT (b := 0) Proofs.Tryz.f151 rfl rfl rfl rfl rfl rfl ?_
  conv=>whnf
  exact ⟨⟨rfl, rfl, rfl, rfl, rfl, rfl, rfl, rfl, rfl, rfl, rfl, rfl, rfl, rfl, rfl, rfl⟩, [], rfl, trivial, rfl, rfl⟩
def T154 : List (List Int) := [[0, 0, 0, 0, 0, 0, 0, 0, 0, 0, 0, 0, 0, 0, 1], [0, 0, 0, 0, 0, 0, 0, 0, 0, 0, 0, 0, 0, 0, 0], [0, 0, 1, 0, 0, 1, 1, 1, 0, 1, 1, 1, 1, 0, 0], [0, 0, 0, 0, 0, 0, 0, 0, 0, 0, 0, 0, 1, 0, 0], [0, 1, 1, 0, 1, 0, 1, 1, 0, 1, 1, 1, 1, 1, 0], [0, 0, 1, 0, 0, 0, 0, 0, 0, 0, 0, 0, 0, 0, 0], [1, 0, 0, 0, 0, 0, 0, 0, 0, 0, 0, 1, 0, 1, 0], [0, 1, 1, 0, 0, 0, 1, 0, 1, 1, 1, 0, 1, 0, 1], [0, 1, 0, 1, 1, 0, 1, 0, 1, 0, 1, 1, 1, 1, 1], [0, 0, 0, 0, 0, 0, 0, 0, 0, 0, 0, 0, 0, 0, 1], [0, 1, 0, 0, 0, 0, 0, 0, 0, 0, 0, 0, 0, 0, 0], [0, 0, 1, 0, 1, 1, 1, 1, 1, 1, 1, 0, 1, 0, 0], [0, 0, 1, 0, 0, 1, 0, 1, 0, 1, 0, 0, 1, 0, 0], [0, 0, 0, 0, 1, 1, 0, 1, 0, 1, 1, 1, 1, 0, 0], [0, 1, 0, 0, 0, 1, 1, 0, 1, 1, 1, 0, 1, 1, 1], [0, 0, 1, 1, 0, 0, 0, 0, 0, 0, 0, 0, 1, 1, 0], [0, 1, 1, 0, 1, 0, 1, 1, 1, 1, 1, 0, 1, 0, 0], [0, 0, 1, 0, 0, 0, 0, 1, 0, 0, 1, 1, 1, 0, 0], [0, 0, 0, 0, 0, 0, 0, 0, 0, 0, 0, 0, 0, 0, 1], [0, 0, 0, 0, 0, 0, 0, 0, 0, 0, 0, 0, 1, 0, 0], [0, 0, 0, 0, 0, 0, 0, 0, 0, 0, 0, 0, 0, 0, 0], [0, 1, 0, 1, 0, 1, 1, 0, 1, 0, 1, 0, 1, 1, 0], [0, 0, 1, 1, 1, 1, 0, 1, 1, 0, 0, 1, 1, 0, 0], [0, 1, 1, 0, 1, 0, 1, 0, 1, 0, 0, 0, 0, 1, 0], [0, 0, 0, 1, 1, 0, 1, 0, 1, 1, 1, 1, 1, 1, 1], [0, 0, 0, 0, 0, 0, 0, 0, 0, 0, 0, 0, 0, 0, 1], [0, 1, 1, 0, 0, 0, 1, 1, 0, 0, 1, 1, 1, 1, 1], [0, 0, 0, 0, 0, 1, 0, 1, 1, 1, 1, 0, 1, 1, 1], [0, 0, 0, 0, 0, 0, 0, 0, 0, 0, 0, 0, 0, 0, 1], [0, 0, 0, 0, 0, 0, 0, 0, 0, 0, 0, 0, 0, 0, 1], [1, 0, 0, 0, 0, 0, 0, 0, 0, 0, 0, 1, 0, 0, 0], [0, 0, 1, 0, 0, 1, 1, 1, 0, 0, 1, 0, 0, 1, 0]]
theorem t154 : FnS 154 [] [] fun v l' => v = .c (.iss .u64 T154) ∧ l' = [] := by
  refine FnS.runT (b := 0) Proofs.Tryz.f154 rfl rfl rfl rfl rfl rfl ?_
  conv=>whnf
  exact ⟨⟨rfl, rfl, rfl, rfl, rfl, rfl, rfl, rfl, rfl, rfl, rfl, rfl, rfl, rfl, rfl, rfl, rfl, rfl, rfl, rfl, rfl, rfl, rfl, rfl, rfl, rfl, rfl, rfl, rfl, rfl, rfl, rfl⟩, [], rfl, trivial, rfl, rfl⟩
def T155 : List (List Int) := [[175, 148, 160, 176, 178, 173, 174, 164, 177, 174, 196, 182, 198, 192, 182], [68, 62, 66, 60, 72, 117, 85, 90, 118, 136, 151, 142, 160, 142, 155]]
theorem t155 : FnS 155 [] [] fun v l' => v = .c (.iss .u64 T155) ∧ l' = [] := by
  refine FnS.runT (b := 0) Proofs.Tryz.f155 rfl rfl rfl rfl rfl rfl ?_
  conv=>whnf
  exact ⟨⟨rfl, rfl⟩, [], rfl, trivial, rfl, rfl⟩
def T156 : List (List Int) := [[0, 1, 0, 0, 0, 0, 0, 0, 0], [1, 0, 0, 0, 0, 0, 0, 0, 0], [0, 0, 0, 0, 0, 0, 0, 0, 0], [1, 1, 1, 0, 0, 0, 0, 1, 0], [0, 1, 0, 0, 0, 0, 0, 0, 0], [0, 1, 0, 0, 0, 0, 0, 0, 0], [1, 0, 1, 1, 0, 0, 0, 1, 0], [0, 1, 1, 0, 0, 1, 1, 0, 0], [0, 0, 1, 1, 0, 1, 0, 1, 1], [0, 0, 1, 1, 0, 0, 1, 1, 1], [0, 0, 0, 0, 0, 0, 0, 0, 0], [0, 1, 0, 1, 1, 1, 1, 1, 0], [0, 1, 0, 1, 1, 1, 1, 1, 0], [0, 1, 1, 1, 1, 1, 1, 1, 0], [1, 0, 1, 1, 0, 1, 1, 1, 1], [0, 1, 1, 1, 1, 1, 0, 1, 0], [0, 0, 1, 1, 0, 1, 0, 1, 0], [0, 0, 1, 1, 1, 0, 1, 1, 1], [0, 1, 1, 0, 0, 1, 1, 1, 0], [0, 0, 0, 1, 1, 1, 0, 1, 0], [0, 1, 1, 0, 0, 1, 0, 1, 0], [0, 1, 1, 0, 0, 0, 1, 1, 0], [0, 0, 0, 0, 0, 1, 1, 1, 1], [0, 0, 1, 1, 0, 0, 0, 1, 1], [0, 0, 0, 1, 0, 1, 1, 1, 1], [0, 1, 1, 1, 1, 1, 1, 1, 0], [0, 0, 0, 0, 0, 0, 0, 0, 0], [0, 0, 0, 0, 0, 0, 0, 0, 0], [0, 0, 1, 0, 1, 1, 0, 1, 0], [1, 0, 0, 1, 0, 0, 0, 0, 0], [0, 0, 0, 1, 1, 0, 1, 0, 1], [1, 0, 1, 1, 0, 1, 1, 1, 1]]
theorem t156 : FnS 156 [] [] fun v l' => v = .c (.iss .u64 T156) ∧ l' = [] := by
  refine FnS.runT (b := 0) Proofs.Tryz.f156 rfl rfl rfl rfl rfl rfl ?_
  conv=>whnf
  exact ⟨⟨rfl, rfl, rfl, rfl, rfl, rfl, rfl, rfl, rfl, rfl, rfl, rfl, rfl, rfl, rfl, rfl, rfl, rfl, rfl, rfl, rfl, rfl, rfl, rfl, rfl, rfl, rfl, rfl, rfl, rfl, rfl, rfl⟩, [], rfl, trivial, rfl, rfl⟩
def T157 : List (List Int) := [[179, 138, 140, 148, 151, 149, 153, 151, 163], [116, 67, 82, 59, 92, 72, 100, 89, 92]]
theorem t157 : FnS 157 [] [] fun v l' => v = .c (.iss .u64 T157) ∧ l' = [] := by
  refine FnS.runT (b := 0) Proofs.Tryz.f157 rfl rfl rfl rfl rfl rfl ?_
  conv=>whnf
  exact ⟨⟨rfl, rfl⟩, [], rfl, trivial, rfl, rfl⟩
def T160 : List (List Int) := [[12, 35, 60, 83, 108, 132, 157, 180, 206, 228], [15, 32, 55, 77, 101, 125, 151, 175, 201, 225], [19, 42, 66, 89, 114, 137, 162, 184, 209, 230], [12, 25, 50, 72, 97, 120, 147, 172, 200, 223], [26, 44, 69, 90, 114, 135, 159, 180, 205, 225], [13, 22, 53, 80, 106, 130, 156, 180, 205, 228], [15, 25, 44, 64, 90, 115, 142, 168, 196, 222], [19, 24, 62, 82, 100, 120, 145, 168, 190, 214], [22, 31, 50, 79, 103, 120, 151, 170, 203, 227], [21, 29, 45, 65, 106, 124, 150, 171, 196, 224], [30, 49, 75, 97, 121, 142, 165, 186, 209, 229], [19, 25, 52, 70, 93, 116, 143, 166, 192, 219], [26, 34, 62, 75, 97, 118, 145, 167, 194, 217], [25, 33, 56, 70, 91, 113, 143, 165, 196, 223], [21, 34, 51, 72, 97, 117, 145, 171, 196, 222], [20, 29, 50, 67, 90, 117, 144, 168, 197, 221], [22, 31, 48, 66, 95, 117, 146, 168, 196, 222], [24, 33, 51, 77, 116, 134, 158, 180, 200, 224], [21, 28, 70, 87, 106, 124, 149, 170, 194, 217], [26, 33, 53, 64, 83, 117, 152, 173, 204, 225], [27, 34, 65, 95, 108, 129, 155, 174, 210, 225], [20, 26, 72, 99, 113, 131, 154, 176, 200, 219], [34, 43, 61, 78, 93, 114, 155, 177, 205, 229], [23, 29, 54, 97, 124, 138, 163, 179, 209, 229], [30, 38, 56, 89, 118, 129, 158, 178, 200, 231], [21, 29, 49, 63, 85, 111, 142, 163, 193, 222], [27, 48, 77, 103, 133, 158, 179, 196, 215, 232], [29, 47, 74, 99, 124, 151, 176, 198, 220, 237], [33, 42, 61, 76, 93, 121, 155, 174, 207, 225], [29, 53, 87, 112, 136, 154, 170, 188, 208, 227], [24, 30, 52, 84, 131, 150, 166, 186, 203, 229], [37, 48, 64, 84, 104, 118, 156, 177, 201, 230]]
theorem t160 : FnS 160 [] [] fun v l' => v = .c (.iss .u64 T160) ∧ l' = [] := by
  refine FnS.runT (b := 0) Proofs.Tryz.f160 rfl rfl rfl rfl rfl rfl ?_
  conv=>whnf
  exact ⟨⟨rfl, rfl, rfl, rfl, rfl, rfl, rfl, rfl, rfl, rfl, rfl, rfl, rfl, rfl, rfl, rfl, rfl, rfl, rfl, rfl, rfl, rfl, rfl, rfl, rfl, rfl, rfl, rfl, rfl, rfl, rfl, rfl⟩, [], rfl, trivial, rfl, rfl⟩
def T161 : List (List Int) := [[7, 23, 38, 54, 69, 85, 100, 116, 131, 147, 162, 178, 193, 208, 223, 239], [13, 25, 41, 55, 69, 83, 98, 112, 127, 142, 157, 171, 187, 203, 220, 236], [15, 21, 34, 51, 61, 78, 92, 106, 126, 136, 152, 167, 185, 205, 225, 240], [10, 21, 36, 50, 63, 79, 95, 110, 126, 141, 157, 173, 189, 205, 221, 237], [17, 20, 37, 51, 59, 78, 89, 107, 123, 134, 150, 164, 184, 205, 224, 240], [10, 15, 32, 51, 67, 81, 96, 112, 129, 142, 158, 173, 189, 204, 220, 236], [8, 21, 37, 51, 65, 79, 98, 113, 126, 138, 155, 168, 179, 192, 209, 218], [12, 15, 34, 55, 63, 78, 87, 108, 118, 131, 148, 167, 185, 203, 219, 236], [16, 19, 32, 36, 56, 79, 91, 108, 118, 136, 154, 171, 186, 204, 220, 237], [11, 28, 43, 58, 74, 89, 105, 120, 135, 150, 165, 180, 196, 211, 226, 241], [6, 16, 33, 46, 60, 75, 92, 107, 123, 137, 156, 169, 185, 199, 214, 225], [11, 19, 30, 44, 57, 74, 89, 105, 121, 135, 152, 169, 186, 202, 218, 234], [12, 19, 29, 46, 57, 71, 88, 100, 120, 132, 148, 165, 182, 199, 216, 233], [17, 23, 35, 46, 56, 77, 92, 106, 123, 134, 152, 167, 185, 204, 222, 237], [14, 17, 45, 53, 63, 75, 89, 107, 115, 132, 151, 171, 188, 206, 221, 240], [9, 16, 29, 40, 56, 71, 88, 103, 119, 137, 154, 171, 189, 205, 222, 237], [16, 19, 36, 48, 57, 76, 87, 105, 118, 132, 150, 167, 185, 202, 218, 236], [12, 17, 29, 54, 71, 81, 94, 104, 126, 136, 149, 164, 182, 201, 221, 237], [15, 28, 47, 62, 79, 97, 115, 129, 142, 155, 168, 180, 194, 208, 223, 238], [8, 14, 30, 45, 62, 78, 94, 111, 127, 143, 159, 175, 192, 207, 223, 239], [17, 30, 49, 62, 79, 92, 107, 119, 132, 145, 160, 174, 190, 204, 220, 235], [14, 19, 36, 45, 61, 76, 91, 108, 121, 138, 154, 172, 189, 205, 222, 238], [12, 18, 31, 45, 60, 76, 91, 107, 123, 138, 154, 171, 187, 204, 221, 236], [13, 17, 31, 43, 53, 70, 83, 103, 114, 131, 149, 167, 185, 203, 220, 237], [17, 22, 35, 42, 58, 78, 93, 110, 125, 139, 155, 170, 188, 206, 224, 240], [8, 15, 34, 50, 67, 83, 99, 115, 131, 146, 162, 178, 193, 209, 224, 239], [13, 16, 41, 66, 73, 86, 95, 111, 128, 137, 150, 163, 183, 206, 225, 241], [17, 25, 37, 52, 63, 75, 92, 102, 119, 132, 144, 160, 175, 191, 212, 231], [19, 31, 49, 65, 83, 100, 117, 133, 147, 161, 174, 187, 200, 213, 227, 242], [18, 31, 52, 68, 88, 103, 117, 126, 138, 149, 163, 177, 192, 207, 223, 239], [16, 29, 47, 61, 76, 90, 106, 119, 133, 147, 161, 176, 193, 209, 224, 240], [15, 21, 35, 50, 61, 73, 86, 97, 110, 119, 129, 141, 175, 198, 218, 237]]
theorem t161 : FnS 161 [] [] fun v l' => v = .c (.iss .u64 T161) ∧ l' = [] := by
  refine FnS.runT (b := 0) Proofs.Tryz.f161 rfl rfl rfl rfl rfl rfl ?_
  conv=>whnf
  exact ⟨⟨rfl, rfl, rfl, rfl, rfl, rfl, rfl, rfl, rfl, rfl, rfl, rfl, rfl, rfl, rfl, rfl, rfl, rfl, rfl, rfl, rfl, rfl, rfl, rfl, rfl, rfl, rfl, rfl, rfl, rfl, rfl, rfl⟩, [], rfl, trivial, rfl, rfl⟩
def T182 : List (List Int) := [[4, 6, 24, 7, 5], [0, 0, 2, 0, 0], [12, 28, 41, 13, -4], [-9, 15, 42, 25, 14], [1, -2, 62, 41, -9], [-10, 37, 65, -4, 3], [-6, 4, 66, 7, -8], [16, 14, 38, -3, 33]]
theorem t182 : FnS 182 [] [] fun v l' => v = .c (.iss .i8 T182) ∧ l' = [] := by
  refine FnS.runT (b := 0) Proofs.Tryz.f182 rfl rfl rfl rfl rfl rfl ?_
  conv=>whnf
  exact ⟨⟨rfl, rfl, rfl, rfl, rfl, rfl, rfl, rfl⟩, [], rfl, trivial, rfl, rfl⟩
def T183 : List (List Int) := [[13, 22, 39, 23, 12], [-1, 36, 64, 27, -6], [-7, 10, 55, 43, 17], [1, 1, 8, 1, 1], [6, -11, 74, 53, -9], [-12, 55, 76, -12, 8], [-3, 3, 93, 27, -4], [26, 39, 59, 3, -8], [2, 0, 77, 11, 9], [-8, 22, 44, -6, 7], [40, 9, 26, 3, 9], [-7, 20, 101, -7, 4], [3, -8, 42, 26, 0], [-15, 33, 68, 2, 23], [-2, 55, 46, -2, 15], [3, -1, 21, 16, 41]]
theorem t183 : FnS 183 [] [] fun v l' => v = .c (.iss .i8 T183) ∧ l' = [] := by
  refine FnS.runT (b := 0) Proofs.Tryz.f183 rfl rfl rfl rfl rfl rfl ?_
  conv=>whnf
  exact ⟨⟨rfl, rfl, rfl, rfl, rfl, rfl, rfl, rfl, rfl, rfl, rfl, rfl, rfl, rfl, rfl, rfl⟩, [], rfl, trivial, rfl, rfl⟩
def T184 : List (List Int) := [[-6, 27, 61, 39, 5], [-11, 42, 88, 4, 1], [-2, 60, 65, 6, -4], [-1, -5, 73, 56, 1], [-9, 19, 94, 29, -9], [0, 12, 99, 6, 4], [8, -19, 102, 46, -13], [3, 2, 13, 3, 2], [9, -21, 84, 72, -18], [-11, 46, 104, -22, 8], [18, 38, 48, 23, 0], [-16, 70, 83, -21, 11], [5, -11, 117, 22, -8], [-6, 23, 117, -12, 3], [3, -8, 95, 28, 4], [-10, 15, 77, 60, -15], [-1, 4, 124, 2, -4], [3, 38, 84, 24, -25], [2, 13, 42, 13, 31], [21, -4, 56, 46, -1], [-1, 35, 79, -13, 19], [-7, 65, 88, -9, -14], [20, 4, 81, 49, -29], [20, 0, 75, 3, -17], [5, -9, 44, 92, -8], [1, -3, 22, 69, 31], [-6, 95, 41, -12, 5], [39, 67, 16, -4, 1], [0, -6, 120, 55, -36], [-13, 44, 122, 4, -24], [81, 5, 11, 3, 7], [2, 0, 9, 10, 88]]
theorem t184 : FnS 184 [] [] fun v l' => v = .c (.iss .i8 T184) ∧ l' = [] := by
  refine FnS.runT (b := 0) Proofs.Tryz.f184 rfl rfl rfl rfl rfl rfl ?_
  conv=>whnf
  exact ⟨⟨rfl, rfl, rfl, rfl, rfl, rfl, rfl, rfl, rfl, rfl, rfl, rfl, rfl, rfl, rfl, rfl, rfl, rfl, rfl, rfl, rfl, rfl, rfl, rfl, rfl, rfl, rfl, rfl, rfl, rfl, rfl, rfl⟩, [], rfl, trivial, rfl, rfl⟩
def T190 : List (List Int) := [[256, 131, 205, 230, 238, 241, 244, 245, 246, 247, 248, 249, 250, 251, 252, 253, 254, 255, 256], [256, 58, 151, 211, 234, 241, 244, 245, 246, 247, 248, 249, 250, 251, 252, 253, 254, 255, 256], [256, 43, 94, 140, 173, 197, 213, 224, 232, 238, 241, 244, 247, 249, 250, 251, 253, 254, 256], [256, 17, 69, 140, 197, 228, 240, 245, 246, 247, 248, 249, 250, 251, 252, 253, 254, 255, 256], [256, 6, 27, 68, 121, 170, 205, 226, 237, 243, 246, 248, 250, 251, 252, 253, 254, 255, 256], [256, 7, 21, 43, 71, 100, 128, 153, 173, 190, 203, 214, 223, 230, 235, 239, 243, 246, 256], [256, 2, 7, 21, 50, 92, 138, 179, 210, 229, 240, 246, 249, 251, 252, 253, 254, 255, 256], [256, 1, 3, 7, 17, 36, 65, 100, 137, 171, 199, 219, 233, 241, 246, 250, 252, 254, 256], [256, 1, 3, 5, 10, 19, 33, 53, 77, 104, 132, 158, 181, 201, 216, 227, 235, 241, 256], [256, 1, 2, 3, 9, 36, 94, 150, 189, 214, 228, 238, 244, 247, 250, 252, 253, 254, 256], [256, 2, 3, 9, 36, 94, 150, 189, 214, 228, 238, 244, 247, 250, 252, 253, 254, 256, 256]]
theorem t190 : FnS 190 [] [] fun v l' => v = .c (.iss .u64 T190) ∧ l' = [] := by
  refine FnS.runT (b := 0) Proofs.Tryz.f190 rfl rfl rfl rfl rfl rfl ?_
  conv=>whnf
  exact ⟨⟨rfl, rfl, rfl, rfl, rfl, rfl, rfl, rfl, rfl, rfl, rfl⟩, [], rfl, trivial, rfl, rfl⟩
def T216 : List (List Int) := [[0, 0], [1, 0], [0, 1]]
theorem t216 : FnS 216 [] [] fun v l' => v = .c (.iss .i8 T216) ∧ l' = [] := by
  refine FnS.runT (b := 0) Proofs.Tryz.f216 rfl rfl rfl rfl rfl rfl ?_
  conv=>whnf
  exact ⟨⟨rfl, rfl, rfl⟩, [], rfl, trivial, rfl, rfl⟩
def T218 : List (List Int) := [[0, 0, 0, 0], [2, 1, 0, -1], [-1, 0, 1, 2], [-1, 0, 0, 1], [-1, 0, 0, 0], [0, 0, 0, 1], [0, 0, 1, 1], [1, 1, 0, 0], [1, 0, 0, 0], [0, 0, 0, -1], [1, 0, 0, -1]]
theorem t218 : FnS 218 [] [] fun v l' => v = .c (.iss .i8 T218) ∧ l' = [] := by
  refine FnS.runT (b := 0) Proofs.Tryz.f218 rfl rfl rfl rfl rfl rfl ?_
  conv=>whnf
  exact ⟨⟨rfl, rfl, rfl, rfl, rfl, rfl, rfl, rfl, rfl, rfl, rfl⟩, [], rfl, trivial, rfl, rfl⟩
def T220 : List (List Int) := [[0, 0], [0, 1], [1, 0], [-1, 1], [1, -1], [-1, 2], [2, -1], [-2, 2], [2, -2], [-2, 3], [3, -2], [-3, 3]]
theorem t220 : FnS 220 [] [] fun v l' => v = .c (.iss .i8 T220) ∧ l' = [] := by
  refine FnS.runT (b := 0) Proofs.Tryz.f220 rfl rfl rfl rfl rfl rfl ?_
  conv=>whnf
  exact ⟨⟨rfl, rfl, rfl, rfl, rfl, rfl, rfl, rfl, rfl, rfl, rfl, rfl⟩, [], rfl, trivial, rfl, rfl⟩
def T222 : List (List Int) := [[0, 0, 0, 0], [0, 0, 1, 1], [1, 1, 0, 0], [-1, 0, 0, 0], [0, 0, 0, 1], [1, 0, 0, 0], [-1, 0, 0, 1], [0, 0, 0, -1], [-1, 0, 1, 2], [1, 0, 0, -1], [-2, -1, 1, 2], [2, 1, 0, -1], [-2, 0, 0, 2], [-2, 0, 1, 3], [2, 1, -1, -2], [-3, -1, 1, 3], [2, 0, 0, -2], [3, 1, 0, -2], [-3, -1, 2, 4], [-4, -1, 1, 4], [3, 1, -1, -3], [-4, -1, 2, 5], [4, 2, -1, -3], [4, 1, -1, -4], [-5, -1, 2, 6], [5, 2, -1, -4], [-6, -2, 2, 6], [-5, -2, 2, 5], [6, 2, -1, -5], [-7, -2, 3, 8], [6, 2, -2, -6], [5, 2, -2, -5], [8, 3, -2, -7], [-9, -3, 3, 9]]
theorem t222 : FnS 222 [] [] fun v l' => v = .c (.iss .i8 T222) ∧ l' = [] := by
  refine FnS.runT (b := 0) Proofs.Tryz.f222 rfl rfl rfl rfl rfl rfl ?_
  conv=>whnf
  exact ⟨⟨rfl, rfl, rfl, rfl, rfl, rfl, rfl, rfl, rfl, rfl, rfl, rfl, rfl, rfl, rfl, rfl, rfl, rfl, rfl, rfl, rfl, rfl, rfl, rfl, rfl, rfl, rfl, rfl, rfl, rfl, rfl, rfl, rfl, rfl⟩, [], rfl, trivial, rfl, rfl⟩
def T227 : List (List Int) := [[256, 126, 256], [256, 56, 198, 256], [256, 25, 126, 230, 256], [256, 12, 72, 180, 244, 256], [256, 7, 42, 126, 213, 250, 256], [256, 4, 24, 83, 169, 232, 253, 256], [256, 3, 15, 53, 125, 200, 242, 254, 256], [256, 2, 10, 35, 89, 162, 221, 248, 255, 256], [256, 2, 7, 24, 63, 126, 191, 233, 251, 255, 256], [256, 1, 5, 17, 45, 94, 157, 211, 241, 252, 255, 256], [256, 1, 5, 13, 33, 70, 125, 182, 223, 245, 253, 255, 256], [256, 1, 4, 11, 26, 54, 98, 151, 199, 232, 248, 254, 255, 256], [256, 1, 3, 9, 21, 42, 77, 124, 172, 212, 237, 249, 254, 255, 256], [256, 1, 2, 6, 16, 33, 60, 97, 144, 187, 220, 241, 250, 254, 255, 256], [256, 1, 2, 3, 11, 25, 47, 80, 120, 163, 201, 229, 245, 253, 254, 255, 256], [256, 1, 2, 3, 4, 17, 35, 62, 98, 139, 180, 214, 238, 252, 253, 254, 255, 256]]
theorem t227 : FnS 227 [] [] fun v l' => v = .c (.iss .u64 T227) ∧ l' = [] := by
  refine FnS.runT (b := 0) Proofs.Tryz.f227 rfl rfl rfl rfl rfl rfl ?_
  conv=>whnf
  exact ⟨⟨rfl, rfl, rfl, rfl, rfl, rfl, rfl, rfl, rfl, rfl, rfl, rfl, rfl, rfl, rfl, rfl⟩, [], rfl, trivial, rfl, rfl⟩
def T228 : List (List Int) := [[256, 127, 256], [256, 53, 202, 256], [256, 22, 127, 233, 256], [256, 11, 72, 183, 246, 256], [256, 6, 41, 127, 215, 251, 256], [256, 4, 24, 83, 170, 232, 253, 256], [256, 3, 16, 56, 127, 200, 241, 254, 256], [256, 3, 12, 39, 92, 162, 218, 246, 255, 256], [256, 3, 11, 30, 67, 124, 185, 229, 249, 255, 256], [256, 3, 10, 25, 53, 97, 151, 200, 233, 250, 255, 256], [256, 1, 8, 21, 43, 77, 123, 171, 209, 237, 251, 255, 256], [256, 1, 2, 13, 35, 62, 97, 139, 186, 219, 244, 254, 255, 256], [256, 1, 2, 8, 22, 48, 85, 128, 171, 208, 234, 248, 254, 255, 256], [256, 1, 2, 6, 16, 36, 67, 107, 149, 189, 220, 240, 250, 254, 255, 256], [256, 1, 2, 5, 13, 29, 55, 90, 128, 166, 201, 227, 243, 251, 254, 255, 256], [256, 1, 2, 4, 10, 22, 43, 73, 109, 147, 183, 213, 234, 246, 252, 254, 255, 256]]
theorem t228 : FnS 228 [] [] fun v l' => v = .c (.iss .u64 T228) ∧ l' = [] := by
  refine FnS.runT (b := 0) Proofs.Tryz.f228 rfl rfl rfl rfl rfl rfl ?_
  conv=>whnf
  exact ⟨⟨rfl, rfl, rfl, rfl, rfl, rfl, rfl, rfl, rfl, rfl, rfl, rfl, rfl, rfl, rfl, rfl⟩, [], rfl, trivial, rfl, rfl⟩
def T229 : List (List Int) := [[256, 127, 256], [256, 49, 206, 256], [256, 20, 127, 236, 256], [256, 11, 71, 184, 246, 256], [256, 7, 43, 127, 214, 250, 256], [256, 6, 30, 87, 169, 229, 252, 256], [256, 5, 23, 62, 126, 194, 236, 252, 256], [256, 6, 20, 49, 96, 157, 209, 239, 253, 256], [256, 1, 16, 39, 74, 125, 175, 215, 245, 255, 256], [256, 1, 2, 23, 55, 97, 149, 195, 236, 254, 255, 256], [256, 1, 7, 23, 50, 86, 128, 170, 206, 233, 249, 255, 256], [256, 1, 6, 18, 39, 70, 108, 148, 186, 217, 238, 250, 255, 256], [256, 1, 4, 13, 30, 56, 90, 128, 166, 200, 226, 243, 252, 255, 256], [256, 1, 4, 11, 25, 47, 76, 110, 146, 180, 209, 231, 245, 252, 255, 256], [256, 1, 3, 8, 19, 37, 62, 93, 128, 163, 194, 219, 237, 248, 253, 255, 256], [256, 1, 2, 6, 15, 30, 51, 79, 111, 145, 177, 205, 226, 241, 250, 254, 255, 256]]
theorem t229 : FnS 229 [] [] fun v l' => v = .c (.iss .u64 T229) ∧ l' = [] := by
  refine FnS.runT (b := 0) Proofs.Tryz.f229 rfl rfl rfl rfl rfl rfl ?_
  conv=>whnf
  exact ⟨⟨rfl, rfl, rfl, rfl, rfl, rfl, rfl, rfl, rfl, rfl, rfl, rfl, rfl, rfl, rfl, rfl⟩, [], rfl, trivial, rfl, rfl⟩
def T230 : List (List Int) := [[256, 128, 256], [256, 42, 214, 256], [256, 21, 128, 235, 256], [256, 12, 72, 184, 245, 256], [256, 8, 42, 128, 214, 249, 256], [256, 8, 31, 86, 176, 231, 251, 256], [256, 5, 20, 58, 130, 202, 238, 253, 256], [256, 6, 18, 45, 97, 174, 221, 241, 251, 256], [256, 6, 25, 53, 88, 128, 168, 203, 231, 250, 256], [256, 4, 18, 40, 71, 108, 148, 185, 216, 238, 252, 256], [256, 3, 13, 31, 57, 90, 128, 166, 199, 225, 243, 253, 256], [256, 2, 10, 23, 44, 73, 109, 147, 183, 212, 233, 246, 254, 256], [256, 1, 6, 16, 33, 58, 90, 128, 166, 198, 223, 240, 250, 255, 256], [256, 1, 5, 12, 25, 46, 75, 110, 146, 181, 210, 231, 244, 251, 255, 256], [256, 1, 3, 8, 18, 35, 60, 92, 128, 164, 196, 221, 238, 248, 253, 255, 256], [256, 1, 3, 7, 14, 27, 48, 76, 110, 146, 180, 208, 229, 242, 249, 253, 255, 256]]
theorem t230 : FnS 230 [] [] fun v l' => v = .c (.iss .u64 T230) ∧ l' = [] := by
  refine FnS.runT (b := 0) Proofs.Tryz.f230 rfl rfl rfl rfl rfl rfl ?_
  conv=>whnf
  exact ⟨⟨rfl, rfl, rfl, rfl, rfl, rfl, rfl, rfl, rfl, rfl, rfl, rfl, rfl, rfl, rfl, rfl⟩, [], rfl, trivial, rfl, rfl⟩
end Go.SX
