/- A part of the proof: the SILK decoder of the given program, walked by an executor that is proved sound. No statement of the program is proved in this text. -/
import Derived.Test.YtojdfjohmicopaaGreatDoorL16
set_option linter.all false
set_option maxRecDepth 100000
namespace Go.SX
open Go
theorem f141 (x y : Int) : FnS 141 [.c (.i .i32 x), .c (.i .i32 y)] [] fun v l' => v = .c (.i .i32 (if x > y then x else y)) ∧ l' = [] := by
  refine FnS.run (b := 0) Proofs.Tryz.f141 rfl rfl rfl rfl rfl rfl ?_
  conv=>whnf
  refine ⟨fun h => ?_, fun h => ?_⟩
  · conv=>whnf
    exact ⟨[], rfl, trivial, by rw [if_pos (of_decide_eq_true h)]; rfl, rfl⟩
  · conv=>whnf
    exact ⟨[], rfl, trivial, by rw [if_neg (of_decide_eq_false h)]; rfl, rfl⟩
theorem f166 (x y : Int) : FnS 166 [.c (.i .i16 x), .c (.i .i16 y)] [] fun v l' => v = .c (.i .i16 (if x > y then x else y)) ∧ l' = [] := by
  refine FnS.run (b := 0) Proofs.Tryz.f166 rfl rfl rfl rfl rfl rfl ?_
  conv=>whnf
  refine ⟨fun h => ?_, fun h => ?_⟩
  · conv=>whnf
    exact ⟨[], rfl, trivial, by rw [if_pos (of_decide_eq_true h)]; rfl, rfl⟩
  · conv=>whnf
    exact ⟨[], rfl, trivial, by rw [if_neg (of_decide_eq_false h)]; rfl, rfl⟩
theorem f168 (x y : Int) : FnS 168 [.c (.i .i16 x), .c (.i .i16 y)] [] fun v l' => v = .c (.i .i16 (if x > y then y else x)) ∧ l' = [] := by
  refine FnS.run (b := 0) Proofs.Tryz.f168 rfl rfl rfl rfl rfl rfl ?_
  conv=>whnf
  refine ⟨fun h => ?_, fun h => ?_⟩
  · conv=>whnf
    exact ⟨[], rfl, trivial, by rw [if_pos (of_decide_eq_true h)]; rfl, rfl⟩
  · conv=>whnf
    exact ⟨[], rfl, trivial, by rw [if_neg (of_decide_eq_false h)]; rfl, rfl⟩
theorem f208 (x y : Int) : FnS 208 [.c (.i .u64 x), .c (.i .u64 y)] [] fun v l' => v = .c (.i .u64 (if x > y then y else x)) ∧ l' = [] := by
  refine FnS.run (b := 0) Proofs.Tryz.f208 rfl rfl rfl rfl rfl rfl ?_
  conv=>whnf
  refine ⟨fun h => ?_, fun h => ?_⟩
  · conv=>whnf
    exact ⟨[], rfl, trivial, by rw [if_pos (of_decide_eq_true h)]; rfl, rfl⟩
  · conv=>whnf
    exact ⟨[], rfl, trivial, by rw [if_neg (of_decide_eq_false h)]; rfl, rfl⟩
def clampI (lo x hi : Int) : Int := if x > hi then hi else if x < lo then lo else x
theorem clampI_in {lo x hi : Int} (h : lo ≤ hi) : lo ≤ clampI lo x hi ∧ clampI lo x hi ≤ hi := by unfold clampI; split <;> (try split) <;> omega
theorem f143 (lo x hi : Int) : FnS 143 [.c (.i .i32 lo), .c (.i .i32 x), .c (.i .i32 hi)] [] fun v l' => v = .c (.i .i32 (clampI lo x hi)) ∧ l' = [] := by
  refine FnS.run (b := 0) Proofs.Tryz.f143 rfl rfl rfl rfl rfl rfl ?_
  conv=>whnf
  refine ⟨fun h => ?_, fun h => ?_⟩
  · conv=>whnf
    exact ⟨[], rfl, trivial, by unfold clampI; rw [if_pos (of_decide_eq_true h)]; rfl, rfl⟩
  · conv=>whnf
    refine ⟨fun h2 => ?_, fun h2 => ?_⟩
    · conv=>whnf
      exact ⟨[], rfl, trivial, by unfold clampI; rw [if_neg (of_decide_eq_false h), if_pos (of_decide_eq_true h2)]; rfl, rfl⟩
    · conv=>whnf
      exact ⟨[], rfl, trivial, by unfold clampI; rw [if_neg (of_decide_eq_false h), if_neg (of_decide_eq_false h2)]; rfl, rfl⟩
theorem f167 (x y : Int) : FnS 167 [.c (.i .i16 x), .c (.i .i16 y)] [] fun v l' => v = .c (.i .i16 (IntKind.i16.wrap (clampI (-32768) (IntKind.i32.wrap (IntKind.i32.wrap x + IntKind.i32.wrap y)) 32767))) ∧ l' = [] := by
  refine FnS.run (b := 0) Proofs.Tryz.f167 rfl rfl rfl rfl rfl rfl ?_
  conv=>whnf
  refine CallQ.use [] (f143 _ _ _) rfl rfl trivial ?_
  rintro v l' ⟨rfl, rfl⟩
  conv=>whnf
  exact ⟨[], rfl, trivial, rfl, rfl⟩
def sgn (x : Int) : Int := if x < 0 then -1 else if x = 0 then 0 else 1
theorem f158 (x : Int) : FnS 158 [.c (.i .i64 x)] [] fun v l' => v = .c (.i .i64 (sgn x)) ∧ l' = [] := by
  refine FnS.run (b := 0) Proofs.Tryz.f158 rfl rfl rfl rfl rfl rfl ?_
  conv=>whnf
  refine ⟨fun h => ?_, fun h => ?_⟩
  · conv=>whnf
    exact ⟨[], rfl, trivial, by unfold sgn; rw [if_pos (of_decide_eq_true h)]; rfl, rfl⟩
  · conv=>whnf
    refine ⟨fun h2 => ?_, fun h2 => ?_⟩
    · conv=>whnf
      exact ⟨[], rfl, trivial, by unfold sgn; rw [if_neg (of_decide_eq_false h), if_pos (by simpa using h2)]; rfl, rfl⟩
    · conv=>whnf
      exact ⟨[], rfl, trivial, by unfold sgn; rw [if_neg (of_decide_eq_false h), if_neg (by simpa using h2)]; rfl, rfl⟩
theorem f289 (x : Int) : FnS 289 [.c (.i .i32 x)] [] fun v l' => v = .c (.i .i32 (if x < 0 then IntKind.i32.wrap (0 - x) else x)) ∧ l' = [] := by
  refine FnS.run (b := 0) Proofs.Tryz.f289 rfl rfl rfl rfl rfl rfl ?_
  conv=>whnf
  refine ⟨fun h => ?_, fun h => ?_⟩
  · conv=>whnf
    exact ⟨[], rfl, trivial, by rw [if_pos (of_decide_eq_true h)]; rfl, rfl⟩
  · conv=>whnf
    exact ⟨[], rfl, trivial, by rw [if_neg (of_decide_eq_false h)]; rfl, rfl⟩
theorem f66 (x n : Int) (h : (x = 10000000 ∧ n = 2) ∨ (x = 20000000 ∧ n = 4)) : FnS 66 [.c (.i .i64 x)] [] fun v l' => v = .c (.i .i64 n) ∧ l' = [] := by
  refine FnS.run (b := 0) Proofs.Tryz.f66 rfl rfl rfl rfl rfl rfl ?_
  conv=>whnf
  rcases h with ⟨rfl, rfl⟩ | ⟨rfl, rfl⟩
  · refine ⟨fun h => ?_, fun h => absurd h (by decide)⟩
    conv=>whnf
    exact ⟨[], rfl, trivial, rfl, rfl⟩
  · refine ⟨fun h => absurd h (by decide), fun h => ?_⟩
    conv=>whnf
    refine ⟨fun h => ?_, fun h => absurd h (by decide)⟩
    conv=>whnf
    exact ⟨[], rfl, trivial, rfl, rfl⟩
theorem f287 (x y : Int) : FnS 287 [.c (.i .i32 x), .c (.i .i32 y)] [] fun v l' => v = .c (.i .i32 (IntKind.i32.wrap ((IntKind.i64.wrap (IntKind.i64.wrap x * IntKind.i64.wrap y)).fdiv 4294967296))) ∧ l' = [] := by
  refine FnS.run (b := 0) Proofs.Tryz.f287 rfl rfl rfl rfl rfl rfl ?_
  conv=>whnf
  refine ⟨by decide, ?_⟩
  conv=>whnf
  exact ⟨[], rfl, trivial, rfl, rfl⟩
theorem f65 (x n : Int) (h : (x = 10000000 ∧ n = 1) ∨ (x = 20000000 ∧ n = 1) ∨ (x = 40000000 ∧ n = 2) ∨ (x = 60000000 ∧ n = 3)) : FnS 65 [.c (.i .i64 x)] [] fun v l' => v = .c (.i .i64 n) ∧ l' = [] := by
  refine FnS.run (b := 0) Proofs.Tryz.f65 rfl rfl rfl rfl rfl rfl ?_
  conv=>whnf
  rcases h with ⟨rfl, rfl⟩ | ⟨rfl, rfl⟩ | ⟨rfl, rfl⟩ | ⟨rfl, rfl⟩
  all_goals
    repeat (first
      | exact ⟨[], rfl, trivial, rfl, rfl⟩
      | (refine ⟨fun _=>?_, fun h => absurd h (by decide)⟩; conv=>whnf)
      | (refine ⟨fun h => absurd h (by decide), fun _=>?_⟩; conv=>whnf))
theorem f118 (ns bw n : Int) (h : (ns = 10000000 ∧ bw = 1 ∧ n = 5) ∨ (ns = 10000000 ∧ bw = 2 ∧ n = 8) ∨ (ns = 10000000 ∧ bw = 3 ∧ n = 10) ∨ (ns = 20000000 ∧ bw = 1 ∧ n = 10) ∨ (ns = 20000000 ∧ bw = 2 ∧ n = 15) ∨ (ns = 20000000 ∧ bw = 3 ∧ n = 20)) :
    FnS 118 [.c (.p 0 0), .c (.i .i64 ns), .c (.i .u8 bw)] [none] fun v l' => v = .c (.i .i64 n) ∧ l' = [none] := by
  refine FnS.run (b := 1) Proofs.Tryz.f118 rfl rfl rfl rfl rfl rfl ?_
  conv=>whnf
  rcases h with ⟨rfl, rfl, rfl⟩ | ⟨rfl, rfl, rfl⟩ | ⟨rfl, rfl, rfl⟩ | ⟨rfl, rfl, rfl⟩ | ⟨rfl, rfl, rfl⟩ | ⟨rfl, rfl, rfl⟩
  all_goals
    repeat (first
      | exact ⟨[none], rfl, trivial, rfl, rfl⟩
      | (refine ⟨fun _=>?_, fun h => absurd h (by decide)⟩; conv=>whnf)
      | (refine ⟨fun h => absurd h (by decide), fun _=>?_⟩; conv=>whnf))
def Rg (d : Nat) (xs : List Int) : Prop := ∀ i, i < d → -32768 ≤ xs.getD i 0 ∧ xs.getD i 0 ≤ 32767
def Srt (d : Nat) (xs ys : List Int) : Prop := ys.length = xs.length ∧ (Rg d xs → Rg d ys)
theorem Srt.refl (d : Nat) (xs : List Int) : Srt d xs xs := ⟨rfl, fun h => h⟩
theorem Srt.trans {d : Nat} {xs ys zs : List Int} (h : Srt d xs ys) (h' : Srt d ys zs) : Srt d xs zs := ⟨h'.1.trans h.1, fun hr => h'.2 (h.2 hr)⟩
theorem getD_set {xs : List Int} {i j : Nat} {v : Int} (h : i < xs.length) : (xs.set i v).getD j 0 = if i = j then v else xs.getD j 0 := by
  rw [List.getD_eq_getElem?_getD, List.getD_eq_getElem?_getD]
  split
  · rename_i hij; subst hij; simp [h]
  · rename_i hij; rw [List.getElem?_set_ne hij]
theorem Rg.set {d : Nat} {xs : List Int} (h : Rg d xs) {i : Nat} {v : Int} (hl : d ≤ xs.length) (hi : i < d) (hv : -32768 ≤ v ∧ v ≤ 32767) : Rg d (xs.set i v) := fun k hk => by
  rw [getD_set (by omega)]
  split
  · exact hv
  · exact h k hk
theorem Srt.swap {d : Nat} {xs ys : List Int} (h : Srt d xs ys) {i j : Nat} (hl : d ≤ xs.length) (hi : i < d) (hj : j < d) : Srt d xs ((ys.set i (ys.getD j 0)).set j (ys.getD i 0)) :=
  ⟨by simpa using h.1, fun hr => by
    have h1 := h.2 hr
    have hly : d ≤ ys.length := by rw [h.1]; exact hl
    exact Rg.set (Rg.set h1 hly hi (h1 j hj)) (by simpa using hly) hj (h1 i hi)⟩
theorem f303 (x : Int) : FnS 303 [.c (.i .i16 x)] [] fun v l' => v = .c (.b false) ∧ l' = [] := by
  refine FnS.run (b := 0) Proofs.Tryz.f303 rfl rfl rfl rfl rfl rfl ?_
  conv=>whnf
  exact ⟨[], rfl, trivial, by show V.c (.b (x != x)) = _; simp, rfl⟩
theorem f284 (x y : Int) : FnS 284 [.c (.i .i16 x), .c (.i .i16 y)] [] fun v l' => v = .c (.b (decide (x < y))) ∧ l' = [] := by
  refine FnS.run (b := 0) Proofs.Tryz.f284 rfl rfl rfl rfl rfl rfl ?_
  conv=>whnf
  refine CallQ.use [] (f303 _) rfl rfl trivial ?_
  rintro v l' ⟨rfl, rfl⟩
  conv=>whnf
  repeat (first
      | (refine ⟨fun _=>?_, fun h => absurd h (by decide)⟩; conv=>whnf)
      | (refine ⟨fun h => absurd h (by decide), fun _=>?_⟩; conv=>whnf)
      | (refine ⟨by first | decide | omega | (simp only [List.length_set]; omega), ?_⟩; conv=>whnf))
  exact ⟨[], rfl, trivial, rfl, rfl⟩
theorem f278 (d cap : Nat) (xs : List Int) (a b : Int) (hd : d ≤ 16 ∧ d ≤ xs.length) (hab : 0 ≤ a ∧ a ≤ b ∧ b ≤ d) : Fn0 278 [.c (.sl 0 0 d cap), .c (.i .i64 a), .c (.i .i64 b)] (.ar false .i16 xs) fun v b' => ∃ ys, v = .tu [] ∧ b' = .ar false .i16 ys ∧ Srt d xs ys := by
  have ea : IntKind.i64.wrap (a + 1) = a + 1 := IntWalk.i64_in _ (by omega)
  refine Fn0.run Proofs.Tryz.f278 rfl rfl rfl rfl rfl fun st m => ?_
  conv=>whnf
  refine WpS.loop (ι := Int × List Int) (fun x => ⟨mkE [(0, .c (.sl 0 0 d cap)), (1, .c (.i .i64 a)), (2, .c (.i .i64 b)), (6, .c (.i .i64 x.1))], upd st 0 (.ar false .i16 x.2), m + 1, 49⟩) (fun x => (a + 1 ≤ x.1 ∧ x.1 ≤ b + 1) ∧ Srt d xs x.2) (fun x => (b - x.1).toNat) (IntKind.i64.wrap (a + 1), xs) ⟨by dsimp only; omega, .refl _ _⟩ (Rel.of _ (by repeat constructor) (Only0.eq (by repeat constructor) rfl)) ?_
  rintro ⟨i, ys⟩ ⟨hi, hs⟩
  dsimp only at hi hs ⊢
  have hsl := hs.1
  refine VC_ok ?_
  conv=>whnf
  refine ⟨fun hc => ?_, fun hc => ?_⟩
  · have hc := of_decide_eq_true hc
    have ei : IntKind.i64.wrap (i + 1) = i + 1 := IntWalk.i64_in _ (by omega)
    conv=>whnf
    refine WpS.loop (ι := Int × List Int) (fun x => ⟨mkE [(0, .c (.sl 0 0 d cap)), (1, .c (.i .i64 a)), (2, .c (.i .i64 b)), (6, .c (.i .i64 i)), (7, .c (.i .i64 x.1))], upd st 0 (.ar false .i16 x.2), m + 1, 49⟩) (fun x => (a ≤ x.1 ∧ x.1 ≤ i) ∧ Srt d xs x.2) (fun x => x.1.toNat) (i, ys) ⟨by dsimp only; omega, hs⟩ (Rel.of _ (by repeat constructor) (Only0.eq (by repeat constructor) rfl)) ?_
    clear hs hsl
    rintro ⟨j, ys⟩ ⟨hj, hs⟩
    dsimp only at hj hs ⊢
    have hsl := hs.1
    have ej : IntKind.i64.wrap (j - 1) = j - 1 := IntWalk.i64_in _ (by omega)
    refine VC_ok ?_
    conv=>whnf
    refine .inl ⟨by kernel_rfl, ?_⟩
    conv=>whnf
    generalize hx : decide (j > a) = x
    cases x
    · conv=>whnf
      repeat (first
          | (refine ⟨fun _=>?_, fun h => absurd h (by decide)⟩; conv=>whnf)
          | (refine ⟨fun h => absurd h (by decide), fun _=>?_⟩; conv=>whnf)
          | (refine ⟨by first | decide | omega | (simp only [List.length_set]; omega), ?_⟩; conv=>whnf))
      refine ⟨rfl, ?_⟩
      conv=>whnf
      exact ⟨(IntKind.i64.wrap (i + 1), ys), ⟨by dsimp only; omega, hs⟩, by dsimp only; omega, Rel.of _ (by repeat constructor) (Only0.eq (by repeat constructor) rfl)⟩
    · have hx := of_decide_eq_true hx
      conv=>whnf
      repeat (first
          | (refine ⟨fun _=>?_, fun h => absurd h (by decide)⟩; conv=>whnf)
          | (refine ⟨fun h => absurd h (by decide), fun _=>?_⟩; conv=>whnf)
          | (refine ⟨by first | decide | omega | (simp only [List.length_set]; omega), ?_⟩; conv=>whnf))
      refine CallQ.use [] (f284 _ _) rfl rfl trivial ?_
      rintro v l' ⟨rfl, rfl⟩
      conv=>whnf
      repeat (first
          | (refine ⟨fun _=>?_, fun h => absurd h (by decide)⟩; conv=>whnf)
          | (refine ⟨fun h => absurd h (by decide), fun _=>?_⟩; conv=>whnf)
          | (refine ⟨by first | decide | omega | (simp only [List.length_set]; omega), ?_⟩; conv=>whnf))
      refine ⟨fun _=>?_, fun _=>?_⟩
      · conv=>whnf
        refine .inl ⟨by kernel_rfl, ?_⟩
        conv=>whnf
        repeat (first
            | (refine ⟨fun _=>?_, fun h => absurd h (by decide)⟩; conv=>whnf)
            | (refine ⟨fun h => absurd h (by decide), fun _=>?_⟩; conv=>whnf)
            | (refine ⟨by first | decide | omega | (simp only [List.length_set]; omega), ?_⟩; conv=>whnf))
        exact ⟨(IntKind.i64.wrap (j - 1), ((ys.set (0 + (j).toNat) (ys.getD (0 + (IntKind.i64.wrap (j - 1)).toNat) 0)).set (0 + (IntKind.i64.wrap (j - 1)).toNat) (ys.getD (0 + (j).toNat) 0))), ⟨by dsimp only; omega, hs.swap hd.2 (by omega) (by omega)⟩, by dsimp only; omega, Rel.of _ (by repeat constructor) (Only0.eq (by repeat constructor) rfl)⟩
      · conv=>whnf
        refine ⟨rfl, ?_⟩
        conv=>whnf
        exact ⟨(IntKind.i64.wrap (i + 1), ys), ⟨by dsimp only; omega, hs⟩, by dsimp only; omega, Rel.of _ (by repeat constructor) (Only0.eq (by repeat constructor) rfl)⟩
  · conv=>whnf
    refine ⟨rfl, ?_⟩
    conv=>whnf
    exact ⟨_, rfl, rfl, by repeat constructor, rfl, ys, rfl, rfl, hs⟩
theorem f282 (d cap : Nat) (xs : List Int) (a b : Int) (hd : d ≤ 16 ∧ d ≤ xs.length) (hab : 0 ≤ a ∧ a ≤ b ∧ b ≤ d) : Fn0 282 [.c (.sl 0 0 d cap), .c (.i .i64 a), .c (.i .i64 b)] (.ar false .i16 xs) fun v b' => ∃ ys, v = .tu [] ∧ b' = .ar false .i16 ys ∧ Srt d xs ys := by
  have ea : IntKind.i64.wrap (b - 1) = b - 1 := IntWalk.i64_in _ (by omega)
  refine Fn0.run Proofs.Tryz.f282 rfl rfl rfl rfl rfl fun st m => ?_
  conv=>whnf
  refine WpS.loop (ι := Int × Int × List Int) (fun x => ⟨mkE [(0, .c (.sl 0 0 d cap)), (6, .c (.i .i64 x.1)), (7, .c (.i .i64 x.2.1))], upd st 0 (.ar false .i16 x.2.2), m + 1, 32⟩) (fun x => (a ≤ x.1 ∧ x.1 ≤ b + 1 ∧ -2 ≤ x.2.1 ∧ x.2.1 < b) ∧ Srt d xs x.2.2) (fun x => (x.2.1 - x.1).toNat) (a, IntKind.i64.wrap (b - 1), xs) ⟨by dsimp only; omega, .refl _ _⟩ (Rel.of _ (by repeat constructor) (Only0.eq (by repeat constructor) rfl)) ?_
  rintro ⟨i, j, ys⟩ ⟨hi, hs⟩
  dsimp only at hi hs ⊢
  have hsl := hs.1
  refine VC_ok ?_
  conv=>whnf
  refine ⟨fun hc => ?_, fun hc => ?_⟩
  · have hc := of_decide_eq_true hc
    have ei : IntKind.i64.wrap (i + 1) = i + 1 := IntWalk.i64_in _ (by omega)
    have ej : IntKind.i64.wrap (j - 1) = j - 1 := IntWalk.i64_in _ (by omega)
    conv=>whnf
    refine .inl ⟨by kernel_rfl, ?_⟩
    conv=>whnf
    repeat (first
        | (refine ⟨fun _=>?_, fun h => absurd h (by decide)⟩; conv=>whnf)
        | (refine ⟨fun h => absurd h (by decide), fun _=>?_⟩; conv=>whnf)
        | (refine ⟨by first | decide | omega | (simp only [List.length_set]; omega), ?_⟩; conv=>whnf))
    exact ⟨(IntKind.i64.wrap (i + 1), IntKind.i64.wrap (j - 1), ((ys.set (0 + (i).toNat) (ys.getD (0 + (j).toNat) 0)).set (0 + (j).toNat) (ys.getD (0 + (i).toNat) 0))), ⟨by dsimp only; omega, hs.swap hd.2 (by omega) (by omega)⟩, by dsimp only; omega, Rel.of _ (by repeat constructor) (Only0.eq (by repeat constructor) rfl)⟩
  · conv=>whnf
    refine ⟨rfl, ?_⟩
    conv=>whnf
    exact ⟨_, rfl, rfl, by repeat constructor, rfl, ys, rfl, rfl, hs⟩
theorem f298 (d cap : Nat) (xs : List Int) (lo hi fi : Int) (hd : d ≤ 16 ∧ d ≤ xs.length) (hab : 0 ≤ lo ∧ lo ≤ 16 ∧ 0 ≤ fi ∧ 0 ≤ hi ∧ fi + hi ≤ d) : Fn0 298 [.c (.sl 0 0 d cap), .c (.i .i64 lo), .c (.i .i64 hi), .c (.i .i64 fi)] (.ar false .i16 xs) fun v b' => ∃ ys, v = .tu [] ∧ b' = .ar false .i16 ys ∧ Srt d xs ys := by
  refine Fn0.run Proofs.Tryz.f298 rfl rfl rfl rfl rfl fun st m => ?_
  conv=>whnf
  refine WpS.loop (ι := Int × List Int) (fun x => ⟨mkE [(0, .c (.sl 0 0 d cap)), (2, .c (.i .i64 hi)), (3, .c (.i .i64 fi)), (8, .c (.i .i64 x.1))], upd st 0 (.ar false .i16 x.2), m + 1, 76⟩) (fun x => (0 ≤ x.1 ∧ x.1 ≤ 16) ∧ Srt d xs x.2) (fun x => (hi - x.1).toNat) (lo, xs) ⟨by dsimp only; omega, .refl _ _⟩ (Rel.of _ (by repeat constructor) (Only0.eq (by repeat constructor) rfl)) ?_
  rintro ⟨r, ys⟩ ⟨hr, hs⟩
  dsimp only at hr hs ⊢
  have hsl := hs.1
  have e1 : IntKind.i64.wrap (2 * r) = 2 * r := IntWalk.i64_in _ (by omega)
  refine VC_ok ?_
  conv=>whnf
  rw [e1]
  have e2 : IntKind.i64.wrap (2 * r + 1) = 2 * r + 1 := IntWalk.i64_in _ (by omega)
  generalize IntKind.i64.wrap (2 * r + 1) = ch at e2
  refine ⟨fun hc => ?_, fun hc => ?_⟩
  · conv=>whnf
    refine ⟨rfl, ?_⟩
    conv=>whnf
    exact ⟨_, rfl, rfl, by repeat constructor, rfl, ys, rfl, rfl, hs⟩
  · have hc := of_decide_eq_false hc
    have e3 : IntKind.i64.wrap (ch + 1) = ch + 1 := IntWalk.i64_in _ (by omega)
    have e4 : IntKind.i64.wrap (fi + ch) = fi + ch := IntWalk.i64_in _ (by omega)
    have e5 : IntKind.i64.wrap (fi + r) = fi + r := IntWalk.i64_in _ (by omega)
    have e6 : IntKind.i64.wrap (fi + ch + 1) = fi + ch + 1 := IntWalk.i64_in _ (by omega)
    conv=>whnf
    refine .inl ⟨by kernel_rfl, ?_⟩
    conv=>whnf
    rw [e3]
    generalize hx : decide (ch + 1 < hi) = x
    cases x
    · conv=>whnf
      repeat (first
          | (refine ⟨fun _=>?_, fun h => absurd h (by decide)⟩; conv=>whnf)
          | (refine ⟨fun h => absurd h (by decide), fun _=>?_⟩; conv=>whnf)
          | (refine ⟨by first | decide | omega | (simp only [List.length_set]; omega), ?_⟩; conv=>whnf))
      have e8 : IntKind.i64.wrap (fi + ch) = fi + ch := IntWalk.i64_in _ (by omega)
      refine .inl ⟨by kernel_rfl, ?_⟩
      conv=>whnf
      repeat (first
          | (refine ⟨fun _=>?_, fun h => absurd h (by decide)⟩; conv=>whnf)
          | (refine ⟨fun h => absurd h (by decide), fun _=>?_⟩; conv=>whnf)
          | (refine ⟨by first | decide | omega | (simp only [List.length_set]; omega), ?_⟩; conv=>whnf))
      refine CallQ.use [] (f284 _ _) rfl rfl trivial ?_
      rintro v l' ⟨rfl, rfl⟩
      conv=>whnf
      repeat (first
          | (refine ⟨fun _=>?_, fun h => absurd h (by decide)⟩; conv=>whnf)
          | (refine ⟨fun h => absurd h (by decide), fun _=>?_⟩; conv=>whnf)
          | (refine ⟨by first | decide | omega | (simp only [List.length_set]; omega), ?_⟩; conv=>whnf))
      refine ⟨fun _=>?_, fun _=>?_⟩
      · conv=>whnf
        refine ⟨rfl, ?_⟩
        conv=>whnf
        exact ⟨_, rfl, rfl, by repeat constructor, rfl, ys, rfl, rfl, hs⟩
      · conv=>whnf
        refine .inl ⟨by kernel_rfl, ?_⟩
        conv=>whnf
        repeat (first
            | (refine ⟨fun _=>?_, fun h => absurd h (by decide)⟩; conv=>whnf)
            | (refine ⟨fun h => absurd h (by decide), fun _=>?_⟩; conv=>whnf)
            | (refine ⟨by first | decide | omega | (simp only [List.length_set]; omega), ?_⟩; conv=>whnf))
        exact ⟨(ch, ((ys.set (0 + (IntKind.i64.wrap (fi + r)).toNat) (ys.getD (0 + (IntKind.i64.wrap (fi + ch)).toNat) 0)).set (0 + (IntKind.i64.wrap (fi + ch)).toNat) (ys.getD (0 + (IntKind.i64.wrap (fi + r)).toNat) 0))), ⟨by dsimp only; omega, hs.swap hd.2 (by omega) (by omega)⟩, by dsimp only; omega, Rel.of _ (by repeat constructor) (Only0.eq (by repeat constructor) rfl)⟩
    · have hx := of_decide_eq_true hx
      have e7 : IntKind.i64.wrap (IntKind.i64.wrap (fi + ch) + 1) = fi + ch + 1 := by rw [e4]; exact e6
      conv=>whnf
      repeat (first
          | (refine ⟨fun _=>?_, fun h => absurd h (by decide)⟩; conv=>whnf)
          | (refine ⟨fun h => absurd h (by decide), fun _=>?_⟩; conv=>whnf)
          | (refine ⟨by first | decide | omega | (simp only [List.length_set]; omega), ?_⟩; conv=>whnf))
      refine CallQ.use [] (f284 _ _) rfl rfl trivial ?_
      rintro v l' ⟨rfl, rfl⟩
      conv=>whnf
      repeat (first
          | (refine ⟨fun _=>?_, fun h => absurd h (by decide)⟩; conv=>whnf)
          | (refine ⟨fun h => absurd h (by decide), fun _=>?_⟩; conv=>whnf)
          | (refine ⟨by first | decide | omega | (simp only [List.length_set]; omega), ?_⟩; conv=>whnf))
      refine ⟨fun _=>?_, fun _=>?_⟩
      · conv=>whnf
        rw [e3]
        generalize hc2 : ch + 1 = c2
        have e8 : IntKind.i64.wrap (fi + c2) = fi + c2 := IntWalk.i64_in _ (by omega)
        refine .inl ⟨by kernel_rfl, ?_⟩
        conv=>whnf
        repeat (first
            | (refine ⟨fun _=>?_, fun h => absurd h (by decide)⟩; conv=>whnf)
            | (refine ⟨fun h => absurd h (by decide), fun _=>?_⟩; conv=>whnf)
            | (refine ⟨by first | decide | omega | (simp only [List.length_set]; omega), ?_⟩; conv=>whnf))
        refine CallQ.use [] (f284 _ _) rfl rfl trivial ?_
        rintro v l' ⟨rfl, rfl⟩
        conv=>whnf
        repeat (first
            | (refine ⟨fun _=>?_, fun h => absurd h (by decide)⟩; conv=>whnf)
            | (refine ⟨fun h => absurd h (by decide), fun _=>?_⟩; conv=>whnf)
            | (refine ⟨by first | decide | omega | (simp only [List.length_set]; omega), ?_⟩; conv=>whnf))
        refine ⟨fun _=>?_, fun _=>?_⟩
        · conv=>whnf
          refine ⟨rfl, ?_⟩
          conv=>whnf
          exact ⟨_, rfl, rfl, by repeat constructor, rfl, ys, rfl, rfl, hs⟩
        · conv=>whnf
          refine .inl ⟨by kernel_rfl, ?_⟩
          conv=>whnf
          repeat (first
              | (refine ⟨fun _=>?_, fun h => absurd h (by decide)⟩; conv=>whnf)
              | (refine ⟨fun h => absurd h (by decide), fun _=>?_⟩; conv=>whnf)
              | (refine ⟨by first | decide | omega | (simp only [List.length_set]; omega), ?_⟩; conv=>whnf))
          exact ⟨(c2, ((ys.set (0 + (IntKind.i64.wrap (fi + r)).toNat) (ys.getD (0 + (IntKind.i64.wrap (fi + c2)).toNat) 0)).set (0 + (IntKind.i64.wrap (fi + c2)).toNat) (ys.getD (0 + (IntKind.i64.wrap (fi + r)).toNat) 0))), ⟨by dsimp only; omega, hs.swap hd.2 (by omega) (by omega)⟩, by dsimp only; omega, Rel.of _ (by repeat constructor) (Only0.eq (by repeat constructor) rfl)⟩
      · conv=>whnf
        have e8 : IntKind.i64.wrap (fi + ch) = fi + ch := IntWalk.i64_in _ (by omega)
        refine .inl ⟨by kernel_rfl, ?_⟩
        conv=>whnf
        repeat (first
            | (refine ⟨fun _=>?_, fun h => absurd h (by decide)⟩; conv=>whnf)
            | (refine ⟨fun h => absurd h (by decide), fun _=>?_⟩; conv=>whnf)
            | (refine ⟨by first | decide | omega | (simp only [List.length_set]; omega), ?_⟩; conv=>whnf))
        refine CallQ.use [] (f284 _ _) rfl rfl trivial ?_
        rintro v l' ⟨rfl, rfl⟩
        conv=>whnf
        repeat (first
            | (refine ⟨fun _=>?_, fun h => absurd h (by decide)⟩; conv=>whnf)
            | (refine ⟨fun h => absurd h (by decide), fun _=>?_⟩; conv=>whnf)
            | (refine ⟨by first | decide | omega | (simp only [List.length_set]; omega), ?_⟩; conv=>whnf))
        refine ⟨fun _=>?_, fun _=>?_⟩
        · conv=>whnf
          refine ⟨rfl, ?_⟩
          conv=>whnf
          exact ⟨_, rfl, rfl, by repeat constructor, rfl, ys, rfl, rfl, hs⟩
        · conv=>whnf
          refine .inl ⟨by kernel_rfl, ?_⟩
          conv=>whnf
          repeat (first
              | (refine ⟨fun _=>?_, fun h => absurd h (by decide)⟩; conv=>whnf)
              | (refine ⟨fun h => absurd h (by decide), fun _=>?_⟩; conv=>whnf)
              | (refine ⟨by first | decide | omega | (simp only [List.length_set]; omega), ?_⟩; conv=>whnf))
          exact ⟨(ch, ((ys.set (0 + (IntKind.i64.wrap (fi + r)).toNat) (ys.getD (0 + (IntKind.i64.wrap (fi + ch)).toNat) 0)).set (0 + (IntKind.i64.wrap (fi + ch)).toNat) (ys.getD (0 + (IntKind.i64.wrap (fi + r)).toNat) 0))), ⟨by dsimp only; omega, hs.swap hd.2 (by omega) (by omega)⟩, by dsimp only; omega, Rel.of _ (by repeat constructor) (Only0.eq (by repeat constructor) rfl)⟩
theorem f279 (d cap : Nat) (xs : List Int) (a b : Int) (hd : d ≤ 16 ∧ d ≤ xs.length) (hab : 0 ≤ a ∧ a ≤ b ∧ b ≤ d) : Fn0 279 [.c (.sl 0 0 d cap), .c (.i .i64 a), .c (.i .i64 b)] (.ar false .i16 xs) fun v b' => ∃ ys, v = .tu [] ∧ b' = .ar false .i16 ys ∧ Srt d xs ys := by
  have eh : IntKind.i64.wrap (b - a) = b - a := IntWalk.i64_in _ (by omega)
  refine Fn0.wp Proofs.Tryz.f279 rfl rfl rfl rfl rfl fun st m => ?_
  refine WpN.vc ?_
  conv=>whnf
  rw [eh]
  refine ⟨by decide, ?_⟩
  conv=>whnf
  have eq1 : IntKind.i64.wrap (b - a - 1) = b - a - 1 := IntWalk.i64_in _ (by omega)
  have eq2 : -1 ≤ IntKind.i64.wrap (Int.tdiv (IntKind.i64.wrap (b - a - 1)) 2) ∧ IntKind.i64.wrap (Int.tdiv (IntKind.i64.wrap (b - a - 1)) 2) ≤ 8 := by
    rw [eq1]
    have h1 : (b - a - 1 = -1) ∨ 0 ≤ b - a - 1 := by omega
    rcases h1 with h1 | h1
    · rw [h1]; decide
    · rw [Int.tdiv_eq_ediv_of_nonneg h1, IntWalk.i64_in _ (by omega)]; omega
  refine WpS.loop (ι := Int × List Int) (fun x => ⟨mkE [(0, .c (.sl 0 0 d cap)), (6, .c (.i .i64 a)), (7, .c (.i .i64 0)), (8, .c (.i .i64 (b - a))), (9, .c (.i .i64 x.1))], upd st 0 (.ar false .i16 x.2), m + 1, 56⟩) (fun x => (-1 ≤ x.1 ∧ x.1 ≤ 8) ∧ Srt d xs x.2) (fun x => (x.1 + 1).toNat) (_, xs) ⟨eq2, .refl _ _⟩ (Rel.of _ (by repeat constructor) (Only0.eq (by repeat constructor) rfl)) ?_
  rintro ⟨i, ys⟩ ⟨hi, hs⟩
  dsimp only at hi hs ⊢
  have hsl := hs.1
  refine VC_ok ?_
  conv=>whnf
  refine ⟨fun hc => ?_, fun hc => ?_⟩
  · have hc := of_decide_eq_true hc
    have ei : IntKind.i64.wrap (i - 1) = i - 1 := IntWalk.i64_in _ (by omega)
    conv=>whnf
    refine CallQ.use0 (f298 d cap ys _ _ _ (by omega) (by omega)) (by rfl) ?_
    rintro v b' ⟨zs, rfl, rfl, hs2⟩
    conv=>whnf
    exact ⟨(IntKind.i64.wrap (i - 1), zs), ⟨by dsimp only; omega, hs.trans hs2⟩, by dsimp only; omega, Rel.of _ (by repeat constructor) (Only0.eq (by repeat constructor) rfl)⟩
  · conv=>whnf
    refine ⟨rfl, ?_⟩
    conv=>whnf
    refine WpS.loop (ι := Int × List Int) (fun x => ⟨mkE [(0, .c (.sl 0 0 d cap)), (6, .c (.i .i64 a)), (7, .c (.i .i64 0)), (8, .c (.i .i64 (b - a))), (10, .c (.i .i64 x.1))], upd st 0 (.ar false .i16 x.2), m + 1, 56⟩) (fun x => (-1 ≤ x.1 ∧ x.1 < b - a) ∧ Srt d xs x.2) (fun x => (x.1 + 1).toNat) (IntKind.i64.wrap (b - a - 1), ys) ⟨by dsimp only; omega, hs⟩ (Rel.of _ (by repeat constructor) (Only0.eq (by repeat constructor) rfl)) ?_
    clear hs hsl hi hc i
    rintro ⟨i, ys⟩ ⟨hi, hs⟩
    dsimp only at hi hs ⊢
    have hsl := hs.1
    refine VC_ok ?_
    conv=>whnf
    refine ⟨fun hc => ?_, fun hc => ?_⟩
    · have hc := of_decide_eq_true hc
      have ei : IntKind.i64.wrap (i - 1) = i - 1 := IntWalk.i64_in _ (by omega)
      have ej : IntKind.i64.wrap (a + i) = a + i := IntWalk.i64_in _ (by omega)
      conv=>whnf
      refine .inl ⟨by kernel_rfl, ?_⟩
      conv=>whnf
      repeat (first
          | (refine ⟨fun _=>?_, fun h => absurd h (by decide)⟩; conv=>whnf)
          | (refine ⟨fun h => absurd h (by decide), fun _=>?_⟩; conv=>whnf)
          | (refine ⟨by first | decide | omega | (simp only [List.length_set]; omega), ?_⟩; conv=>whnf))
      have hs3 : Srt d xs ((ys.set (0 + (a).toNat) (ys.getD (0 + (IntKind.i64.wrap (a + i)).toNat) 0)).set (0 + (IntKind.i64.wrap (a + i)).toNat) (ys.getD (0 + (a).toNat) 0)) := hs.swap hd.2 (by omega) (by omega)
      have hs3l := hs3.1
      refine CallQ.use0 (f298 d cap ((ys.set (0 + (a).toNat) (ys.getD (0 + (IntKind.i64.wrap (a + i)).toNat) 0)).set (0 + (IntKind.i64.wrap (a + i)).toNat) (ys.getD (0 + (a).toNat) 0)) _ _ _ (by omega) (by omega)) (by rfl) ?_
      rintro v b' ⟨zs, rfl, rfl, hs2⟩
      conv=>whnf
      exact ⟨(IntKind.i64.wrap (i - 1), zs), ⟨by dsimp only; omega, hs3.trans hs2⟩, by dsimp only; omega, Rel.of _ (by repeat constructor) (Only0.eq (by repeat constructor) rfl)⟩
    · conv=>whnf
      refine ⟨rfl, ?_⟩
      conv=>whnf
      exact ⟨_, rfl, rfl, by repeat constructor, rfl, ys, rfl, rfl, hs⟩
end Go.SX
