/- A part of the proof: the SILK decoder of the given program, walked by an executor that is proved sound. No statement of the program is proved in this text. -/
import Derived.Test.YtojdfjohmicopaaGreatDoorL21
import Derived.Test.YtojdfjohmicopaaGreatDoorL25
set_option linter.all false
set_option maxRecDepth 100000
namespace Go.SX
open Go
def Lit (_ : Nat) : Type := Unit
@[reducible] def Lit.v {n : Nat} (_ : Lit n) : Nat := n
theorem f173 (bw : Int) (hb : bw = 1 ∨ bw = 2 ∨ bw = 3) : FnS 173 [.c (.i .u8 bw)] [] fun v l' => ∃ (T : List Int) (sc mn mx : Int), v = .tu [.c (.is .u64 T), .c (.i .u32 sc), .c (.i .u32 mn), .c (.i .u32 mx)] ∧ l' = [] ∧ icdfOk T = true ∧ (16 ≤ mn ∧ mn ≤ mx ∧ mx ≤ 288) := by
  refine FnS.run (b := 0) Proofs.Tryz.f173 rfl rfl rfl rfl rfl rfl ?_
  conv=>whnf
  rcases hb with rfl | rfl | rfl
  all_goals
    repeat' first|(refine Lt (by decide) ?_;conv=>whnf)|(refine Lf (by decide) ?_;conv=>whnf)|fail
    first | refine CallQ.use [] t211 rfl rfl trivial ?_ | refine CallQ.use [] t212 rfl rfl trivial ?_ | refine CallQ.use [] t213 rfl rfl trivial ?_
    rintro v l' ⟨rfl, rfl⟩
    conv=>whnf
    exact ⟨[], rfl, trivial, _, _, _, _, rfl, rfl, by kernel_rfl, by decide⟩
theorem f175 (bw ns : Int) (n : Nat) (hb : bw = 1 ∨ bw = 2 ∨ bw = 3) (hn : (ns = 10000000 ∧ n = 2) ∨ (ns = 20000000 ∧ n = 4)) : FnS 175 [.c (.i .u8 bw), .c (.i .i64 ns)] [] fun v l' => ∃ (cb : List (List Int)) (T : List Int), v = .tu [.c (.iss .i8 cb), .c (.is .u64 T)] ∧ l' = [] ∧ icdfOk T = true ∧ T.length = cb.length + 1 ∧ ∀ k, k < cb.length → (cb.getD k []).length = n := by
  refine FnS.run (b := 0) Proofs.Tryz.f175 rfl rfl rfl rfl rfl rfl ?_
  conv=>whnf
  rcases hb with rfl | rfl | rfl <;> rcases hn with ⟨rfl, rfl⟩ | ⟨rfl, rfl⟩
  all_goals
    repeat' first|(refine Lt (by decide) ?_;conv=>whnf)|(refine Lf (by decide) ?_;conv=>whnf)|fail
    first | refine CallQ.use [] t216 rfl rfl trivial ?_ | refine CallQ.use [] t218 rfl rfl trivial ?_ | refine CallQ.use [] t220 rfl rfl trivial ?_ | refine CallQ.use [] t222 rfl rfl trivial ?_
    rintro v l' ⟨rfl, rfl⟩
    conv=>whnf
    first | refine CallQ.use [] t217 rfl rfl trivial ?_ | refine CallQ.use [] t219 rfl rfl trivial ?_ | refine CallQ.use [] t221 rfl rfl trivial ?_ | refine CallQ.use [] t223 rfl rfl trivial ?_
    rintro v l' ⟨rfl, rfl⟩
    conv=>whnf
    exact ⟨[], rfl, trivial, _, _, rfl, rfl, by kernel_rfl, by decide +kernel, by decide +kernel⟩
theorem f174 (sd : Bool) (a : Nat) (q : Nat × Nat) (D : Dec) (Z : Nat → Buf) (ab : Bool) (T : List Int) (sc mn : Int) (hD : D.Ok) (hT : icdfOk T = true) :
    Fn0 174 [.c (.p 0 0), .c (.b ab), .c (.is .u64 T), .c (.i .u32 sc), .c (.i .u32 mn)] (.st (cells sd [] a q D Z)) fun v b' => ∃ (D' : Dec) (k : Int), D'.Ok ∧ v = .c (.i .i64 k) ∧ b' = .st (cells sd [] a q D' Z) := by
  refine Fn0.run Proofs.Tryz.f174 rfl rfl rfl rfl rfl fun st m => ?_
  conv=>whnf
  cases ab
  · refine ⟨fun h => absurd h (by decide), fun _=>?_⟩
    conv=>whnf
    refine .inl ⟨by kernel_rfl, ?_⟩
    conv=>whnf
    refine CallQ.use [] t215 rfl rfl trivial ?_
    rintro v l' ⟨rfl, rfl⟩
    conv=>whnf
    refine CallQ.use0 (f56 _ _ _ _ _ _ 256 _ _ hD.rc (by kernel_rfl)) (by rfl) ?_
    rintro v b' ⟨k, b, n, s, h, rfl, hk, hr, rfl⟩
    conv=>whnf
    refine ⟨fun _=>?_, fun _=>?_⟩
    · conv=>whnf
      refine .inl ⟨by kernel_rfl, ?_⟩
      conv=>whnf
      refine CallQ.use [] t214 rfl rfl trivial ?_
      rintro v l' ⟨rfl, rfl⟩
      conv=>whnf
      refine CallQ.use0 (f56 _ _ _ _ _ _ 256 _ _ hr (by kernel_rfl)) (by rfl) ?_
      rintro v b' ⟨k, b, n, s, h, rfl, hk, hr, rfl⟩
      conv=>whnf
      refine CallQ.use0 (f56r _ _ _ _ _ _ T _ hr hT) (by rfl) ?_
      rintro v b' ⟨k, b, n, s, h, rfl, hk, hr, rfl⟩
      conv=>whnf
      exact ⟨_, rfl, rfl, by repeat constructor, rfl, { D with b := b, n := n, s := s, h := h }, _, ⟨hr, hD.gain⟩, rfl, rfl⟩
    · conv=>whnf
      exact ⟨_, rfl, rfl, by repeat constructor, rfl, { D with b := b, n := n, s := s, h := h }, _, ⟨hr, hD.gain⟩, rfl, rfl⟩
  · refine ⟨fun _=>?_, fun h => absurd h (by decide)⟩
    conv=>whnf
    refine .inl ⟨by kernel_rfl, ?_⟩
    conv=>whnf
    refine CallQ.use [] t214 rfl rfl trivial ?_
    rintro v l' ⟨rfl, rfl⟩
    conv=>whnf
    refine CallQ.use0 (f56 _ _ _ _ _ _ 256 _ _ hD.rc (by kernel_rfl)) (by rfl) ?_
    rintro v b' ⟨k, b, n, s, h, rfl, hk, hr, rfl⟩
    conv=>whnf
    refine CallQ.use0 (f56r _ _ _ _ _ _ T _ hr hT) (by rfl) ?_
    rintro v b' ⟨k, b, n, s, h, rfl, hk, hr, rfl⟩
    conv=>whnf
    exact ⟨_, rfl, rfl, by repeat constructor, rfl, { D with b := b, n := n, s := s, h := h }, _, ⟨hr, hD.gain⟩, rfl, rfl⟩
def Lg (n : Nat) (xs : List Int) : Prop := ∀ i, i < n → 16 ≤ xs.getD i 0 ∧ xs.getD i 0 ≤ 288
theorem Lg.set {n j : Nat} {xs : List Int} (h : Lg j xs) (hj : j < xs.length) {v : Int} (hv : 16 ≤ v ∧ v ≤ 288) : Lg (j + 1) (xs.set j v) := fun i hi => by
  rw [getD_set hj]
  split
  · exact hv
  · exact h i (by omega)
theorem f114u (sd : Bool) (a : Nat) (q : Nat × Nat) (D : Dec) (Z : Nat → Buf) (kind bw ns : Int) (first : Bool) (hk : kind ≠ 9) :
    FnS 114 [.c (.p 0 0), .c (.i .u8 kind), .c (.i .u8 bw), .c (.i .i64 ns), .c (.b first)] (lay [(0, .st (cells sd [] a q D Z))] 38) fun v l' => v = .tu [.c (.i .u32 0), .c .nsl] ∧ l' = lay [(0, .st (cells sd [] a q D Z))] 38 := by
  refine FnS.wpR (b := 38) Proofs.Tryz.f114 rfl rfl rfl rfl rfl rfl ?_
  refine WpN.vc ?_
  conv=>whnf
  refine ⟨fun _=>?_, fun h => absurd h (by simpa using hk)⟩
  conv=>whnf
  exact ⟨[], .tu [.c (.i .u32 0), .c .nsl], lay [(0, .st (cells sd [] a q D Z))] 38, rfl, by cases sd <;> kernel_rfl, stEq_lay (by cases sd <;> repeat constructor) 38 0, rfl, rfl⟩
theorem f114 (sd : Bool) (a : Nat) (q : Nat × Nat) (D : Dec) (Z : Nat → Buf) (bw ns : Int) (first : Bool) (n : Nat) (hD : D.Ok) (hb : bw = 1 ∨ bw = 2 ∨ bw = 3) (hn : (ns = 10000000 ∧ n = 2) ∨ (ns = 20000000 ∧ n = 4)) :
    FnS 114 [.c (.p 0 0), .c (.i .u8 9), .c (.i .u8 bw), .c (.i .i64 ns), .c (.b first)] (lay [(0, .st (cells sd [] a q D Z)), (25, .ar false .i64 (Z 25).xs)] 38) fun v l' => ∃ (D' : Dec) (B1 : Buf) (mx : Int), D'.Ok ∧ v = .tu [.c (.i .u32 mx), .c (.sl 38 0 n B1.cap)] ∧ n ≤ B1.cap ∧ Lg n B1.xs ∧ l' = lay [(0, .st (cells sd [(25, 38)] a q D' (setZ Z 25 B1))), (38, .ar false .i64 B1.xs)] 39 := by
  refine FnS.wpR (b := 38) Proofs.Tryz.f114 rfl rfl rfl rfl rfl rfl ?_
  refine WpN.seq (WpN.vc ?_)
  conv=>whnf
  refine WpN.seq (WpN.vc ?_)
  conv=>whnf
  refine ⟨fun h => absurd h (by decide), fun _=>?_⟩
  conv=>whnf
  refine WpN.cut (ι := Bool) (fun ab => [(0, .c (.p 0 0)), (2, .c (.i .u8 bw)), (3, .c (.i .i64 ns)), (12, .c (.b ab))]) (fun _=>lay [(0, .st (cells sd [] a q D Z)), (25, .ar false .i64 (Z 25).xs)] 38) (fun _=>True) (WpN.vc ?_) ?_
  · conv=>whnf
    cases first
    · conv=>whnf
      repeat' first|(refine Lt (by decide) ?_;conv=>whnf)|(refine Lf (by decide) ?_;conv=>whnf)|fail
      exact ⟨_, trivial, Rel.layD (by repeat constructor) rfl ⟨rfl, trivial⟩ (by cases sd <;> kernel_rfl)⟩
    · conv=>whnf
      repeat' first|(refine Lt (by decide) ?_;conv=>whnf)|(refine Lf (by decide) ?_;conv=>whnf)|fail
      exact ⟨_, trivial, Rel.layD (by repeat constructor) rfl ⟨rfl, trivial⟩ (by cases sd <;> kernel_rfl)⟩
  intro ab _
  refine WpN.seq (WpN.vc ?_)
  conv=>whnf
  refine CallQ.use [] (f173 bw hb) rfl rfl trivial ?_
  rintro v l' ⟨T, sc, mn, mx, rfl, rfl, hT, hm⟩
  conv=>whnf
  refine WpN.seq (WpN.vc ?_)
  conv=>whnf
  refine CallQ.use0 (f174 sd a q D Z ab T sc mn hD hT) (by rfl) ?_
  rintro v b' ⟨D1, lg, hD1, rfl, rfl⟩
  conv=>whnf
  refine WpN.cut (ι := Dec) (fun _=>[(0, .c (.p 0 0)), (2, .c (.i .u8 bw)), (3, .c (.i .i64 ns)), (10, .c (.i .u32 mx)), (15, .c (.i .u32 mn)), (16, .c (.i .i64 lg))]) (fun D2 => lay [(0, .st (cells sd [] a q D2 Z)), (25, .ar false .i64 (Z 25).xs)] 38) (fun D2 => D2.Ok) (WpN.vc ?_) ?_
  · conv=>whnf
    exact ⟨{ D1 with lag := lg }, ⟨hD1.rc, hD1.gain⟩, Rel.layD (by repeat constructor) rfl ⟨rfl, trivial⟩ (by cases sd <;> kernel_rfl)⟩
  clear hD1 hD D1
  intro D1 hD1
  refine WpN.seq (WpN.vc ?_)
  conv=>whnf
  refine CallQ.use [] (f175 bw ns n hb hn) rfl rfl trivial ?_
  rintro v l' ⟨cb, T2, rfl, rfl, hT2, hTl, hcb⟩
  conv=>whnf
  refine WpN.seq (WpN.vc ?_)
  conv=>whnf
  refine CallQ.use0 (f56r _ _ _ _ _ _ T2 _ hD1.rc hT2) (by rfl) ?_
  rintro v b' ⟨k, b, nn, s, h, rfl, hk, hr, rfl⟩
  conv=>whnf
  have hok : Dec.Ok { D1 with b := b, n := nn, s := s, h := h } := ⟨hr, hD1.gain⟩
  refine WpN.seq (WpN.vc ?_)
  conv=>whnf
  refine .inl ⟨by kernel_rfl, ?_⟩
  conv=>whnf
  refine CallQ.use [] (f66 ns n (by omega)) rfl rfl trivial ?_
  rintro v l' ⟨rfl, rfl⟩
  conv=>whnf
  refine rz176 (m := 37) (j := 25) (n := (n : Int)) _ rfl rfl (fun c => rfl) (by decide) rfl (Z 25).ok (by decide) (by omega) fun B1 hB1 _ => ?_
  rw [Int.toNat_natCast] at hB1 ⊢
  have hb1 := B1.ok
  conv=>whnf
  refine WpN.vc ?_
  conv=>whnf
  refine WpS.loop (ι := Nat × List Int) (fun x => mkSt [(10, .c (.i .u32 mx)), (11, .c (.sl 38 0 n B1.cap)), (15, .c (.i .u32 mn)), (16, .c (.i .i64 lg)), (17, .c (.iss .i8 cb)), (19, .c (.i .u32 k)), (66, .c (.i .i64 n)), (67, .c (.i .i64 x.1))] (lay [(0, .st (cells sd [(25, 38)] a q { D1 with b := b, n := nn, s := s, h := h } (setZ Z 25 B1))), (38, .ar false .i64 x.2)] 39) 93) (fun x => x.1 ≤ n ∧ x.2.length = B1.xs.length ∧ Lg x.1 x.2) (fun x => n - x.1) (0, B1.xs) ⟨Nat.zero_le _, rfl, fun i hi => absurd hi (Nat.not_lt_zero _)⟩ (Rel.layD (by repeat constructor) rfl ⟨rfl, trivial⟩ (by cases sd <;> kernel_rfl)) ?_
  rintro ⟨j, xs⟩ ⟨hj, hl, hg⟩
  dsimp only at hj hl hg ⊢
  have ej := i64_nat j (by omega)
  refine VC_ok ?_
  conv=>whnf
  refine ⟨fun hc => ?_, fun hc => ?_⟩
  · replace hc := of_decide_eq_true hc
    have hcl := hcb k (by omega)
    have e9 : 0 + Int.toNat (j : Int) = j := by simp
    conv=>whnf
    refine ⟨by omega, ?_⟩
    conv=>whnf
    refine ⟨by rw [Int.toNat_natCast, hcl]; omega, ?_⟩
    conv=>whnf
    refine CallQ.use [] (f143 _ _ _) rfl rfl trivial ?_
    rintro v l' ⟨rfl, rfl⟩
    rw [IntWalk.i32_in mn (by omega), IntWalk.i32_in mx (by omega)]
    generalize hx : IntKind.i32.wrap (IntKind.i64.wrap (lg + _)) = x
    have hcp := clampI_in (lo := mn) (x := x) (hi := mx) hm.2.1
    generalize clampI mn x mx = y at hcp
    conv=>whnf
    rw [IntWalk.i64_in y (by omega)]
    repeat first|(refine Lt (by decide) ?_;conv=>whnf)|(refine Lf (by decide) ?_;conv=>whnf)|(refine And.intro (by first|decide|omega|(simp only [List.length_set];omega)) ?_;conv=>whnf)|(refine .inl ⟨by kernel_rfl,?_⟩;conv=>whnf)
    rw [ej, e9]
    exact ⟨(j + 1, xs.set j y), ⟨by dsimp only; omega, by simpa using hl, hg.set (n := n) (by omega) (by omega)⟩, by dsimp only; omega, Rel.layD (by repeat constructor) rfl ⟨rfl, trivial⟩ (by cases sd <;> kernel_rfl)⟩
  · conv=>whnf
    refine ⟨rfl, ?_⟩
    conv=>whnf
    have hjn : j = n := by have := of_decide_eq_false hc; omega
    subst hjn
    exact ⟨[], .tu [.c (.i .u32 mx), .c (.sl 38 0 j B1.cap)], lay [(0, .st (cells sd [(25, 38)] a q { D1 with b := b, n := nn, s := s, h := h } (setZ Z 25 ⟨B1.cap, xs, B1.ys, by omega, B1.okb⟩))), (38, .ar false .i64 xs)] 39, rfl, by cases sd <;> kernel_rfl, stEq_lay (by cases sd <;> repeat constructor) 39 0, _, ⟨B1.cap, xs, B1.ys, by omega, B1.okb⟩, mx, hok, rfl, hB1, hg, rfl⟩
theorem f115u (sd : Bool) (a : Nat) (q : Nat × Nat) (D : Dec) (Z : Nat → Buf) (kind n : Int) (hk : kind ≠ 9) :
    FnS 115 [.c (.p 0 0), .c (.i .u8 kind), .c (.i .i64 n)] (lay [(0, .st (cells sd [] a q D Z))] 38) fun v l' => v = .c .nsl ∧ l' = lay [(0, .st (cells sd [] a q D Z))] 38 := by
  refine FnS.wpR (b := 38) Proofs.Tryz.f115 rfl rfl rfl rfl rfl rfl ?_
  refine WpN.vc ?_
  conv=>whnf
  refine ⟨fun _=>?_, fun h => absurd h (by simpa using hk)⟩
  conv=>whnf
  exact ⟨[], .c .nsl, lay [(0, .st (cells sd [] a q D Z))] 38, rfl, by cases sd <;> kernel_rfl, stEq_lay (by cases sd <;> repeat constructor) 38 0, rfl, rfl⟩
@[reducible] def bqT (dn cap : Nat) : List C := [.sl dn 0 5 (cap - 0), .sl dn 5 5 (cap - 5), .sl dn 10 5 (cap - 10), .sl dn 15 5 (cap - 15)]
@[reducible] def bq (j cc dn cap : Nat) : List C := (bqT dn cap).take j ++ List.replicate (cc - j) .any
theorem T182_ok : T179.length = T182.length + 1 ∧ ∀ k, k < T182.length → (T182.getD k []).length = 5 := by decide +kernel
theorem T183_ok : T180.length = T183.length + 1 ∧ ∀ k, k < T183.length → (T183.getD k []).length = 5 := by decide +kernel
theorem T184_ok : T181.length = T184.length + 1 ∧ ∀ k, k < T184.length → (T184.getD k []).length = 5 := by decide +kernel
theorem T178_len : T178.length = 4 := by decide +kernel
@[reducible] def K115 (sd : Bool) (a n cc : Nat) (Z : Nat → Buf) (v : V) (l' : List (Option B)) : Prop := ∃ (D' : Dec) (B1 : Buf), D'.Ok ∧ v = .c (.sl 38 0 n cc) ∧ 5 * n ≤ B1.cap ∧ l' = lay [(0, .st (cells sd [(26, 38), (27, 39)] a (cc, cc) D' (setZ Z 27 B1))), (38, .st (bq n cc 39 B1.cap)), (39, .ar false .i8 B1.xs)] 40
set_option maxHeartbeats 8000000 in
theorem f115x (sd : Bool) (a c n cc : Nat) (vc : Lit c) (vn : Lit n) (vq : Lit cc) (D : Dec) (Z : Nat → Buf) (hh : (c = 0 ∧ n = 2 ∧ cc = 2) ∨ (c = 0 ∧ n = 4 ∧ cc = 4) ∨ (c = 2 ∧ n = 2 ∧ cc = 2) ∨ (c = 2 ∧ n = 4 ∧ cc = 4) ∨ (c = 4 ∧ n = 2 ∧ cc = 4) ∨ (c = 4 ∧ n = 4 ∧ cc = 4)) (hD : D.Ok) :
    FnS 115 [.c (.p 0 0), .c (.i .u8 9), .c (.i .i64 n)] (lay [(0, .st (cells sd [] a (c, c) D Z)), (26, .un c), (27, .ar false .i8 (Z 27).xs)] 38) (K115 sd a n cc Z) := by
  refine FnS.wpR (b := 38) Proofs.Tryz.f115 rfl rfl rfl rfl rfl rfl ?_
  rcases hh with ⟨rfl, rfl, rfl⟩ | ⟨rfl, rfl, rfl⟩ | ⟨rfl, rfl, rfl⟩ | ⟨rfl, rfl, rfl⟩ | ⟨rfl, rfl, rfl⟩ | ⟨rfl, rfl, rfl⟩
  all_goals
    refine WpN.weaken (s := ⟨envL [.c (.p 0 0), .c (.i .u8 9), .c (.i .i64 vn.v)], mkS (lay [(0, .st (cells sd [] a (vc.v, vc.v) D Z)), (26, .st (List.replicate vc.v .any)), (27, .ar false .i8 (Z 27).xs)] 38), 38, 90⟩) (Rel.trans (Rel.unforget (nm := 26) (k := vc.v) rfl) (Rel.sameL (stEq_lay (by cases sd <;> repeat constructor) 38 0))) rfl ?_
    dsimp only [Lit.v]
    refine WpN.seq (WpN.vc ?_)
    conv=>whnf
    refine WpN.seq (WpN.vc ?_)
    conv=>whnf
    refine ⟨fun h => absurd h (by decide), fun _=>?_⟩
    conv=>whnf
    refine WpN.cut (ι := Unit) (fun _=>[(0, .c (.p 0 0)), (2, .c (.i .i64 vn.v)), (6, .c (.sl 38 0 vn.v vq.v))]) (fun _=>lay [(0, .st (cells sd [(26, 38)] a (vq.v, vq.v) D Z)), (38, .st (bq 0 vq.v 39 0)), (27, .ar false .i8 (Z 27).xs)] 39) (fun _=>True) (WpN.vc ?_) ?_
    · conv=>whnf
      refine CallQ.inline Proofs.Tryz.f177 rfl rfl rfl rfl rfl ?_
      conv=>whnf
      repeat' first|(refine Lt (by decide) ?_;conv=>whnf)|(refine Lf (by decide) ?_;conv=>whnf)|fail
      repeat (refine ⟨(by decide), ?_⟩; conv=>whnf)
      first
      | exact ⟨(), trivial, Rel.trans (Rel.forget (nm := 38) (k := vq.v) rfl rfl) (Rel.trans (Rel.unforget (nm := 38) (k := vq.v) rfl) (Rel.layD (by repeat constructor) rfl ⟨rfl, rfl, trivial⟩ (by cases sd <;> kernel_rfl)))⟩
      | exact ⟨(), trivial, Rel.lay [(38, 26)] (by cases sd <;> kernel_rfl) (by repeat constructor) (by cases sd <;> repeat constructor)⟩
    intro _ _
    dsimp only [Lit.v]
    refine WpN.seq (WpN.vc ?_)
    conv=>whnf
    have hw : IntKind.i64.wrap (((vn.v : Nat) : Int) * 5) = ((5 * vn.v : Nat) : Int) := by dsimp only [Lit.v]; decide
    dsimp only [Lit.v] at hw
    rw [hw]
    refine rz150 (m := 38) (j := 27) _ rfl rfl (fun c => rfl) (by decide) rfl (Z 27).ok (by decide) (by decide) fun B1 hB1 _ => ?_
    rw [Int.toNat_natCast] at hB1 ⊢
    have hb1 := B1.ok
    conv=>whnf
    refine WpN.cut (ι := Unit) (fun _=>[(0, .c (.p 0 0)), (2, .c (.i .i64 vn.v)), (6, .c (.sl 38 0 vn.v vq.v)), (7, .c (.sl 39 0 (5 * vn.v) B1.cap))]) (fun _=>lay [(0, .st (cells sd [(26, 38), (27, 39)] a (vq.v, vq.v) D (setZ Z 27 B1))), (38, .st (bq vn.v vq.v 39 B1.cap)), (39, .ar false .i8 B1.xs)] 40) (fun _=>True) (WpN.vc ?_) ?_
    · conv=>whnf
      refine WpS.loop (ι := Nat) (fun x => mkSt [(0, .c (.p 0 0)), (2, .c (.i .i64 vn.v)), (6, .c (.sl 38 0 vn.v vq.v)), (7, .c (.sl 39 0 (5 * vn.v) B1.cap)), (30, .c (.i .i64 vn.v)), (31, .c (.i .i64 x))] (lay [(0, .st (cells sd [(26, 38), (27, 39)] a (vq.v, vq.v) D (setZ Z 27 B1))), (38, .st (bq x vq.v 39 B1.cap)), (39, .ar false .i8 B1.xs)] 40) 90) (fun x => x ≤ vn.v) (fun x => vn.v - x) 0 (Nat.zero_le _) (Rel.layD (by repeat constructor) rfl ⟨rfl, rfl, trivial⟩ (by cases sd <;> kernel_rfl)) ?_
      rintro x hx
      dsimp only [Lit.v] at hx ⊢
      have h4 : x = 0 ∨ x = 1 ∨ x = 2 ∨ x = 3 ∨ x = 4 := by omega
      rcases h4 with rfl | rfl | rfl | rfl | rfl
      all_goals first
        | exact absurd hx (by decide)
        | (refine VC_ok ?_
           conv=>whnf
           refine ⟨fun h => absurd h (by decide), fun _=>?_⟩
           conv=>whnf
           refine ⟨rfl, ?_⟩
           conv=>whnf
           exact ⟨(), trivial, Rel.layD (by repeat constructor) rfl ⟨rfl, rfl, trivial⟩ (by cases sd <;> kernel_rfl)⟩)
        | skip
      all_goals
        have w1_0 : IntKind.i64.wrap (((0 : Nat) : Int) * 5) = 0 := by decide
        have w2_0 : IntKind.i64.wrap (IntKind.i64.wrap (((0 : Nat) : Int) * 5) + 5) = 5 := by decide
        have w1_1 : IntKind.i64.wrap (((1 : Nat) : Int) * 5) = 5 := by decide
        have w2_1 : IntKind.i64.wrap (IntKind.i64.wrap (((1 : Nat) : Int) * 5) + 5) = 10 := by decide
        have w1_2 : IntKind.i64.wrap (((2 : Nat) : Int) * 5) = 10 := by decide
        have w2_2 : IntKind.i64.wrap (IntKind.i64.wrap (((2 : Nat) : Int) * 5) + 5) = 15 := by decide
        have w1_3 : IntKind.i64.wrap (((3 : Nat) : Int) * 5) = 15 := by decide
        have w2_3 : IntKind.i64.wrap (IntKind.i64.wrap (((3 : Nat) : Int) * 5) + 5) = 20 := by decide
        refine VC_ok ?_
        conv=>whnf
        refine ⟨fun _=>?_, fun h => absurd h (by decide)⟩
        conv=>whnf
        repeat (refine And.intro (by first | decide | omega) ?_; conv=>whnf)
        first
          | exact ⟨1, (by decide), (by decide), Rel.layD (by repeat constructor) rfl ⟨rfl, rfl, trivial⟩ (by cases sd <;> kernel_rfl)⟩
          | exact ⟨2, (by decide), (by decide), Rel.layD (by repeat constructor) rfl ⟨rfl, rfl, trivial⟩ (by cases sd <;> kernel_rfl)⟩
          | exact ⟨3, (by decide), (by decide), Rel.layD (by repeat constructor) rfl ⟨rfl, rfl, trivial⟩ (by cases sd <;> kernel_rfl)⟩
          | exact ⟨4, (by decide), (by decide), Rel.layD (by repeat constructor) rfl ⟨rfl, rfl, trivial⟩ (by cases sd <;> kernel_rfl)⟩
    intro _ _
    dsimp only [Lit.v]
    refine WpN.seq (WpN.vc ?_)
    conv=>whnf
    refine .inl ⟨by kernel_rfl, ?_⟩
    conv=>whnf
    refine CallQ.use [] t178 rfl rfl trivial ?_
    rintro v l' ⟨rfl, rfl⟩
    conv=>whnf
    refine CallQ.use0 (f56 _ _ _ _ _ _ 256 _ _ hD.rc (by kernel_rfl)) (by rfl) ?_
    rintro v b' ⟨k0, b, nn, s', h, rfl, hk0, hr, rfl⟩
    replace hk0 : k0 < 3 := hk0
    conv=>whnf
    refine WpN.vc ?_
    conv=>whnf
    refine WpS.loop (ι := Nat × Dec × List Int) (fun x => mkSt [(0, .c (.p 0 0)), (2, .c (.i .i64 vn.v)), (6, .c (.sl 38 0 vn.v vq.v)), (10, .c (.i .u32 k0)), (50, .c (.i .i64 vn.v)), (51, .c (.i .i64 x.1))] (lay [(0, .st (cells sd [(26, 38), (27, 39)] a (vq.v, vq.v) x.2.1 (setZ Z 27 B1))), (38, .st (bq vn.v vq.v 39 B1.cap)), (39, .ar false .i8 x.2.2)] 40) 90) (fun x => x.1 ≤ vn.v ∧ x.2.1.Ok ∧ x.2.2.length = B1.xs.length) (fun x => vn.v - x.1) (0, { D with b := b, n := nn, s := s', h := h }, B1.xs) ⟨Nat.zero_le _, ⟨hr, hD.gain⟩, rfl⟩ (Rel.layD (by repeat constructor) rfl ⟨rfl, rfl, trivial⟩ (by cases sd <;> kernel_rfl)) ?_
    clear hr hD
    rintro ⟨x, D2, zs⟩ ⟨hx, hD2, hzl⟩
    dsimp only [Lit.v] at hx hD2 hzl ⊢
    have h4 : x = 0 ∨ x = 1 ∨ x = 2 ∨ x = 3 ∨ x = 4 := by omega
    have hk : k0 = 0 ∨ k0 = 1 ∨ k0 = 2 := by omega
    clear hk0
    rcases h4 with rfl | rfl | rfl | rfl | rfl
    all_goals first
      | exact absurd hx (by decide)
      | (refine VC_ok ?_
         conv=>whnf
         refine ⟨fun h => absurd h (by decide), fun _=>?_⟩
         conv=>whnf
         refine ⟨rfl, ?_⟩
         conv=>whnf
         exact ⟨[], .c (.sl 38 0 vn.v vq.v), lay [(0, .st (cells sd [(26, 38), (27, 39)] a (vq.v, vq.v) D2 (setZ Z 27 ⟨B1.cap, zs, B1.ys, by omega, B1.okb⟩))), (38, .st (bq vn.v vq.v 39 B1.cap)), (39, .ar false .i8 zs)] 40, rfl, by cases sd <;> kernel_rfl, stEq_lay (by cases sd <;> repeat constructor) 40 0, D2, ⟨B1.cap, zs, B1.ys, by omega, B1.okb⟩, hD2, rfl, hB1, rfl⟩)
      | skip
    all_goals rcases hk with rfl | rfl | rfl
    all_goals
      refine VC_ok ?_
      conv=>whnf
      refine ⟨fun _=>?_, fun h => absurd h (by decide)⟩
      conv=>whnf
      repeat' first|(refine Lt (by decide) ?_;conv=>whnf)|(refine Lf (by decide) ?_;conv=>whnf)|fail
      first
      | refine CallQ.use [] t179 rfl rfl trivial ?_
      | refine CallQ.use [] t180 rfl rfl trivial ?_
      | refine CallQ.use [] t181 rfl rfl trivial ?_
      rintro v l' ⟨rfl, rfl⟩
      conv=>whnf
      refine CallQ.use0 (f56 _ _ _ _ _ _ 256 _ _ hD2.rc (by kernel_rfl)) (by rfl) ?_
      rintro v b' ⟨t, b, nn, s', h, rfl, ht, hr, rfl⟩
      conv=>whnf
      repeat' first|(refine Lt (by decide) ?_;conv=>whnf)|(refine Lf (by decide) ?_;conv=>whnf)|fail
      have hrow : True ∧ True := ⟨trivial, trivial⟩
      first
      | (refine CallQ.use [] t182 rfl rfl trivial ?_
         have htl : t < T182.length := by have h1 := T182_ok.1; have h2 : t + 1 < T179.length := Nat.succ_lt_succ ht; omega
         replace hrow := T182_ok.2 t htl)
      | (refine CallQ.use [] t183 rfl rfl trivial ?_
         have htl : t < T183.length := by have h1 := T183_ok.1; have h2 : t + 1 < T180.length := Nat.succ_lt_succ ht; omega
         replace hrow := T183_ok.2 t htl)
      | (refine CallQ.use [] t184 rfl rfl trivial ?_
         have htl : t < T184.length := by have h1 := T184_ok.1; have h2 : t + 1 < T181.length := Nat.succ_lt_succ ht; omega
         replace hrow := T184_ok.2 t htl)
      rintro v l' ⟨rfl, rfl⟩
      conv=>whnf
      refine .inl ⟨by kernel_rfl, ?_⟩
      conv=>whnf
      repeat (refine And.intro (by first | decide | omega | (refine ⟨trivial, ?_⟩; rw [Int.toNat_natCast, hrow]; show _ ≤ zs.length; omega)) ?_; conv=>whnf)
      first
      | exact ⟨(1, { D2 with b := b, n := nn, s := s', h := h }, _), ⟨by dsimp only [Lit.v]; omega, ⟨hr, hD2.gain⟩, by dsimp only; rw [Int.toNat_natCast, List.length_append, List.length_append, List.length_take, List.length_drop, List.length_take, hrow]; omega⟩, by dsimp only [Lit.v]; omega, Rel.layD (by repeat constructor) rfl ⟨rfl, rfl, trivial⟩ (by cases sd <;> kernel_rfl)⟩
      | exact ⟨(2, { D2 with b := b, n := nn, s := s', h := h }, _), ⟨by dsimp only [Lit.v]; omega, ⟨hr, hD2.gain⟩, by dsimp only; rw [Int.toNat_natCast, List.length_append, List.length_append, List.length_take, List.length_drop, List.length_take, hrow]; omega⟩, by dsimp only [Lit.v]; omega, Rel.layD (by repeat constructor) rfl ⟨rfl, rfl, trivial⟩ (by cases sd <;> kernel_rfl)⟩
      | exact ⟨(3, { D2 with b := b, n := nn, s := s', h := h }, _), ⟨by dsimp only [Lit.v]; omega, ⟨hr, hD2.gain⟩, by dsimp only; rw [Int.toNat_natCast, List.length_append, List.length_append, List.length_take, List.length_drop, List.length_take, hrow]; omega⟩, by dsimp only [Lit.v]; omega, Rel.layD (by repeat constructor) rfl ⟨rfl, rfl, trivial⟩ (by cases sd <;> kernel_rfl)⟩
      | exact ⟨(4, { D2 with b := b, n := nn, s := s', h := h }, _), ⟨by dsimp only [Lit.v]; omega, ⟨hr, hD2.gain⟩, by dsimp only; rw [Int.toNat_natCast, List.length_append, List.length_append, List.length_take, List.length_drop, List.length_take, hrow]; omega⟩, by dsimp only [Lit.v]; omega, Rel.layD (by repeat constructor) rfl ⟨rfl, rfl, trivial⟩ (by cases sd <;> kernel_rfl)⟩
theorem f115v (sd : Bool) (a c n : Nat) (D : Dec) (Z : Nat → Buf) (hc : c = 0 ∨ c = 2 ∨ c = 4) (hn : n = 2 ∨ n = 4) (hD : D.Ok) :
    ∃ cc, ((n = 2 ∧ cc = 2) ∨ (n = 2 ∧ cc = 4) ∨ (n = 4 ∧ cc = 4)) ∧ FnS 115 [.c (.p 0 0), .c (.i .u8 9), .c (.i .i64 n)] (lay [(0, .st (cells sd [] a (c, c) D Z)), (26, .un c), (27, .ar false .i8 (Z 27).xs)] 38) (K115 sd a n cc Z) := by
  rcases hc with rfl | rfl | rfl <;> rcases hn with rfl | rfl
  all_goals first
    | exact ⟨2, by decide, f115x sd a _ _ 2 () () () D Z (by decide) hD⟩
    | exact ⟨4, by decide, f115x sd a _ _ 4 () () () D Z (by decide) hD⟩
def In (lo hi : Int) (d : Nat) (xs : List Int) : Prop := ∀ i, i < d → lo ≤ xs.getD i 0 ∧ xs.getD i 0 ≤ hi
theorem In.nil {lo hi : Int} {xs : List Int} : In lo hi 0 xs := fun _ h => absurd h (Nat.not_lt_zero _)
theorem In.set {lo hi : Int} {d i : Nat} {xs : List Int} (h : In lo hi d xs) {v : Int} (hv : lo ≤ v ∧ v ≤ hi) : In lo hi d (xs.set i v) := fun k hk => by
  rw [List.getD_eq_getElem?_getD, List.getElem?_set]
  by_cases hi : i = k
  · subst hi
    rw [if_pos rfl]
    split
    · exact hv
    · have := h i hk; rename_i h2; rw [List.getD_eq_getElem?_getD, List.getElem?_eq_none (by omega)] at this; exact this
  · rw [if_neg hi, ← List.getD_eq_getElem?_getD]; exact h k hk
theorem In.put {lo hi : Int} {d : Nat} {xs : List Int} (h : In lo hi d xs) (hd : d < xs.length) {v : Int} (hv : lo ≤ v ∧ v ≤ hi) : In lo hi (d + 1) (xs.set d v) := fun k hk => by
  rw [getD_set hd]
  split
  · exact hv
  · exact h k (by omega)
theorem T190_len : T190.length = 11 := by decide +kernel
theorem T190_ok : ∀ k, k < 10 → icdfOk (T190.getD k []) = true ∧ (T190.getD k []).length = 19 := by decide +kernel
theorem T190_last : ∃ tot tab, T190.getD 10 [] = tot :: tab ∧ icdfOk (tot :: tab) = true ∧ tab[16]? = some tot :=
  ⟨(T190.getD 10 []).headD 0, (T190.getD 10 []).tail, by decide +kernel, by decide +kernel, by decide +kernel⟩
theorem f120 (sd : Bool) (a : Nat) (q : Nat × Nat) (D : Dec) (Z : Nat → Buf) (n rl : Nat) (hD : D.Ok) (hn : n ≤ 20) (hrl : rl < 9) :
    FnS 120 [.c (.p 0 0), .c (.i .i64 n), .c (.i .u32 rl)] (lay [(0, .st (cells sd [] a q D Z)), (1, .ar false .u8 (Z 1).xs), (2, .ar false .u8 (Z 2).xs)] 38) fun v l' => ∃ (D' : Dec) (B1 B2 : Buf), D'.Ok ∧ v = .tu [.c (.sl 38 0 n B1.cap), .c (.sl 39 0 n B2.cap)] ∧ (n ≤ B1.cap ∧ n ≤ B2.cap ∧ In 0 16 n B1.xs ∧ In 0 10 n B2.xs) ∧ l' = lay [(0, .st (cells sd [(1, 38), (2, 39)] a q D' (setZ (setZ Z 1 B1) 2 B2))), (38, .ar false .u8 B1.xs), (39, .ar false .u8 B2.xs)] 40 := by
  refine FnS.wpR (b := 38) Proofs.Tryz.f120 rfl rfl rfl rfl rfl rfl ?_
  refine WpN.seq (WpN.vc ?_)
  conv=>whnf
  refine WpN.seq (WpN.vc ?_)
  conv=>whnf
  refine rz189 (m := 37) (j := 1) (n := (n : Int)) _ rfl rfl (fun c => rfl) (by decide) rfl (Z 1).ok (by decide) (by omega) fun B1 hB1 _ => ?_
  rw [Int.toNat_natCast] at hB1 ⊢
  have hb1 := B1.ok
  conv=>whnf
  refine WpN.seq (WpN.vc ?_)
  conv=>whnf
  refine rz189 (m := 38) (j := 2) (n := (n : Int)) _ rfl rfl (fun c => rfl) (by decide) rfl (Z 2).ok (by decide) (by omega) fun B2 hB2 hz2 => ?_
  rw [Int.toNat_natCast] at hB2 hz2 ⊢
  have hb2 := B2.ok
  conv=>whnf
  have h2i : In 0 10 n B2.xs := fun i hi => by
    have e : B2.xs.getD i 0 = (B2.xs.take n).getD i 0 := by rw [List.getD_eq_getElem?_getD, List.getD_eq_getElem?_getD, List.getElem?_take_of_lt hi]
    rw [e, hz2, List.getD_eq_getElem?_getD, List.getElem?_replicate, if_pos hi]
    decide
  refine WpN.vc ?_
  conv=>whnf
  refine WpS.loop (ι := Nat × Dec × List Int × List Int) (fun x => mkSt [(0, .c (.p 0 0)), (2, .c (.i .u32 rl)), (6, .c (.sl 38 0 n B1.cap)), (7, .c (.sl 39 0 n B2.cap)), (20, .c (.i .i64 n)), (21, .c (.i .i64 x.1))] (lay [(0, .st (cells sd [(1, 38), (2, 39)] a q x.2.1 (setZ (setZ Z 1 B1) 2 B2))), (38, .ar false .u8 x.2.2.1), (39, .ar false .u8 x.2.2.2)] 40) 83) (fun x => x.1 ≤ n ∧ x.2.1.Ok ∧ x.2.2.1.length = B1.xs.length ∧ x.2.2.2.length = B2.xs.length ∧ In 0 16 x.1 x.2.2.1 ∧ In 0 10 n x.2.2.2) (fun x => n - x.1) (0, D, B1.xs, B2.xs) ⟨Nat.zero_le _, hD, rfl, rfl, In.nil, h2i⟩ (Rel.layD (by repeat constructor) rfl ⟨rfl, rfl, trivial⟩ (by cases sd <;> kernel_rfl)) ?_
  clear hD h2i hz2
  rintro ⟨j, D2, xs, ys⟩ ⟨hj, hD2, hxl, hyl, hxi, hyi⟩
  dsimp only at hj hD2 hxl hyl hxi hyi ⊢
  have ej := i64_nat j (by omega)
  have e9 : 0 + Int.toNat (j : Int) = j := by simp
  have t1 := T190_len
  refine VC_ok ?_
  conv=>whnf
  refine ⟨fun hc => ?_, fun hc => ?_⟩
  rotate_left
  · conv=>whnf
    refine ⟨rfl, ?_⟩
    conv=>whnf
    have hjn : j = n := by have := of_decide_eq_false hc; omega
    subst hjn
    exact ⟨[], .tu [.c (.sl 38 0 j B1.cap), .c (.sl 39 0 j B2.cap)], lay [(0, .st (cells sd [(1, 38), (2, 39)] a q D2 (setZ (setZ Z 1 ⟨B1.cap, xs, B1.ys, by omega, B1.okb⟩) 2 ⟨B2.cap, ys, B2.ys, by omega, B2.okb⟩))), (38, .ar false .u8 xs), (39, .ar false .u8 ys)] 40, rfl, by cases sd <;> kernel_rfl, stEq_lay (by cases sd <;> repeat constructor) 40 0, D2, ⟨B1.cap, xs, B1.ys, by omega, B1.okb⟩, ⟨B2.cap, ys, B2.ys, by omega, B2.okb⟩, hD2, rfl, ⟨hB1, hB2, hxi, hyi⟩, rfl⟩
  replace hc := of_decide_eq_true hc
  conv=>whnf
  refine .inl ⟨by kernel_rfl, ?_⟩
  conv=>whnf
  refine CallQ.use [] t190 rfl rfl trivial ?_
  rintro v l' ⟨rfl, rfl⟩
  conv=>whnf
  refine And.intro (by rw [t1]; omega) ?_
  conv=>whnf
  refine CallQ.use0 (f56r _ _ _ _ _ _ _ _ hD2.rc (T190_ok rl (by omega)).1) (by rfl) ?_
  rintro v b' ⟨k, b, nn, s, h, rfl, hk, hr, rfl⟩
  rw [Int.toNat_natCast, (T190_ok rl (by omega)).2] at hk
  conv=>whnf
  have ek : IntKind.u8.wrap (k : Int) = k := IntWalk.u8_in _ (by omega)
  repeat first|(refine Lt (by decide) ?_;conv=>whnf)|(refine Lf (by decide) ?_;conv=>whnf)|(refine And.intro (by first|decide|omega|(simp only [List.length_set];omega)) ?_;conv=>whnf)|(refine .inl ⟨by kernel_rfl,?_⟩;conv=>whnf)
  rw [e9, ek, getD_set_self (show j < xs.length by omega)]
  refine ⟨fun hc2 => ?_, fun hc2 => ?_⟩
  rotate_left
  · have hk17 : k ≠ 17 := by intro h; subst h; cases hc2
    conv=>whnf
    rw [ej]
    exact ⟨(j + 1, { D2 with b := b, n := nn, s := s, h := h }, xs.set j k, ys), ⟨by dsimp only; omega, ⟨hr, hD2.gain⟩, by simpa using hxl, hyl, hxi.put (by omega) (by omega), hyi⟩, by dsimp only; omega, Rel.layD (by repeat constructor) rfl ⟨rfl, rfl, trivial⟩ (by cases sd <;> kernel_rfl)⟩
  conv=>whnf
  refine WpS.loop (ι := Nat × Dec × Nat) (fun x => mkSt [(0, .c (.p 0 0)), (2, .c (.i .u32 rl)), (6, .c (.sl 38 0 n B1.cap)), (7, .c (.sl 39 0 n B2.cap)), (20, .c (.i .i64 n)), (8, .c (.i .i64 j)), (21, .c (.i .i64 j)), (9, .c (.i .u8 x.1))] (lay [(0, .st (cells sd [(1, 38), (2, 39)] a q x.2.1 (setZ (setZ Z 1 B1) 2 B2))), (38, .ar false .u8 (xs.set j x.2.2)), (39, .ar false .u8 ys)] 40) 83) (fun x => x.1 ≤ 10 ∧ x.2.1.Ok ∧ x.2.2 ≤ 17) (fun x => 10 - x.1) (0, { D2 with b := b, n := nn, s := s, h := h }, k) ⟨Nat.zero_le _, ⟨hr, hD2.gain⟩, by dsimp only; omega⟩ (Rel.layD (by repeat constructor) rfl ⟨rfl, rfl, trivial⟩ (by cases sd <;> kernel_rfl)) ?_
  clear hr hk hc2 ek k
  rintro ⟨c, D3, v⟩ ⟨hcc, hD3, hv⟩
  dsimp only at hcc hD3 hv ⊢
  have hys : In 0 10 n (ys.set j (c : Int)) := hyi.set (by omega)
  have hjl : j < xs.length := by omega
  refine VC_ok ?_
  conv=>whnf
  refine And.intro (by omega) ?_
  conv=>whnf
  refine And.intro (by simp only [List.length_set]; omega) ?_
  conv=>whnf
  rw [e9, getD_set_self hjl]
  generalize hx : ((v : Int) == 17) = x
  cases x
  · have hv17 : v ≠ 17 := by intro h; subst h; cases hx
    conv=>whnf
    repeat' first|(refine Lt (by decide) ?_;conv=>whnf)|(refine Lf (by decide) ?_;conv=>whnf)|fail
    refine ⟨rfl, ?_⟩
    conv=>whnf
    repeat first|(refine Lt (by decide) ?_;conv=>whnf)|(refine Lf (by decide) ?_;conv=>whnf)|(refine And.intro (by first|decide|omega|(simp only [List.length_set];omega)) ?_;conv=>whnf)|(refine .inl ⟨by kernel_rfl,?_⟩;conv=>whnf)
    rw [e9]
    refine ⟨fun hc3 => ?_, fun hc3 => ?_⟩
    · conv=>whnf
      refine .inl ⟨by kernel_rfl, ?_⟩
      conv=>whnf
      refine CallQ.use [] t190 rfl rfl trivial ?_
      rintro v l' ⟨rfl, rfl⟩
      conv=>whnf
      refine And.intro (by rw [t1]; omega) ?_
      conv=>whnf
      obtain ⟨tot, tab, et, hot, h16⟩ := T190_last
      have et' : T190.getD (Int.toNat 10) [] = tot :: tab := et
      rw [et']
      refine CallQ.use0 (f56s _ _ _ _ _ _ tot tab _ hD3.rc hot) (by rfl) ?_
      rintro v b' ⟨k, b, nn, s, h, rfl, ⟨hk, hk2⟩, hr, rfl⟩
      have hk16 : k ≤ 16 := hk2 16 h16
      conv=>whnf
      have ek : IntKind.u8.wrap (k : Int) = k := IntWalk.u8_in _ (by omega)
      repeat first|(refine Lt (by decide) ?_;conv=>whnf)|(refine Lf (by decide) ?_;conv=>whnf)|(refine And.intro (by first|decide|omega|(simp only [List.length_set];omega)) ?_;conv=>whnf)|(refine .inl ⟨by kernel_rfl,?_⟩;conv=>whnf)
      rw [e9, ek, ej, List.set_set]
      exact ⟨(j + 1, { D3 with b := b, n := nn, s := s, h := h }, xs.set j k, ys.set j (c : Int)), ⟨by dsimp only; omega, ⟨hr, hD3.gain⟩, by simpa using hxl, by simpa using hyl, hxi.put hjl (by omega), hyi.set (by omega)⟩, by dsimp only; omega, Rel.layD (by repeat constructor) rfl ⟨rfl, rfl, trivial⟩ (by cases sd <;> kernel_rfl)⟩
    · conv=>whnf
      rw [ej]
      exact ⟨(j + 1, D3, xs.set j v, ys.set j c), ⟨by dsimp only; omega, hD3, by simpa using hxl, by simpa using hyl, hxi.put hjl (by omega), hys⟩, by dsimp only; omega, Rel.layD (by repeat constructor) rfl ⟨rfl, rfl, trivial⟩ (by cases sd <;> kernel_rfl)⟩
  · conv=>whnf
    repeat' first|(refine Lt (by decide) ?_;conv=>whnf)|(refine Lf (by decide) ?_;conv=>whnf)|fail
    refine ⟨fun hc3 => ?_, fun hc3 => ?_⟩
    · replace hc3 := of_decide_eq_true hc3
      conv=>whnf
      refine .inl ⟨by kernel_rfl, ?_⟩
      conv=>whnf
      refine CallQ.use [] t190 rfl rfl trivial ?_
      rintro v l' ⟨rfl, rfl⟩
      conv=>whnf
      refine And.intro (by rw [t1]; omega) ?_
      conv=>whnf
      refine CallQ.use0 (f56r _ _ _ _ _ _ _ _ hD3.rc (T190_ok 9 (by omega)).1) (by rfl) ?_
      rintro v b' ⟨k, b, nn, s, h, rfl, hk, hr, rfl⟩
      replace hk : k + 1 < 19 := Nat.lt_of_lt_of_eq hk (T190_ok 9 (by omega)).2
      conv=>whnf
      have ek : IntKind.u8.wrap (k : Int) = k := IntWalk.u8_in _ (by omega)
      have ec : IntKind.u8.wrap ((c : Int) + 1) = ((c + 1 : Nat) : Int) := by rw [IntWalk.u8_in _ (by omega)]; rfl
      repeat first|(refine Lt (by decide) ?_;conv=>whnf)|(refine Lf (by decide) ?_;conv=>whnf)|(refine And.intro (by first|decide|omega|(simp only [List.length_set];omega)) ?_;conv=>whnf)|(refine .inl ⟨by kernel_rfl,?_⟩;conv=>whnf)
      rw [e9, ek, ec, List.set_set]
      exact ⟨(c + 1, { D3 with b := b, n := nn, s := s, h := h }, k), ⟨by dsimp only; omega, ⟨hr, hD3.gain⟩, by dsimp only; omega⟩, by dsimp only; omega, Rel.layD (by repeat constructor) rfl ⟨rfl, rfl, trivial⟩ (by cases sd <;> kernel_rfl)⟩
    · have hc10 : c = 10 := by have := of_decide_eq_false hc3; omega
      subst hc10
      conv=>whnf
      refine ⟨rfl, ?_⟩
      conv=>whnf
      repeat first|(refine Lt (by decide) ?_;conv=>whnf)|(refine Lf (by decide) ?_;conv=>whnf)|(refine And.intro (by first|decide|omega|(simp only [List.length_set];omega)) ?_;conv=>whnf)|(refine .inl ⟨by kernel_rfl,?_⟩;conv=>whnf)
      refine CallQ.use [] t190 rfl rfl trivial ?_
      rintro v l' ⟨rfl, rfl⟩
      conv=>whnf
      refine And.intro (by rw [t1]; omega) ?_
      conv=>whnf
      obtain ⟨tot, tab, et, hot, h16⟩ := T190_last
      have et' : T190.getD (Int.toNat 10) [] = tot :: tab := et
      rw [et']
      refine CallQ.use0 (f56s _ _ _ _ _ _ tot tab _ hD3.rc hot) (by rfl) ?_
      rintro v b' ⟨k, b, nn, s, h, rfl, ⟨hk, hk2⟩, hr, rfl⟩
      have hk16 : k ≤ 16 := hk2 16 h16
      conv=>whnf
      have ek : IntKind.u8.wrap (k : Int) = k := IntWalk.u8_in _ (by omega)
      repeat first|(refine Lt (by decide) ?_;conv=>whnf)|(refine Lf (by decide) ?_;conv=>whnf)|(refine And.intro (by first|decide|omega|(simp only [List.length_set];omega)) ?_;conv=>whnf)|(refine .inl ⟨by kernel_rfl,?_⟩;conv=>whnf)
      rw [e9, ek, ej, List.set_set]
      exact ⟨(j + 1, { D3 with b := b, n := nn, s := s, h := h }, xs.set j k, ys.set j ((10 : Nat) : Int)), ⟨by dsimp only; omega, ⟨hr, hD3.gain⟩, by simpa using hxl, by simpa using hyl, hxi.put hjl (by omega), hyi.set (by omega)⟩, by dsimp only; omega, Rel.layD (by repeat constructor) rfl ⟨rfl, rfl, trivial⟩ (by cases sd <;> kernel_rfl)⟩
def Split (T : List (List Int)) : Prop := T.length = 16 ∧ ∀ i, i < 16 → icdfOk (T.getD i []) = true ∧ (T.getD i []).length = i + 3
theorem T227_ok : Split T227 := by unfold Split; decide +kernel
theorem T228_ok : Split T228 := by unfold Split; decide +kernel
theorem T229_ok : Split T229 := by unfold Split; decide +kernel
theorem T230_ok : Split T230 := by unfold Split; decide +kernel
theorem f226 (sd : Bool) (a : Nat) (q : Nat × Nat) (D : Dec) (Z : Nat → Buf) (T : List (List Int)) (k : Nat) (x y : Int) (hD : D.Ok) (hT : Split T) (hk : k ≤ 16) :
    FnS 226 [.c (.p 0 0), .c (.iss .u64 T), .c (.i .u8 k), .c (.sl 38 0 2 2)] (lay [(0, .st (cells sd [] a q D Z)), (38, .ar false .u8 [x, y])] 39) fun v l' => ∃ (D' : Dec) (x y : Nat), D'.Ok ∧ (x ≤ 16 ∧ y ≤ 16) ∧ v = .tu [] ∧ l' = lay [(0, .st (cells sd [] a q D' Z)), (38, .ar false .u8 [(x : Int), (y : Int)])] 39 := by
  refine FnS.wpR (b := 39) Proofs.Tryz.f226 rfl rfl rfl rfl rfl rfl ?_
  refine WpN.vc ?_
  conv=>whnf
  refine ⟨fun hc => ?_, fun hc => ?_⟩
  · conv=>whnf
    repeat first|(refine Lt (by decide) ?_;conv=>whnf)|(refine Lf (by decide) ?_;conv=>whnf)|(refine And.intro (by first|decide|omega|(simp only [List.length_set];omega)) ?_;conv=>whnf)|(refine .inl ⟨by kernel_rfl,?_⟩;conv=>whnf)|(refine And.intro (by simp only [List.length_set,List.length_cons,List.length_nil];omega) ?_;conv=>whnf)
    exact ⟨[], .tu [], lay [(0, .st (cells sd [] a q D Z)), (38, .ar false .u8 [((0 : Nat) : Int), ((0 : Nat) : Int)])] 39, rfl, by cases sd <;> kernel_rfl, stEq_lay (by cases sd <;> repeat constructor) 39 0, D, 0, 0, hD, by decide, rfl, rfl⟩
  · have hk0 : k ≠ 0 := by intro h; subst h; cases hc
    have ek : IntKind.u8.wrap ((k : Int) - 1) = ((k - 1 : Nat) : Int) := by rw [IntWalk.u8_in _ (by omega)]; omega
    have hT1 := hT.1
    obtain ⟨h1, h2⟩ := hT.2 (k - 1) (by omega)
    conv=>whnf
    refine .inl ⟨by kernel_rfl, ?_⟩
    conv=>whnf
    rw [ek]
    refine And.intro (by omega) ?_
    conv=>whnf
    refine CallQ.use0 (f56r _ _ _ _ _ _ _ _ hD.rc h1) (by rfl) ?_
    rintro v b' ⟨t, b, nn, s, h, rfl, ht, hr, rfl⟩
    rw [Int.toNat_natCast, h2] at ht
    have et : IntKind.u8.wrap (t : Int) = t := IntWalk.u8_in _ (by omega)
    have es : IntKind.u8.wrap ((k : Int) - t) = ((k - t : Nat) : Int) := by rw [IntWalk.u8_in _ (by omega)]; omega
    conv=>whnf
    repeat first|(refine Lt (by decide) ?_;conv=>whnf)|(refine Lf (by decide) ?_;conv=>whnf)|(refine And.intro (by first|decide|omega|(simp only [List.length_set];omega)) ?_;conv=>whnf)|(refine .inl ⟨by kernel_rfl,?_⟩;conv=>whnf)|(refine And.intro (by simp only [List.length_set,List.length_cons,List.length_nil];omega) ?_;conv=>whnf)
    have e3 : ([x, y].set (0 + Int.toNat 0) (IntKind.u8.wrap (t : Int))).getD (0 + Int.toNat 0) 0 = (t : Int) := by rw [et]; rfl
    rw [e3, et, es]
    exact ⟨[], .tu [], lay [(0, .st (cells sd [] a q { D with b := b, n := nn, s := s, h := h } Z)), (38, .ar false .u8 [((t : Nat) : Int), ((k - t : Nat) : Int)])] 39, rfl, by cases sd <;> kernel_rfl, stEq_lay (by cases sd <;> repeat constructor) 39 0, { D with b := b, n := nn, s := s, h := h }, t, k - t, ⟨hr, hD.gain⟩, by omega, rfl, rfl⟩
end Go.SX
