/- A part of the proof: the SILK decoder of the given program, walked by an executor that is proved sound. No statement of the program is proved in this text. -/
import Derived.Test.YtojdfjohmicopaaGreatDoorL23
import Derived.Test.YtojdfjohmicopaaGreatDoorL31
import Derived.Test.YtojdfjohmicopaaGreatDoorL32
set_option linter.all false
set_option maxRecDepth 100000
namespace Go.SX
open Go
theorem f94z (sd : Bool) (c a : Nat) (D : Dec) (Z : Nat → Buf) (recs : List (List C)) (va first skip : Bool) (ns bw : Int) (hD : D.Ok) (Z0 : Nat → Buf) (hF : Fl Z Z0) (h28 : Nn (Z 28).cap (Z 28).xs) (hc : c = 0 ∨ c = 2 ∨ c = 4) (h3 : recs.length < 1000000)
    (hb : bw = 1 ∨ bw = 2 ∨ bw = 3) (hns : ns = 10000000 ∨ ns = 20000000) :
    FnS 94 [.c (.p 0 0), .c (.b va), .c (.i .i64 ns), .c (.i .u8 bw), .c (.b first), .c (.b skip)] (lay (std0 sd c a D Z recs) 38) (Post94 sd Z0 recs) := by
  obtain ⟨n, hn⟩ : ∃ n : Nat, (ns = 10000000 ∧ n = 2) ∨ (ns = 20000000 ∧ n = 4) := hns.elim (fun h => ⟨2, .inl ⟨h, rfl⟩⟩) (fun h => ⟨4, .inr ⟨h, rfl⟩⟩)
  obtain ⟨d, hd⟩ : ∃ d : Nat, (bw = 3 ∧ d = 16) ∨ ((bw = 1 ∨ bw = 2) ∧ d = 10) := hb.elim (fun h => ⟨10, .inr ⟨.inl h, rfl⟩⟩) fun h => h.elim (fun h => ⟨10, .inr ⟨.inr h, rfl⟩⟩) fun h => ⟨16, .inl ⟨h, rfl⟩⟩
  obtain ⟨sb, hsb⟩ : ∃ sb : Nat, (ns = 10000000 ∧ bw = 1 ∧ (sb : Int) = 5) ∨ (ns = 10000000 ∧ bw = 2 ∧ (sb : Int) = 8) ∨ (ns = 10000000 ∧ bw = 3 ∧ (sb : Int) = 10) ∨ (ns = 20000000 ∧ bw = 1 ∧ (sb : Int) = 10) ∨ (ns = 20000000 ∧ bw = 2 ∧ (sb : Int) = 15) ∨ (ns = 20000000 ∧ bw = 3 ∧ (sb : Int) = 20) := by
    rcases hns with h | h <;> rcases hb with h' | h' | h'
    · exact ⟨5, .inl ⟨h, h', rfl⟩⟩
    · exact ⟨8, .inr (.inl ⟨h, h', rfl⟩)⟩
    · exact ⟨10, .inr (.inr (.inl ⟨h, h', rfl⟩))⟩
    · exact ⟨10, .inr (.inr (.inr (.inl ⟨h, h', rfl⟩)))⟩
    · exact ⟨15, .inr (.inr (.inr (.inr (.inl ⟨h, h', rfl⟩))))⟩
    · exact ⟨20, .inr (.inr (.inr (.inr (.inr ⟨h, h', rfl⟩))))⟩
  refine FnS.wpR (b := 38) (c := b94) Proofs.Tryz.f94 rfl rfl rfl rfl rfl rfl ?_
  have s : Nat → Nat × Nat × Nat := fun _=>(0, 0, 0)
  refine WpN.weaken (s := ⟨envL [.c (.p 0 0), .c (.b va), .c (.i .i64 ns), .c (.i .u8 bw), .c (.b first), .c (.b skip)], mkS (lay (dlu sd [] a (c, c) D Z (.st [.any, .any]) (.un c) 30 recs 1 2 3 4 9 10 11 12 13 14 15 16 17 18 19 20 21 22 23 25 26 27 28) 38), 38, 193⟩) (Rel.trans (Rel.unforget (nm := 24) (k := 2) rfl) (Rel.sameL (stEq_lay (by cases sd <;> repeat constructor) 38 0))) rfl ?_
  refine pre94 sd a c D Z 0 0 0 0 s recs va first skip ns bw n d hD Z0 hF h28 hb hn hd (fun D Z kind off w I1 hko hD hF h28 h9 hG h11 h12 hL => ?_) (fun D Z kind off w I1 hko hD hF h28 h9 hG h11 h12 hL h15 hN15 => ?_)
  · refine mid94_0 sd a c D Z 0 0 0 0 s recs va first skip ns bw kind off w n d I1 Z0 hd hD hF h9 hG h11 h12 hL (fun D Z hD hF h9 hG h11 h12 hL hf => ?_)
    by_cases hk : kind = 9
    · subst hk
      exact exc94v_0 sd c D Z recs va first skip ns bw w I1 n d sb off hko.2 Z0 hF hD h3 hb hsb hn hc (by omega) h9 hG h11 h12 hL hf
    · exact exc94_0 sd c D Z recs va first skip ns bw w I1 n d sb kind off hko Z0 hF hD h3 hb hsb hn hc hk (by omega) h9 hG h11 h12 hL hf
  · refine mid94_1 sd a c D Z 0 0 0 0 s recs va first skip ns bw kind off w n d I1 Z0 hd hD hF h9 hG h11 h12 hL h15 hN15 (fun D Z hD hF h9 hG h11 h12 hL h15 _ h22 hf => ?_)
    by_cases hk : kind = 9
    · subst hk
      exact exc94v_1 sd c D Z recs va first skip ns bw w I1 n d sb off hko.2 Z0 hF hD h3 hb hsb hn hc (by omega) h9 hG h11 h12 hL h22 h15 hf
    · exact exc94_1 sd c D Z recs va first skip ns bw w I1 n d sb kind off hko Z0 hF hD h3 hb hsb hn hc hk (by omega) h9 hG h11 h12 hL h22 h15 hf
theorem f94 (sd : Bool) (c a : Nat) (D : Dec) (Z : Nat → Buf) (recs : List (List C)) (va first skip : Bool) (ns bw : Int) (hD : D.Ok) (h28 : Nn (Z 28).cap (Z 28).xs) (hc : c = 0 ∨ c = 2 ∨ c = 4) (h3 : recs.length < 1000000)
    (hb : bw = 1 ∨ bw = 2 ∨ bw = 3) (hns : ns = 10000000 ∨ ns = 20000000) :
    FnS 94 [.c (.p 0 0), .c (.b va), .c (.i .i64 ns), .c (.i .u8 bw), .c (.b first), .c (.b skip)] (lay (std0 sd c a D Z recs) 38) (Post94 sd Z recs) :=
  f94z sd c a D Z recs va first skip ns bw hD Z ⟨rfl, rfl, rfl, rfl⟩ h28 hc h3 hb hns
theorem RelM.of_rel {b nx nx' : Nat} {v v' : V} {st st' : Nat → Option B} (hlo : v.lo nx = true) (hlo' : v'.lo nx' = true) (hb : b ≤ nx) (hb' : b ≤ nx') (r : Rel b ⟨mkE [(0, v)], st, nx, 1⟩ ⟨mkE [(0, v')], st', nx', 1⟩) : RelM b v st nx v' st' nx' :=
  ⟨hb', V.lo_ok hlo', fun H X u g hd => by
    have g0 : Γ H ⟨mkE [(0, v)], st, nx, 1⟩ X { tmps := #[u], defers := H.ds } := by
      refine { toHs := g, dn := rfl, n := by simp, env := fun t w ht => ?_ }
      cases t with
      | zero => cases ht; exact ⟨⟨u, rfl, hd⟩, V.lo_ok hlo⟩
      | succ t => cases ht
    obtain ⟨X', h1, h2, h3, _⟩ := r H X _ hb g0
    obtain ⟨⟨u', k1, k2⟩, _⟩ := h2.env 0 v' rfl
    have : u' = u := by simpa using k1.symm
    subst this
    exact ⟨X', h1, h2.toHs, h3, k2⟩⟩
theorem FnS.behind {f : Nat} {vs : List V} {l : List (Option B)} {K K' : V → List (Option B) → Prop} (h : FnS f vs l K) (hk : ∀ v l', K v l' → ∃ v2 l2, K' v2 l2 ∧ RelM l.length v (mkS l') l'.length v2 (mkS l2) l2.length) : FnS f vs l K' := by
  obtain ⟨v, l', h1, h2⟩ := h
  obtain ⟨v2, l2, h3, h4⟩ := hk v l' h1
  exact ⟨v2, l2, h3, h2.behind h4⟩
def More (n : Nat) (recs recs' : List (List C)) : Prop := ∃ ms : List (List C), recs' = recs ++ ms ∧ ms.length ≤ n ∧ ∀ r ∈ ms, RecOk r
theorem More.refl (recs : List (List C)) : More 0 recs recs := ⟨[], by simp, Nat.le_refl _, fun r h => by cases h⟩
theorem More.one {n : Nat} {recs recs' : List (List C)} {r : List C} (h : More n recs recs') (hr : RecOk r) : More (n + 1) recs (recs' ++ [r]) := by
  obtain ⟨ms, rfl, h1, h2⟩ := h
  refine ⟨ms ++ [r], by simp, by simp; omega, fun x hx => ?_⟩
  rcases List.mem_append.1 hx with hx | hx
  · exact h2 x hx
  · cases List.mem_singleton.1 hx; exact hr
theorem More.le {n m : Nat} {recs recs' : List (List C)} (h : More n recs recs') (hn : n ≤ m) : More m recs recs' := let ⟨ms, h1, h2, h3⟩ := h; ⟨ms, h1, Nat.le_trans h2 hn, h3⟩
theorem More.trans {n m : Nat} {x y z : List (List C)} (h : More n x y) (h' : More m y z) : More (n + m) x z := by
  obtain ⟨ms, rfl, h1, h2⟩ := h
  obtain ⟨ms', rfl, h3, h4⟩ := h'
  refine ⟨ms ++ ms', by simp, by simp; omega, fun x hx => ?_⟩
  rcases List.mem_append.1 hx with hx | hx
  · exact h2 x hx
  · exact h4 x hx
theorem More.len {n : Nat} {x y : List (List C)} (h : More n x y) : y.length ≤ x.length + n := by obtain ⟨ms, rfl, h1, _⟩ := h; simp; omega
theorem fl_eq {x y : Buf} (h : x = y) : some (B.bl false y.ys) = some (B.bl false x.ys) := by rw [h]
@[reducible] def rn1 : List Nat := [0, 39, 40, 41, 42, 5, 6, 7, 8, 47, 48, 49, 50, 51, 52, 53, 54, 55, 56, 57, 58, 59, 60, 61, 24, 63, 64, 65, 66, 29, 68, 31, 32, 33, 34, 35, 36, 37]
@[reducible] def al0 : List (Nat × Nat) := [(39, 1), (40, 2), (41, 3), (42, 4), (47, 9), (48, 10), (49, 11), (50, 12), (51, 13), (52, 14), (53, 15), (54, 16), (55, 17), (56, 18), (57, 19), (58, 20), (59, 21), (60, 22), (61, 23), (63, 25), (64, 26), (65, 27), (66, 28), (68, 30)]
@[reducible] def al1 : List (Nat × Nat) := [(39, 77), (40, 78), (41, 79), (42, 80), (47, 85), (48, 86), (49, 87), (50, 88), (51, 89), (52, 90), (53, 91), (54, 92), (55, 93), (56, 94), (57, 95), (58, 96), (59, 97), (60, 98), (61, 99), (63, 101), (64, 102), (65, 103), (66, 104), (68, 106)]
theorem f70 (x : Ch) (recs : List (List C)) (ys : List Bool) (n cap : Nat) (ns bw : Int) (hx : x.Ok) (hn : n ≤ 3) (hl : n ≤ ys.length) (h3 : recs.length < 1000)
    (hb : bw = 1 ∨ bw = 2 ∨ bw = 3) (hns : ns = 10000000 ∨ ns = 20000000) :
    FnS 70 [.c (.p 0 0), .c (.sl 5 0 n cap), .c (.i .i64 ns), .c (.i .u8 bw)] (lay ((5, .bl false ys) :: std0 true x.c x.a x.D x.Z recs) 38) fun v l' => ∃ (x' : Ch) (recs' : List (List C)), x'.Ok ∧ Fl x'.Z x.Z ∧ More n recs recs' ∧ v = .c (.kv .nilIface) ∧
      l' = lay ((5, .bl false ys) :: std38 true x'.c x'.a x'.D x'.Z recs') 76 := by
  refine FnS.wpR (b := 38) Proofs.Tryz.f70 rfl rfl rfl rfl rfl rfl ?_
  refine WpN.seq (WpN.vc ?_)
  conv=>whnf
  refine WpN.seq (WpN.vc ?_)
  conv=>whnf
  refine WpS.loop (ι := Nat × Ch × List (List C)) (fun y => mkSt [(0, .c (.p 0 0)), (1, .c (.sl 5 0 n cap)), (2, .c (.i .i64 ns)), (3, .c (.i .u8 bw)), (12, .c (.i .i64 n)), (13, .c (.i .i64 y.1))] (lay ((5, .bl false ys) :: std38 true y.2.1.c y.2.1.a y.2.1.D y.2.1.Z y.2.2) 76) 33)
    (fun y => y.1 ≤ n ∧ y.2.1.Ok ∧ Fl y.2.1.Z x.Z ∧ More y.1 recs y.2.2) (fun y => n - y.1) (0, x, recs) ⟨Nat.zero_le _, hx, .refl _, .refl _⟩ (Rel.lay al0 (by kernel_rfl) (by repeat constructor) (by repeat constructor)) ?_
  clear hx
  generalize x.Z = Z0
  rintro ⟨j, x, rs⟩ ⟨hj, hx, hF, hr⟩
  dsimp only at hj hx hF hr ⊢
  refine VC_ok ?_
  conv=>whnf
  refine ⟨fun hc => ?_, fun hc => ?_⟩
  · have hc : j < n := by have := of_decide_eq_true hc; omega
    have hrl := hr.len
    conv=>whnf
    repeat (refine And.intro (by first | omega | exact Int.natCast_nonneg _) ?_; conv=>whnf)
    refine CallQ.useF rn1 (f94 true x.c x.a x.D x.Z rs _ _ _ ns bw hx.d hx.n hx.c (by omega) hb hns) rfl (by kernel_rfl) (stEq_lay (by repeat constructor) 38 0) ?_
    rintro v l' ⟨D, Z, c, a, r, hD, hF1, hn28, hc4, hro, rfl, rfl⟩
    conv=>whnf
    repeat' first|(refine Lt (by decide) ?_;conv=>whnf)|(refine Lf (by decide) ?_;conv=>whnf)|fail
    rw [add1 (by omega)]
    exact ⟨(j + 1, ⟨D, Z, c, a⟩, rs ++ [r]), ⟨by dsimp only; omega, ⟨hD, hn28, hc4⟩, hF1.trans hF, hr.one hro⟩, by dsimp only; omega, Rel.lay al1 (by kernel_rfl) (by repeat constructor) (by repeat constructor)⟩
  · conv=>whnf
    refine ⟨rfl, ?_⟩
    refine WpN.vc ?_
    conv=>whnf
    exact ⟨[], .c (.kv .nilIface), lay ((5, .bl false ys) :: std38 true x.c x.a { x.D with ws := false } x.Z rs) 76, rfl, by kernel_rfl, stEq_lay (by repeat constructor) 76 0, ⟨{ x.D with ws := false }, x.Z, x.c, x.a⟩, rs, ⟨⟨hx.d.rc, hx.d.gain⟩, hx.n, hx.c⟩, hF, hr.le hj, rfl, rfl⟩
def D0 : Dec := ⟨[], 0, 0, 0, 0, 0, 0, false, false, 0, 0, 0, 0, false, false, false, false, false, false, 0, 0⟩
def ch0 : Ch := ⟨D0, fun _=>nilB, 0, 0⟩
structure Ch.Sk (x : Ch) : Prop where
  g : 0 ≤ x.D.gain ∧ x.D.gain ≤ 63
  n : Nn (x.Z 28).cap (x.Z 28).xs
  c : x.c = 0 ∨ x.c = 2 ∨ x.c = 4
theorem Ch.Ok.sk {x : Ch} (h : x.Ok) : x.Sk := ⟨h.d.gain, h.n, h.c⟩
theorem ch0_sk : ch0.Sk := ⟨by decide, fun i hi => absurd hi (Nat.not_lt_zero _), .inl rfl⟩
def freshC (p : C) (aS : Nat) : List C := [
  .nsl, .i .u64 0, .i .u64 0, .i .u64 0, .i .u32 0, .i .u32 0,
  p, .i .u8 0, .b false, .b false, .i .i64 0, .i .i32 0, .nsl, .i .i32 0, .i .i32 0, .b false, .b false,
  .nsl, .nsl, .nsl, .nsl, .nsl, .nsl, .nsl, .nsl, .nsl, .nsl, .nsl, .nsl, .nsl, .nsl, .nsl, .nsl, .nsl, .nsl, .nsl,
  .nsl, .nsl, .nsl, .nsl, .sl aS 0 0 2, .nsl, .nsl, .nsl, .np,
  .b false, .b false, .b false, .b false, .i .i32 0, .i .i32 0]
@[reducible] def nl0 : List (Nat × B) := [(17, .ar false .u8 []), (18, .ar false .u8 []), (19, .ar false .i32 []), (20, .ar false .i32 []), (21, .bl false []), (22, .bl false []), (23, .bl false []), (24, .bl false []), (25, .ar false .i32 []), (26, .ar false .i8 []), (27, .ar false .i16 []), (28, .ar false .i16 []), (29, .ar false .u64 []), (30, .ar false .i16 []), (31, .ar false .i16 []), (32, .ar false .i32 []), (33, .ar false .i32 []), (34, .ar false .i32 []), (35, .ar false .i32 []), (36, .ar false .i16 []), (37, .ar false .i16 []), (38, .ar false .i16 []), (39, .ar false .i16 []), (41, .ar false .i64 []), (42, .st []), (43, .ar false .i8 []), (12, .ar false .i16 [])]
@[reducible] def sd0 (e : Ch) : List (Nat × B) := [(0, .st (cellsP .np .any [] e.a (e.c, e.c) e.D e.Z)), (1, .ar false .u8 (e.Z 1).xs), (2, .ar false .u8 (e.Z 2).xs), (3, .ar false .i32 (e.Z 3).xs), (4, .ar false .i32 (e.Z 4).xs), (9, .ar false .i32 (e.Z 9).xs), (10, .ar false .i8 (e.Z 10).xs), (11, .ar false .i16 (e.Z 11).xs), (12, .ar false .i16 (e.Z 12).xs), (13, .ar false .u64 (e.Z 13).xs), (14, .ar false .i16 (e.Z 14).xs), (15, .ar false .i16 (e.Z 15).xs), (16, .ar false .i32 (e.Z 16).xs), (17, .ar false .i32 (e.Z 17).xs), (18, .ar false .i32 (e.Z 18).xs), (19, .ar false .i32 (e.Z 19).xs), (20, .ar false .i16 (e.Z 20).xs), (21, .ar false .i16 (e.Z 21).xs), (22, .ar false .i16 (e.Z 22).xs), (23, .ar false .i16 (e.Z 23).xs), (25, .ar false .i64 (e.Z 25).xs), (27, .ar false .i8 (e.Z 27).xs), (28, .ar false .i16 (e.Z 28).xs), (24, .un 2), (26, .un e.c)]
theorem f27 : FnS 27 [] [] fun v l' => v = .c (.p 0 0) ∧ l' = lay (sd0 ch0) 38 := by
  refine FnS.behind (K := fun v l' => v = .c (.p 1 0) ∧ l' = [some (.st [.nsl, .nsl]), some (.st (freshC .np 0))]) ?_ ?_
  · refine FnS.wpR (b := 0) Proofs.Tryz.f27 rfl rfl rfl rfl rfl rfl ?_
    refine WpN.vc ?_
    conv=>whnf
    refine ⟨by decide, ?_⟩
    conv=>whnf
    exact ⟨[], .c (.p 1 0), [some (.st [.nsl, .nsl]), some (.st (freshC .np 0))], rfl, by kernel_rfl, ⟨rfl, rfl, trivial⟩, rfl, rfl⟩
  · rintro v l' ⟨rfl, rfl⟩
    refine ⟨_, _, ⟨rfl, rfl⟩, RelM.of_rel (by kernel_rfl) (by kernel_rfl) (Nat.zero_le _) (Nat.zero_le _) ?_⟩
    refine Rel.trans (Rel.nils (nm := 1) nl0 (freshC .np 0) _ 2 rfl (by kernel_rfl)) ?_
    refine Rel.trans (Rel.tellC (nm := 1) (i := 0) (c := .nsl) (.is .u8 []) rfl rfl (fun _ _ h => h.nil_is) (fun _ h => h)) ?_
    refine Rel.trans (Rel.tellC (nm := 1) (i := 44) (c := .np) .any rfl rfl (fun _ _ _ => .any) (fun _ h => h)) ?_
    refine Rel.trans (Rel.forget (nm := 0) (k := 2) rfl rfl) ?_
    refine Rel.trans (Rel.forget (nm := 26) (k := 0) rfl rfl) ?_
    exact Rel.lay (k := 38) [(0, 1), (24, 0), (1, 2), (2, 3), (3, 4), (4, 5), (5, 6), (6, 7), (7, 8), (8, 9), (9, 10), (10, 11), (11, 12), (12, 13), (13, 14), (14, 15), (15, 16), (16, 17), (17, 18), (18, 19), (19, 20), (20, 21), (21, 22), (22, 23), (23, 24), (25, 25), (26, 26), (27, 27), (28, 28)] (E := [(0, .c (.p 0 0))]) (l := sd0 ch0) (by kernel_rfl) (by repeat constructor) (by repeat constructor)
@[reducible] def sd31 (e : Ch) : List (Nat × B) := [(31, .st (cellsP .np .any [(1, 39), (2, 40), (3, 41), (4, 42), (5, 43), (6, 44), (7, 45), (8, 46), (9, 47), (10, 48), (11, 49), (12, 50), (13, 51), (14, 52), (15, 53), (16, 54), (17, 55), (18, 56), (19, 57), (20, 58), (21, 59), (22, 60), (23, 61), (24, 62), (25, 63), (26, 64), (27, 65), (28, 66)] e.a (e.c, e.c) e.D e.Z)), (39, .ar false .u8 (e.Z 1).xs), (40, .ar false .u8 (e.Z 2).xs), (41, .ar false .i32 (e.Z 3).xs), (42, .ar false .i32 (e.Z 4).xs), (47, .ar false .i32 (e.Z 9).xs), (48, .ar false .i8 (e.Z 10).xs), (49, .ar false .i16 (e.Z 11).xs), (50, .ar false .i16 (e.Z 12).xs), (51, .ar false .u64 (e.Z 13).xs), (52, .ar false .i16 (e.Z 14).xs), (53, .ar false .i16 (e.Z 15).xs), (54, .ar false .i32 (e.Z 16).xs), (55, .ar false .i32 (e.Z 17).xs), (56, .ar false .i32 (e.Z 18).xs), (57, .ar false .i32 (e.Z 19).xs), (58, .ar false .i16 (e.Z 20).xs), (59, .ar false .i16 (e.Z 21).xs), (60, .ar false .i16 (e.Z 22).xs), (61, .ar false .i16 (e.Z 23).xs), (63, .ar false .i64 (e.Z 25).xs), (65, .ar false .i8 (e.Z 27).xs), (66, .ar false .i16 (e.Z 28).xs), (62, .un 2), (64, .un e.c)]
theorem f13 : FnS 13 [] [] fun v l' => v = .ag (freshC (.p 31 0) 24) ∧ l' = lay ((24, .st [.nsl, .nsl]) :: sd31 ch0) 76 := by
  refine FnS.wpR (b := 0) Proofs.Tryz.f13 rfl rfl rfl rfl rfl rfl ?_
  refine WpN.seq (WpN.vc ?_)
  conv=>whnf
  refine WpN.seq (WpN.of ?_)
  refine WpS.ways (.node 0 (.node 1 (.node 2 (.node 3 .nil .nil) .nil) .nil) (.node 1 (.node 0 (.node 2 (.node 3 .nil .nil) .nil) .nil) .nil)) (mkSt [(0, .c (.p 0 0))] (lay ((0, .st (freshC (.p 31 0) 24)) :: (24, .st [.nsl, .nsl]) :: sd31 ch0) 76) 4) (by kernel_rfl) ⟨rfl, ?_⟩ ?_
  · refine WpN.vc ?_
    conv=>whnf
    exact ⟨[], .ag (freshC (.p 31 0) 24), lay ((24, .st [.nsl, .nsl]) :: sd31 ch0) 76, rfl, by kernel_rfl, stEq_lay (by repeat constructor) 76 0, rfl, rfl⟩
  conv=>whnf
  refine ⟨?_, ?_, trivial⟩
  · refine CallQ.useF [] f27 rfl (by kernel_rfl) trivial ?_
    rintro v l' ⟨rfl, rfl⟩
    conv=>whnf
    refine And.intro (And.intro (by decide) ?_) trivial
    conv=>whnf
    refine And.intro ?_ trivial
    conv=>whnf
    refine And.intro ?_ trivial
    conv=>whnf
    exact Rel.lay [(24, 39), (31, 1), (39, 2), (40, 3), (41, 4), (42, 5), (43, 6), (44, 7), (45, 8), (46, 9), (47, 10), (48, 11), (49, 12), (50, 13), (51, 14), (52, 15), (53, 16), (54, 17), (55, 18), (56, 19), (57, 20), (58, 21), (59, 22), (60, 23), (61, 24), (62, 25), (63, 26), (64, 27), (65, 28), (66, 29)] (by kernel_rfl) (by repeat constructor) (by repeat constructor)
  · conv=>whnf
    refine And.intro (by decide) ?_
    conv=>whnf
    refine And.intro ?_ trivial
    conv=>whnf
    refine CallQ.useF [] f27 rfl (by kernel_rfl) trivial ?_
    rintro v l' ⟨rfl, rfl⟩
    conv=>whnf
    refine And.intro ?_ trivial
    conv=>whnf
    refine And.intro ?_ trivial
    conv=>whnf
    exact Rel.lay [(24, 1), (31, 2), (39, 3), (40, 4), (41, 5), (42, 6), (43, 7), (44, 8), (45, 9), (46, 10), (47, 11), (48, 12), (49, 13), (50, 14), (51, 15), (52, 16), (53, 17), (54, 18), (55, 19), (56, 20), (57, 21), (58, 22), (59, 23), (60, 24), (61, 25), (62, 26), (63, 27), (64, 28), (65, 29), (66, 30)] (by kernel_rfl) (by repeat constructor) (by repeat constructor)
@[reducible] def rho2 : List Nat := [0, 77, 78, 79, 80, 81, 82, 83, 84, 85, 86, 87, 88, 89, 90, 91, 92, 93, 94, 95, 96, 97, 98, 99, 24, 101, 102, 103, 104, 29, 106, 107, 108, 109, 110, 111, 112, 113, 114, 115, 116, 117, 118, 119, 120, 121, 122, 123, 124, 125, 126, 127, 128, 129, 130, 131, 132, 133, 134, 135, 136, 137, 138, 139, 140, 141, 142, 143, 144, 145, 146, 147, 148, 149, 150, 151]
@[reducible] def rhoM : List Nat := [0, 77, 78, 79, 80, 81, 82, 83, 84, 85, 86, 87, 88, 89, 90, 91, 92, 93, 94, 95, 96, 97, 98, 99, 24, 101, 102, 103, 104, 29, 106, 107, 108, 109, 110, 111, 112, 113]
@[reducible] def rhoS : List Nat := [107, 115, 116, 117, 118, 119, 120, 121, 122, 123, 124, 125, 126, 127, 128, 129, 130, 131, 132, 133, 134, 135, 136, 137, 138, 139, 140, 141, 142, 29, 106, 145, 146, 147, 148, 149, 150, 151]
@[reducible] def al2 : List (Nat × Nat) := [(77, 1), (78, 2), (79, 3), (80, 4), (81, 5), (82, 6), (83, 7), (84, 8), (85, 9), (86, 10), (87, 11), (88, 12), (89, 13), (90, 14), (91, 15), (92, 16), (93, 17), (94, 18), (95, 19), (96, 20), (97, 21), (98, 22), (99, 23), (101, 25), (102, 26), (103, 27), (104, 28), (106, 30), (107, 31), (108, 32), (109, 33), (110, 34), (111, 35), (112, 36), (113, 37), (114, 38), (115, 39), (116, 40), (117, 41), (118, 42), (119, 43), (120, 44), (121, 45), (122, 46), (123, 47), (124, 48), (125, 49), (126, 50), (127, 51), (128, 52), (129, 53), (130, 54), (131, 55), (132, 56), (133, 57), (134, 58), (135, 59), (136, 60), (137, 61), (138, 62), (139, 63), (140, 64), (141, 65), (142, 66), (143, 67), (144, 68), (145, 69), (146, 70), (147, 71), (148, 72), (149, 73), (150, 74), (151, 75)]
@[reducible] def alM : List (Nat × Nat) := [(77, 153), (78, 154), (79, 155), (80, 156), (85, 161), (86, 162), (87, 163), (88, 164), (89, 165), (90, 166), (91, 167), (92, 168), (93, 169), (94, 170), (95, 171), (96, 172), (97, 173), (98, 174), (99, 175), (101, 177), (102, 178), (103, 179), (104, 180), (106, 182)]
@[reducible] def alS : List (Nat × Nat) := [(115, 153), (116, 154), (117, 155), (118, 156), (123, 161), (124, 162), (125, 163), (126, 164), (127, 165), (128, 166), (129, 167), (130, 168), (131, 169), (132, 170), (133, 171), (134, 172), (135, 173), (136, 174), (137, 175), (139, 177), (140, 178), (141, 179), (142, 180), (106, 182)]
@[reducible] def alB : List (Nat × Nat) := [(77, 153), (78, 154), (79, 155), (80, 156), (81, 157), (82, 158), (83, 159), (84, 160), (85, 161), (86, 162), (87, 163), (88, 164), (89, 165), (90, 166), (91, 167), (92, 168), (93, 169), (94, 170), (95, 171), (96, 172), (97, 173), (98, 174), (99, 175), (101, 177), (102, 178), (103, 179), (104, 180), (106, 182), (107, 183), (108, 184), (109, 185), (110, 186), (111, 187), (112, 188), (113, 189), (114, 190), (115, 191), (116, 192), (117, 193), (118, 194), (119, 195), (120, 196), (121, 197), (122, 198), (123, 199), (124, 200), (125, 201), (126, 202), (127, 203), (128, 204), (129, 205), (130, 206), (131, 207), (132, 208), (133, 209), (134, 210), (135, 211), (136, 212), (137, 213), (138, 214), (139, 215), (140, 216), (141, 217), (142, 218), (143, 219), (144, 220), (145, 221), (146, 222), (147, 223), (148, 224), (149, 225), (150, 226), (151, 227)]
@[reducible] def N38 : List (Nat × Nat) := [(1, 39), (2, 40), (3, 41), (4, 42), (5, 43), (6, 44), (7, 45), (8, 46), (9, 47), (10, 48), (11, 49), (12, 50), (13, 51), (14, 52), (15, 53), (16, 54), (17, 55), (18, 56), (19, 57), (20, 58), (21, 59), (22, 60), (23, 61), (24, 62), (25, 63), (26, 64), (27, 65), (28, 66)]
@[reducible] def N38' : List (Nat × Nat) := [(1, 39), (2, 40), (3, 41), (4, 42), (5, 43), (6, 44), (7, 45), (8, 46), (9, 47), (10, 48), (11, 49), (12, 50), (13, 51), (14, 52), (15, 53), (16, 54), (17, 55), (18, 56), (19, 57), (20, 58), (21, 59), (22, 60), (23, 61), (24, 62), (25, 63), (26, 64), (27, 65), (28, 76)]
theorem f123a (a : Nat) (q : Nat × Nat) (D : Dec) (Z : Nat → Buf) :
    FnS 123 [.c (.p 0 0)] (lay [(0, .st (cellsP .np .any [] a q D Z))] 38) fun v l' => v = .tu [] ∧ l' = lay [(0, .st (cellsP .np .any [(28, 38)] a q { D with hav := false, voi := false, lag := 100, gain := 10 } (setZ Z 28 nilB))), (38, .ar false .i16 [])] 39 := by
  refine FnS.behind (K := fun v l' => v = .tu [] ∧ l' = lay [(0, .st ((cellsP .np .any [] a q { D with hav := false, voi := false, lag := 100, gain := 10 } Z).set 12 .nsl))] 38) ?_ ?_
  · refine FnS.wpR (b := 38) Proofs.Tryz.f123 rfl rfl rfl rfl rfl rfl ?_
    refine WpN.vc ?_
    conv=>whnf
    exact ⟨[], .tu [], lay [(0, .st ((cellsP .np .any [] a q { D with hav := false, voi := false, lag := 100, gain := 10 } Z).set 12 .nsl))] 38, rfl, by kernel_rfl, stEq_lay (by repeat constructor) 38 0, rfl, rfl⟩
  · rintro v l' ⟨rfl, rfl⟩
    refine ⟨_, _, ⟨rfl, rfl⟩, RelM.of_rel rfl rfl (by rw [lay_len, lay_len]; decide) (by rw [lay_len, lay_len]; decide) ?_⟩
    refine Rel.trans (Rel.nilAt (nm := 0) (i := 12) (y := .ar false .i16 []) rfl rfl rfl (fun m h => by cases h)) ?_
    exact Rel.lay (k := 39) [] (E := [(0, .tu [])]) (by kernel_rfl) (by repeat constructor) (by repeat constructor)
theorem f95a (a : Nat) (q : Nat × Nat) (D : Dec) (Z : Nat → Buf) (a' : Nat) (q' : Nat × Nat) (D' : Dec) (Z' : Nat → Buf) :
    FnS 95 [.c (.p 0 0)] (lay [(0, .st (cellsP (.p 31 0) (.p 29 0) [] a q D Z)), (31, .st (cellsP .np .any N38 a' q' D' Z'))] 76) fun v l' => v = .tu [] ∧
      l' = lay [(0, .st (cellsP (.p 31 0) (.p 29 0) [] a q D Z)), (31, .st (cellsP .np .any N38' a' q' { D' with hav := false, voi := false, lag := 100, gain := 10 } (setZ Z' 28 nilB))), (76, .ar false .i16 [])] 77 := by
  refine FnS.wpR (b := 76) Proofs.Tryz.f95 rfl rfl rfl rfl rfl rfl ?_
  refine WpN.seq (WpN.vc ?_)
  conv=>whnf
  repeat' first|(refine Lt (by decide) ?_;conv=>whnf)|(refine Lf (by decide) ?_;conv=>whnf)|fail
  refine WpN.vc ?_
  conv=>whnf
  refine CallQ.useF [31, 39, 40, 41, 42, 43, 44, 45, 46, 47, 48, 49, 50, 51, 52, 53, 54, 55, 56, 57, 58, 59, 60, 61, 62, 63, 64, 65, 66, 29, 30, 69, 70, 71, 72, 73, 74, 75] (f123a a' q' D' Z') rfl (by kernel_rfl) (stEq_lay (by repeat constructor) 38 0) ?_
  rintro v l' ⟨rfl, rfl⟩
  conv=>whnf
  exact ⟨[], .tu [], lay [(0, .st (cellsP (.p 31 0) (.p 29 0) [] a q D Z)), (31, .st (cellsP .np .any N38' a' q' { D' with hav := false, voi := false, lag := 100, gain := 10 } (setZ Z' 28 nilB))), (76, .ar false .i16 [])] 77, rfl, by kernel_rfl, stEq_lay (by repeat constructor) 77 0, rfl, rfl⟩
theorem f123p (a : Nat) (q : Nat × Nat) (D : Dec) (Z : Nat → Buf) :
    FnS 123 [.c (.p 0 0)] (lay [(0, .st (cellsP .np (.p 29 0) [] a q D Z))] 38) fun v l' => v = .tu [] ∧ l' = lay [(0, .st (cellsP .np (.p 29 0) [(28, 38)] a q { D with hav := false, voi := false, lag := 100, gain := 10 } (setZ Z 28 nilB))), (38, .ar false .i16 [])] 39 := by
  refine FnS.behind (K := fun v l' => v = .tu [] ∧ l' = lay [(0, .st ((cellsP .np (.p 29 0) [] a q { D with hav := false, voi := false, lag := 100, gain := 10 } Z).set 12 .nsl))] 38) ?_ ?_
  · refine FnS.wpR (b := 38) Proofs.Tryz.f123 rfl rfl rfl rfl rfl rfl ?_
    refine WpN.vc ?_
    conv=>whnf
    exact ⟨[], .tu [], lay [(0, .st ((cellsP .np (.p 29 0) [] a q { D with hav := false, voi := false, lag := 100, gain := 10 } Z).set 12 .nsl))] 38, rfl, by kernel_rfl, stEq_lay (by repeat constructor) 38 0, rfl, rfl⟩
  · rintro v l' ⟨rfl, rfl⟩
    refine ⟨_, _, ⟨rfl, rfl⟩, RelM.of_rel rfl rfl (by rw [lay_len, lay_len]; decide) (by rw [lay_len, lay_len]; decide) ?_⟩
    refine Rel.trans (Rel.nilAt (nm := 0) (i := 12) (y := .ar false .i16 []) rfl rfl rfl (fun m h => by cases h)) ?_
    exact Rel.lay (k := 39) [] (E := [(0, .tu [])]) (by kernel_rfl) (by repeat constructor) (by repeat constructor)
theorem f95p (a : Nat) (q : Nat × Nat) (D : Dec) (Z : Nat → Buf) (a' : Nat) (q' : Nat × Nat) (D' : Dec) (Z' : Nat → Buf) :
    FnS 95 [.c (.p 0 0)] (lay [(0, .st (cellsP (.p 31 0) (.p 29 0) [] a q D Z)), (31, .st (cellsP .np (.p 29 0) N38 a' q' D' Z'))] 76) fun v l' => v = .tu [] ∧
      l' = lay [(0, .st (cellsP (.p 31 0) (.p 29 0) [] a q D Z)), (31, .st (cellsP .np (.p 29 0) N38' a' q' { D' with hav := false, voi := false, lag := 100, gain := 10 } (setZ Z' 28 nilB))), (76, .ar false .i16 [])] 77 := by
  refine FnS.wpR (b := 76) Proofs.Tryz.f95 rfl rfl rfl rfl rfl rfl ?_
  refine WpN.seq (WpN.vc ?_)
  conv=>whnf
  repeat' first|(refine Lt (by decide) ?_;conv=>whnf)|(refine Lf (by decide) ?_;conv=>whnf)|fail
  refine WpN.vc ?_
  conv=>whnf
  refine CallQ.useF [31, 39, 40, 41, 42, 43, 44, 45, 46, 47, 48, 49, 50, 51, 52, 53, 54, 55, 56, 57, 58, 59, 60, 61, 62, 63, 64, 65, 66, 29, 30, 69, 70, 71, 72, 73, 74, 75] (f123p a' q' D' Z') rfl (by kernel_rfl) (stEq_lay (by repeat constructor) 38 0) ?_
  rintro v l' ⟨rfl, rfl⟩
  conv=>whnf
  exact ⟨[], .tu [], lay [(0, .st (cellsP (.p 31 0) (.p 29 0) [] a q D Z)), (31, .st (cellsP .np (.p 29 0) N38' a' q' { D' with hav := false, voi := false, lag := 100, gain := 10 } (setZ Z' 28 nilB))), (76, .ar false .i16 [])] 77, rfl, by kernel_rfl, stEq_lay (by repeat constructor) 77 0, rfl, rfl⟩
def Dec.rcOf (D D1 : Dec) : Dec := { D with data := D1.data, b := D1.b, r := D1.r, n := D1.n, s := D1.s, h := D1.h }
theorem Dec.Ok.rcOf {D D1 : Dec} (h : D1.Ok) (hg : 0 ≤ D.gain ∧ D.gain ≤ 63) : (D.rcOf D1).Ok := ⟨h.rc, hg⟩
def PostT (se : C) (k : Nat) (recs : List (List C)) (v : V) (l' : List (Option B)) : Prop :=
  ∃ (m e : Ch) (recs' : List (List C)), m.Ok ∧ e.Sk ∧ More k recs recs' ∧ v = .c (.kv .nilIface) ∧ l' = lay (twoH se m e recs') 152
theorem PostT.of {se : C} {k : Nat} {recs recs' : List (List C)} {m e : Ch} {F : Nat → Buf} (hm : m.Ok) (he : e.Sk) (hr : More k recs recs') (hF : Fl m.Z F) : PostT se k recs (.c (.kv .nilIface)) (lay (twoF se m e recs' F) 152) :=
  ⟨m, e, recs', hm, he, hr, rfl, by rw [twoF_eq hF]⟩
def tlC : Nat → Code → Code
  | 0, c => c
  | k + 1, c => sndC (tlC k c)
noncomputable def b93 : Code := match Proofs.Tryz.f93.body with | some c => c | none => .skip
theorem f93_3 (m e : Ch) (recs : List (List C)) (F : Nat → Buf) (recs0 : List (List C)) (mid side im is : Bool) (ns bw : Int) (hm : m.Ok) (he : e.Sk) (hF : Fl m.Z F) (hr : More 1 recs0 recs) (h3 : recs0.length < 1000) (hb : bw = 1 ∨ bw = 2 ∨ bw = 3) (hns : ns = 10000000 ∨ ns = 20000000) :
    WpN 76 89 (tlC 3 b93) (mkE [(0, .c (.p 0 0)), (1, .c (.b mid)), (2, .c (.b side)), (4, .c (.b im)), (5, .c (.b is)), (6, .c (.i .i64 ns)), (7, .c (.i .u8 bw))]) (mkS (lay (twoF (.p 29 0) m e recs F) 152)) 152 (EndR Proofs.Tryz.f93.results.toList 76 89 (PostT (.p 29 0) 2 recs0)) := by
  have hrl := hr.len
  refine WpN.seq (WpN.vc ?_)
  conv=>whnf
  cases side
  · conv=>whnf
    repeat' first|(refine Lt (by decide) ?_;conv=>whnf)|(refine Lf (by decide) ?_;conv=>whnf)|fail
    exact ⟨[], .c (.kv .nilIface), lay (twoF (.p 29 0) m e recs F) 152, rfl, by kernel_rfl, stEq_lay (by repeat constructor) 152 0, .of hm he (hr.le (by decide)) hF⟩
  conv=>whnf
  repeat' first|(refine Lt (by decide) ?_;conv=>whnf)|(refine Lf (by decide) ?_;conv=>whnf)|fail
  refine WpN.seq (WpN.vc ?_)
  conv=>whnf
  refine .inl ⟨by kernel_rfl, ?_⟩
  conv=>whnf
  refine WpN.weaken (s := mkSt [(0, .c (.p 0 0)), (5, .c (.b is)), (6, .c (.i .i64 ns)), (7, .c (.i .u8 bw))] (lay (twoF (.p 29 0) m ⟨e.D.rcOf m.D, e.Z, e.c, e.a⟩ recs F) 152) 89) (Rel.lay [] (by kernel_rfl) (by repeat constructor) (by repeat' (first | exact trivial | refine And.intro ?_ ?_ | kernel_rfl))) rfl ?_
  refine WpN.cut (ι := Ch × List (List C)) (fun _=>[(0, .c (.p 0 0))]) (fun x => lay (twoF (.p 29 0) m x.1 x.2 F) 152) (fun x => x.1.Ok ∧ More 2 recs0 x.2) (WpN.vc ?_) ?_
  · conv=>whnf
    refine CallQ.useF rhoS (f94 false e.c e.a (e.D.rcOf m.D) e.Z recs _ _ _ ns bw (hm.d.rcOf he.g) he.n he.c (by omega) hb hns) rfl (by kernel_rfl) (stEq_lay (by repeat constructor) 38 0) ?_
    rintro v l' ⟨D, Z, c, a, r, hD, _, hn28, hc4, hro, rfl, rfl⟩
    conv=>whnf
    repeat' first|(refine Lt (by decide) ?_;conv=>whnf)|(refine Lf (by decide) ?_;conv=>whnf)|fail
    exact ⟨(⟨D, Z, c, a⟩, recs ++ [r]), ⟨⟨hD, hn28, hc4⟩, hr.one hro⟩, (Rel.lay alS (by kernel_rfl) (by repeat constructor) (by repeat' (first | exact trivial | refine And.intro ?_ ?_ | kernel_rfl)))⟩
  clear hr hrl
  rintro ⟨e2, rs⟩ ⟨he2, hr⟩
  dsimp only at he2 hr ⊢
  refine WpN.vc ?_
  conv=>whnf
  exact ⟨[], .c (.kv .nilIface), lay (twoF (.p 29 0) ⟨m.D.rcOf e2.D, m.Z, m.c, m.a⟩ e2 rs F) 152, rfl, by kernel_rfl, stEq_lay (by repeat constructor) 152 0, .of ⟨he2.d.rcOf hm.d.gain, hm.n, hm.c⟩ he2.sk hr hF⟩
theorem f93_2 (m e : Ch) (recs : List (List C)) (F : Nat → Buf) (mid side im is : Bool) (ns bw : Int) (hm : m.Ok) (he : e.Sk) (hF : Fl m.Z F) (h3 : recs.length < 1000) (hb : bw = 1 ∨ bw = 2 ∨ bw = 3) (hns : ns = 10000000 ∨ ns = 20000000) :
    WpN 76 89 (tlC 2 b93) (mkE [(0, .c (.p 0 0)), (1, .c (.b mid)), (2, .c (.b side)), (4, .c (.b im)), (5, .c (.b is)), (6, .c (.i .i64 ns)), (7, .c (.i .u8 bw))]) (mkS (lay (twoF (.p 29 0) m e recs F) 152)) 152 (EndR Proofs.Tryz.f93.results.toList 76 89 (PostT (.p 29 0) 2 recs)) := by
  refine WpN.cut (ι := Ch × List (List C)) (fun _=>[(0, .c (.p 0 0)), (1, .c (.b mid)), (2, .c (.b side)), (4, .c (.b im)), (5, .c (.b is)), (6, .c (.i .i64 ns)), (7, .c (.i .u8 bw))]) (fun x => lay (twoF (.p 29 0) x.1 e x.2 F) 152) (fun x => x.1.Ok ∧ Fl x.1.Z F ∧ More 1 recs x.2) (WpN.vc ?_) ?_
  · conv=>whnf
    cases mid
    · conv=>whnf
      repeat' first|(refine Lt (by decide) ?_;conv=>whnf)|(refine Lf (by decide) ?_;conv=>whnf)|fail
      exact ⟨(m, recs), ⟨hm, hF, (More.refl recs).le (by decide)⟩, (Rel.lay [] (by kernel_rfl) (by repeat constructor) (by repeat' (first | exact trivial | refine And.intro ?_ ?_ | kernel_rfl)))⟩
    · conv=>whnf
      repeat' first|(refine Lt (by decide) ?_;conv=>whnf)|(refine Lf (by decide) ?_;conv=>whnf)|fail
      refine CallQ.useF rhoM (f94 true m.c m.a m.D m.Z recs _ _ _ ns bw hm.d hm.n hm.c (by omega) hb hns) rfl (by kernel_rfl) (stEq_lay (by repeat constructor) 38 0) ?_
      rintro v l' ⟨D, Z, c, a, r, hD, hF1, hn28, hc4, hro, rfl, rfl⟩
      conv=>whnf
      repeat' first|(refine Lt (by decide) ?_;conv=>whnf)|(refine Lf (by decide) ?_;conv=>whnf)|fail
      exact ⟨(⟨D, Z, c, a⟩, recs ++ [r]), ⟨⟨hD, hn28, hc4⟩, hF1.trans hF, (More.refl recs).one hro⟩, (Rel.lay alM (by kernel_rfl) (by repeat constructor) (by repeat' (first | exact trivial | refine And.intro ?_ ?_ | kernel_rfl)))⟩
  rintro ⟨m2, rs⟩ ⟨hm2, hF2, hr⟩
  exact f93_3 m2 e rs F recs mid side im is ns bw hm2 he hF2 hr h3 hb hns
theorem f93 (m e : Ch) (recs : List (List C)) (mid side st im is : Bool) (ns bw : Int) (hm : m.Ok) (he : e.Sk) (h3 : recs.length < 1000) (hb : bw = 1 ∨ bw = 2 ∨ bw = 3) (hns : ns = 10000000 ∨ ns = 20000000) :
    FnS 93 [.c (.p 0 0), .c (.b mid), .c (.b side), .c (.b st), .c (.b im), .c (.b is), .c (.i .i64 ns), .c (.i .u8 bw)] (lay (twoL (.p 29 0) m e recs) 76) (PostT (.p 29 0) 2 recs) := by
  refine FnS.wpR (b := 76) (c := b93) Proofs.Tryz.f93 rfl rfl rfl rfl rfl rfl ?_
  refine WpN.seq (WpN.vc ?_)
  conv=>whnf
  refine WpN.weaken (s := mkSt [(0, .c (.p 0 0)), (1, .c (.b mid)), (2, .c (.b side)), (3, .c (.b st)), (4, .c (.b im)), (5, .c (.b is)), (6, .c (.i .i64 ns)), (7, .c (.i .u8 bw))] (lay (twoF (.p 29 0) m e recs m.Z) 152) 89) (Rel.lay al2 (by kernel_rfl) (by repeat constructor) (by repeat' (first | exact trivial | refine And.intro ?_ ?_ | kernel_rfl))) rfl ?_
  refine WpN.cut (ι := Dec) (fun _=>[(0, .c (.p 0 0)), (1, .c (.b mid)), (2, .c (.b side)), (4, .c (.b im)), (5, .c (.b is)), (6, .c (.i .i64 ns)), (7, .c (.i .u8 bw))]) (fun D => lay (twoF (.p 29 0) ⟨D, m.Z, m.c, m.a⟩ e recs m.Z) 152) (fun D => D.Ok) (WpN.vc ?_) ?_
  · conv=>whnf
    cases mid
    · conv=>whnf
      repeat' first|(refine Lt (by decide) ?_;conv=>whnf)|(refine Lf (by decide) ?_;conv=>whnf)|fail
      exact ⟨m.D, hm.d, (Rel.lay [] (by kernel_rfl) (by repeat constructor) (by repeat' (first | exact trivial | refine And.intro ?_ ?_ | kernel_rfl)))⟩
    · cases st
      · conv=>whnf
        repeat' first|(refine Lt (by decide) ?_;conv=>whnf)|(refine Lf (by decide) ?_;conv=>whnf)|fail
        exact ⟨m.D, hm.d, (Rel.lay [] (by kernel_rfl) (by repeat constructor) (by repeat' (first | exact trivial | refine And.intro ?_ ?_ | kernel_rfl)))⟩
      · conv=>whnf
        repeat' first|(refine Lt (by decide) ?_;conv=>whnf)|(refine Lf (by decide) ?_;conv=>whnf)|fail
        refine CallQ.use0 (f96 _ _ _ _ _ _ _ hm.d.rc) (by rfl) ?_
        rintro v b' ⟨x, y, b, nn, s', h, rfl, _, hr, rfl⟩
        conv=>whnf
        cases side
        · conv=>whnf
          repeat' first|(refine Lt (by decide) ?_;conv=>whnf)|(refine Lf (by decide) ?_;conv=>whnf)|fail
          refine CallQ.use0 (f97 _ _ _ _ _ _ _ hr) (by rfl) ?_
          rintro v b' ⟨z, b, nn, s', h, rfl, _, hr, rfl⟩
          conv=>whnf
          exact ⟨{ m.D with b := b, n := nn, s := s', h := h, w0 := x, w1 := y, wei := true, mo := z }, ⟨hr, hm.d.gain⟩, (Rel.lay [] (by kernel_rfl) (by repeat constructor) (by repeat' (first | exact trivial | refine And.intro ?_ ?_ | kernel_rfl)))⟩
        · conv=>whnf
          repeat' first|(refine Lt (by decide) ?_;conv=>whnf)|(refine Lf (by decide) ?_;conv=>whnf)|fail
          exact ⟨{ m.D with b := b, n := nn, s := s', h := h, w0 := x, w1 := y, wei := true, mo := false }, ⟨hr, hm.d.gain⟩, (Rel.lay [] (by kernel_rfl) (by repeat constructor) (by repeat' (first | exact trivial | refine And.intro ?_ ?_ | kernel_rfl)))⟩
  intro D hD
  exact f93_2 ⟨D, m.Z, m.c, m.a⟩ e recs m.Z mid side im is ns bw ⟨hD, hm.n, hm.c⟩ he (.refl _) h3 hb hns
end Go.SX
