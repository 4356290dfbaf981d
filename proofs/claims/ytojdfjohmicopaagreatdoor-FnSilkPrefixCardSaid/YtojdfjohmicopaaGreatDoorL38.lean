/- A part of the proof: the SILK decoder of the given program, walked by an executor that is proved sound. No statement of the program is proved in this text. -/
import Derived.Test.YtojdfjohmicopaaGreatDoorL37
set_option linter.all false
set_option maxRecDepth 100000
namespace Go.SX
open Go
theorem Den.nil_ibs {X : Ctx} {u : Value} (h : Den X .nsl u) : Den X (.ibs []) u := by cases h; exact .ibs0
theorem y7_4 {Q : Exit → (Nat → Option V) → (Nat → Option B) → Nat → Prop} (l : List Fi) (j : Nat) (m e : Ch) (td : List (List C)) (x : Fi) (hx : x.Ok) (rs : List (List C))
    (T : ∀ sv sa : List Bool, sv = (match x.st with | true => (flg (m.Z 6).ys (m.Z 6).cap x.n) | false => []) → sa = (match x.st with | true => (flg (m.Z 8).ys (m.Z 8).cap x.n) | false => []) → WpN 0 102 (tlC 8 y7) (mkE (eI l j [(6, .c (.p 79 0)), (7, .c (.irs 24 rs)), (15, .c (.p 81 0))])) (mkS (lay ((79, .st (rowC x)) :: (81, .st [.ibs (flg (m.Z 5).ys (m.Z 5).cap x.n), .ibs sv, .ibs (flg (m.Z 7).ys (m.Z 7).cap x.n), .ibs sa, .osl 82 0, .i .u32 m.D.s, .i .i64 (IntKind.i64.wrap (tel m.D))]) :: (82, .rs true 24 []) :: mem7 m e td) 83)) 83 Q) :
    WpN 0 102 (tlC 4 y7) (mkE (eI l j [(6, .c (.p 79 0)), (7, .c (.irs 24 rs)), (8, .c (.p 80 0))])) (mkS (lay ((79, .st (rowC x)) :: (80, .st (rc6 m.D)) :: mem7 m e td) 81)) 81 Q := by
  refine WpN.cut (ι := Unit) (fun _=>(eI l j [(6, .c (.p 79 0)), (7, .c (.irs 24 rs)), (8, .c (.p 80 0)), (10, .c (.sl 5 0 (m.Z 5).cap (m.Z 5).cap)), (11, .c (.sl 6 0 (m.Z 6).cap (m.Z 6).cap)), (12, .c (.sl 7 0 (m.Z 7).cap (m.Z 7).cap)), (13, .c (.sl 8 0 (m.Z 8).cap (m.Z 8).cap))])) (fun _=>lay ((79, .st (rowC x)) :: (80, .st (rc6 m.D)) :: mem7 m e td) 81) (fun _=>True) (WpN.vc ?_) ?_
  · conv=>whnf
    refine CallQ.useF [0, 1, 2, 3, 4, 5, 6, 7, 8, 9, 10, 11, 12, 13, 14, 15, 16, 17, 18, 19, 20, 21, 22, 23, 24, 25, 26, 27, 28, 29, 30, 31, 32, 33, 34, 35, 36, 37] (f15 m.a (m.c, m.c) m.D m.Z) rfl (by kernel_rfl) (stEq_lay (by repeat' (first | exact trivial | refine And.intro ?_ ?_ | kernel_rfl)) 38 0) ?_
    rintro v l' ⟨rfl, rfl⟩
    conv=>whnf
    exact ⟨(), trivial, (Rel.lay [] (by kernel_rfl) (by repeat constructor) (by repeat' (first | exact trivial | refine And.intro ?_ ?_ | kernel_rfl)))⟩
  intro _ _
  refine WpN.cut (ι := Int) (fun n => (eI l j [(6, .c (.p 79 0)), (7, .c (.irs 24 rs)), (8, .c (.p 80 0)), (10, .c (.sl 5 0 (m.Z 5).cap (m.Z 5).cap)), (11, .c (.sl 6 0 (m.Z 6).cap (m.Z 6).cap)), (12, .c (.sl 7 0 (m.Z 7).cap (m.Z 7).cap)), (13, .c (.sl 8 0 (m.Z 8).cap (m.Z 8).cap)), (14, .c (.i .i64 n))])) (fun _=>lay ((79, .st (rowC x)) :: (80, .st (rc6 m.D)) :: mem7 m e td) 81) (fun n => n = x.n) (WpN.vc ?_) ?_
  · have hms := hx.ms
    conv=>whnf
    have hn : (if IntKind.i64.wrap (x.ms.tdiv 20) > 1 then IntKind.i64.wrap (x.ms.tdiv 20) else 1) = (x.n : Int) := by
      unfold Fi.n
      rcases hms with h | h | h | h <;> rw [h] <;> decide
    refine And.intro (by decide) ?_
    conv=>whnf
    exact ⟨_, hn, (Rel.lay [] (by kernel_rfl) (by repeat constructor) (by repeat' (first | exact trivial | refine And.intro ?_ ?_ | kernel_rfl)))⟩
  rintro _ rfl
  refine WpN.cut (ι := Unit) (fun _=>(eI l j [(6, .c (.p 79 0)), (7, .c (.irs 24 rs)), (8, .c (.p 80 0)), (10, .c (.sl 5 0 (m.Z 5).cap (m.Z 5).cap)), (11, .c (.sl 6 0 (m.Z 6).cap (m.Z 6).cap)), (12, .c (.sl 7 0 (m.Z 7).cap (m.Z 7).cap)), (13, .c (.sl 8 0 (m.Z 8).cap (m.Z 8).cap)), (14, .c (.i .i64 x.n)), (15, .c (.p 81 0))])) (fun _=>lay ((79, .st (rowC x)) :: (81, .st [.ibs (flg (m.Z 5).ys (m.Z 5).cap x.n), .nsl, .ibs (flg (m.Z 7).ys (m.Z 7).cap x.n), .nsl, .nsl, .i .u32 m.D.s, .i .i64 (IntKind.i64.wrap (tel m.D))]) :: mem7 m e td) 82) (fun _=>True) (WpN.vc ?_) ?_
  · conv=>whnf
    refine CallQ.use [5] (flg_ok (m.Z 5).okb x.n_le).1 rfl rfl ⟨rfl, trivial⟩ ?_
    rintro v l' ⟨rfl, rfl⟩
    conv=>whnf
    refine CallQ.use [7] (flg_ok (m.Z 7).okb x.n_le).1 rfl rfl ⟨rfl, trivial⟩ ?_
    rintro v l' ⟨rfl, rfl⟩
    conv=>whnf
    refine CallQ.use [80] (f17s m.D) rfl rfl ⟨rfl, trivial⟩ ?_
    rintro v l' ⟨rfl, rfl⟩
    conv=>whnf
    refine CallQ.use [80] (tel_ok m.D) rfl rfl ⟨rfl, trivial⟩ ?_
    rintro v l' ⟨rfl, rfl⟩
    conv=>whnf
    exact ⟨(), trivial, (Rel.lay [] (by kernel_rfl) (by repeat constructor) (by repeat' (first | exact trivial | refine And.intro ?_ ?_ | kernel_rfl)))⟩
  intro _ _
  refine WpN.seq (WpN.vc ?_)
  conv=>whnf
  refine ⟨fun h => ?_, fun h => ?_⟩
  · conv=>whnf
    refine CallQ.use [6] (flg_ok (m.Z 6).okb x.n_le).1 rfl rfl ⟨rfl, trivial⟩ ?_
    rintro v l' ⟨rfl, rfl⟩
    conv=>whnf
    refine CallQ.use [8] (flg_ok (m.Z 8).okb x.n_le).1 rfl rfl ⟨rfl, trivial⟩ ?_
    rintro v l' ⟨rfl, rfl⟩
    conv=>whnf
    refine WpN.weaken (s := ⟨mkE (eI l j [(6, .c (.p 79 0)), (7, .c (.irs 24 rs)), (15, .c (.p 81 0))]), _, 83, 102⟩) ?_ rfl (T (flg (m.Z 6).ys (m.Z 6).cap x.n) (flg (m.Z 8).ys (m.Z 8).cap x.n) (by rw [h]) (by rw [h]))
    refine Rel.trans (Rel.nilO (nm := 81) (i := 4) (y := .rs true 24 []) rfl rfl rfl (fun m h => by cases h)) ?_
    exact Rel.lay (k := 83) [] (E := (eI l j [(6, .c (.p 79 0)), (7, .c (.irs 24 rs)), (15, .c (.p 81 0))])) (by kernel_rfl) (by repeat constructor) (by repeat' (first | exact trivial | refine And.intro ?_ ?_ | kernel_rfl))
  · conv=>whnf
    refine WpN.weaken (s := ⟨mkE (eI l j [(6, .c (.p 79 0)), (7, .c (.irs 24 rs)), (15, .c (.p 81 0))]), _, 83, 102⟩) ?_ rfl (T [] [] (by rw [h]) (by rw [h]))
    refine Rel.trans (Rel.nilO (nm := 81) (i := 4) (y := .rs true 24 []) rfl rfl rfl (fun m h => by cases h)) ?_
    refine Rel.trans (Rel.tellC (nm := 81) (i := 1) (c := .nsl) (.ibs []) rfl rfl (fun _ _ h => h.nil_ibs) (fun _ h => h)) ?_
    refine Rel.trans (Rel.tellC (nm := 81) (i := 3) (c := .nsl) (.ibs []) rfl rfl (fun _ _ h => h.nil_ibs) (fun _ h => h)) ?_
    exact Rel.lay (k := 83) [] (E := (eI l j [(6, .c (.p 79 0)), (7, .c (.irs 24 rs)), (15, .c (.p 81 0))])) (by kernel_rfl) (by repeat constructor) (by repeat' (first | exact trivial | refine And.intro ?_ ?_ | kernel_rfl))
noncomputable def i7 : Code := inC (inC (sndC (fstC (tlC 8 y7))))
theorem y7_8 {Q : Exit → (Nat → Option V) → (Nat → Option B) → Nat → Prop} (l : List Fi) (j : Nat) (m e : Ch) (td : List (List C)) (x : Fi) (rs : List (List C)) (hrs : rs.length ≤ 12) (hro : ∀ r ∈ rs, RecOk r) (va sv ag sa : List Bool) (rg tl : Int) (htd : td.length ≤ 1000000)
    (T : ∀ e' st' nx', Rel 0 ⟨e', st', nx', 102⟩ (mkSt (eI l j []) (lay (mem7 m e (td ++ [tdC va sv ag sa (rs.map fr) rg tl])) 79) 102) → Q .normal e' st' nx') :
    WpN 0 102 (tlC 8 y7) (mkE (eI l j [(6, .c (.p 79 0)), (7, .c (.irs 24 rs)), (15, .c (.p 81 0))])) (mkS (lay ((79, .st (rowC x)) :: (81, .st [.ibs va, .ibs sv, .ibs ag, .ibs sa, .osl 82 0, .i .u32 rg, .i .i64 tl]) :: (82, .rs true 24 []) :: mem7 m e td) 83)) 83 Q := by
  refine WpN.seq (WpN.vc ?_)
  conv=>whnf
  refine WpS.loop (ι := Nat) (fun i => mkSt (eI l j [(6, .c (.p 79 0)), (15, .c (.p 81 0)), (82, .c (.irs 24 rs)), (83, .c (.i .i64 rs.length)), (84, .c (.i .i64 i))]) (lay ((79, .st (rowC x)) :: (81, .st [.ibs va, .ibs sv, .ibs ag, .ibs sa, .osl 82 i, .i .u32 rg, .i .i64 tl]) :: (82, .rs true 24 ((rs.take i).map fr)) :: mem7 m e td) 83) 102) (fun i => i ≤ rs.length) (fun i => rs.length - i) 0 (Nat.zero_le _) (Rel.lay [] (by kernel_rfl) (by repeat constructor) (by repeat' (first | exact trivial | refine And.intro ?_ ?_ | kernel_rfl))) ?_
  intro i hi
  refine VC_ok ?_
  conv=>whnf
  refine ⟨fun hc => ?_, fun hc => ?_⟩
  · have hc : i < rs.length := by have := of_decide_eq_true hc; omega
    have hr1 : RecOk (rs.getD i []) := getD_in hro hc
    obtain ⟨⟨hF, _⟩, c1, c2, c3, c4, u0, u1, k, o, gs2, i2, ra2, na2, ma2, w2, fs2, mx2, lg2, ts2, sc2, sd2, rl2, ps2, ls2, es2, hy, _⟩ := fr_ok hr1
    obtain ⟨red, sid, wei, mo, w0, w1, kind, off, gs, i1, ra, na, ma, w, fs, mx, lg, tp, ts, ltp, seed, rl, ps, ls, es, hrc, _, _, _, _, htp, _⟩ := hr1
    have hmap := take_mapL (f := fr) (d := ([] : List C)) hc
    rw [hy] at hmap
    rw [hy, hrc] at hF
    rcases htp with rfl | ⟨rfl, rfl⟩
    · conv=>whnf
      refine And.intro (by omega) ?_
      rw [Int.toNat_natCast, hrc]
      conv=>whnf
      refine And.intro rfl ?_
      conv=>whnf
      refine .inr (WpS.draw [0, 1, 1, 0, 2, 2, 0, 3] (fun st2 => st2 81 = some (.st [.ibs va, .ibs sv, .ibs ag, .ibs sa, .osl 82 i, .i .u32 rg, .i .i64 tl]) ∧ st2 83 = some (.st (recC red sid wei mo w0 w1 kind off gs i1 ra na ma w fs mx lg (.iss .i8 ts) ltp seed rl ps ls es))) (by kernel_rfl) ?_)
      conv=>whnf
      refine ⟨_, ⟨⟨rfl, rfl⟩, fun st2 h2 => ⟨_, h2.1, .inl rfl⟩⟩, ?_⟩
      conv=>whnf
      refine ⟨_, ⟨⟨rfl, rfl⟩, fun st2 h2 => ⟨_, h2.2, .inl rfl⟩⟩, ?_⟩
      conv=>whnf
      refine FreeQ.use hF (fun _=>rfl) rfl (fun v h nx => by subst h; rfl) ?_
      rintro v rfl
      conv=>whnf
      refine And.intro ⟨rfl, rfl⟩ ?_
      conv=>whnf
      refine And.intro ⟨rfl, rfl⟩ ?_
      conv=>whnf
      refine And.intro ⟨rfl, rfl⟩ ?_
      conv=>whnf
      refine And.intro ⟨trivial, by simp; omega, by simp; omega⟩ ?_
      conv=>whnf
      refine And.intro ⟨rfl, rfl⟩ ?_
      conv=>whnf
      refine ⟨rfl, ?_⟩
      conv=>whnf
      have hmap' : (rs.take i).map fr ++ [[.b c1, .b c2, .b c3, .b c4, .i .i64 u0, .i .i64 u1, .i .i64 k, .i .i64 o, .is .i64 gs2, .i .i64 i2, .is .i64 ra2, .is .i64 na2, .is .i64 ma2, .i .i64 w2, .iss .i64 fs2, .i .i64 mx2, .is .i64 lg2, .iss .i64 ts2, .i .i64 sc2, .i .i64 sd2, .i .i64 rl2, .is .i64 ps2, .is .i64 ls2, .is .i64 es2]] = (rs.take (i + 1)).map fr := hmap
      rw [hmap', add1 (by omega), show ((rs.take (i + 1)).map fr).length = i + 1 by simp; omega]
      exact ⟨i + 1, by omega, by omega, (Rel.lay [(82, 85)] (by kernel_rfl) (by repeat constructor) (by repeat' (first | exact trivial | refine And.intro ?_ ?_ | kernel_rfl)))⟩
    · conv=>whnf
      refine And.intro (by omega) ?_
      rw [Int.toNat_natCast, hrc]
      conv=>whnf
      refine And.intro rfl ?_
      conv=>whnf
      refine .inr (WpS.draw [0, 1, 1, 0, 2, 2, 0, 3] (fun st2 => st2 81 = some (.st [.ibs va, .ibs sv, .ibs ag, .ibs sa, .osl 82 i, .i .u32 rg, .i .i64 tl]) ∧ st2 83 = some (.st (recC red sid wei mo w0 w1 kind off gs i1 ra na ma w fs mx lg .nsl ltp seed rl ps ls es))) (by kernel_rfl) ?_)
      conv=>whnf
      refine ⟨_, ⟨⟨rfl, rfl⟩, fun st2 h2 => ⟨_, h2.1, .inl rfl⟩⟩, ?_⟩
      conv=>whnf
      refine ⟨_, ⟨⟨rfl, rfl⟩, fun st2 h2 => ⟨_, h2.2, .inl rfl⟩⟩, ?_⟩
      conv=>whnf
      refine FreeQ.use hF (fun _=>rfl) rfl (fun v h nx => by subst h; rfl) ?_
      rintro v rfl
      conv=>whnf
      refine And.intro ⟨rfl, rfl⟩ ?_
      conv=>whnf
      refine And.intro ⟨rfl, rfl⟩ ?_
      conv=>whnf
      refine And.intro ⟨rfl, rfl⟩ ?_
      conv=>whnf
      refine And.intro ⟨trivial, by simp; omega, by simp; omega⟩ ?_
      conv=>whnf
      refine And.intro ⟨rfl, rfl⟩ ?_
      conv=>whnf
      refine ⟨rfl, ?_⟩
      conv=>whnf
      have hmap' : (rs.take i).map fr ++ [[.b c1, .b c2, .b c3, .b c4, .i .i64 u0, .i .i64 u1, .i .i64 k, .i .i64 o, .is .i64 gs2, .i .i64 i2, .is .i64 ra2, .is .i64 na2, .is .i64 ma2, .i .i64 w2, .iss .i64 fs2, .i .i64 mx2, .is .i64 lg2, .iss .i64 ts2, .i .i64 sc2, .i .i64 sd2, .i .i64 rl2, .is .i64 ps2, .is .i64 ls2, .is .i64 es2]] = (rs.take (i + 1)).map fr := hmap
      rw [hmap', add1 (by omega), show ((rs.take (i + 1)).map fr).length = i + 1 by simp; omega]
      exact ⟨i + 1, by omega, by omega, (Rel.lay [(82, 85)] (by kernel_rfl) (by repeat constructor) (by repeat' (first | exact trivial | refine And.intro ?_ ?_ | kernel_rfl)))⟩
  have hi : i = rs.length := by have := of_decide_eq_false hc; omega
  subst hi
  rw [List.take_length]
  conv=>whnf
  refine ⟨rfl, ?_⟩
  refine WpN.vc ?_
  conv=>whnf
  refine And.intro ⟨by simp, rfl, by simp; omega⟩ ?_
  conv=>whnf
  exact T _ _ _ (Rel.lay [(78, 84)] (by kernel_rfl) (by repeat constructor) (by repeat' (first | exact trivial | refine And.intro ?_ ?_ | kernel_rfl)))
theorem fi_eq {l : List Fi} {j : Nat} : l.getD j fi0 = l.getD j in0 := rfl
theorem y7_all {Q : Exit → (Nat → Option V) → (Nat → Option B) → Nat → Prop} (l : List Fi) (j : Nat) (hl : ∀ x ∈ l, x.Ok) (hn : l.length ≤ 6) (hj : j < l.length)
    (T : ∀ e' st' nx', Rel 0 ⟨e', st', nx', 102⟩ (mkSt (eI l j []) (lay (mem7 (go (l.take (j + 1))).1.1 (go (l.take (j + 1))).1.2 (go (l.take (j + 1))).2) 79) 102) → Q .normal e' st' nx') :
    WpN 0 102 y7 (mkE (eI l j [])) (mkS (lay (mem7 (go (l.take j)).1.1 (go (l.take j)).1.2 (go (l.take j)).2) 79)) 79 Q := by
  have hg := go_ok hl j (by omega)
  have hx : (l.getD j fi0).Ok := getD_in hl hj
  obtain ⟨_, h1, h2, ms, h3, h4, h5⟩ := nxt_ok hg.m hg.e hx
  refine y7_0 l j _ _ _ hl hj hg.m hg.e fun y hy => ?_
  rw [← hy] at h1 h2 h3
  refine y7_4 l j y.1 y.2.1 _ (l.getD j fi0) hx y.2.2 fun sv sa hsv hsa => ?_
  refine y7_8 l j y.1 y.2.1 _ (l.getD j fi0) y.2.2 (by rw [h3]; simpa using h4) (fun r hr => h5 r (by rw [h3] at hr; simpa using hr)) _ sv _ sa _ _ (by rw [hg.len]; omega) fun e' st' nx' hR => T e' st' nx' ?_
  rw [go_take hj]
  have e1 : stp (go (l.take j)) (l.getD j in0) = (((y.1, y.2.1), (go (l.take j)).2 ++ [tv y.1 y.2.2 (l.getD j fi0)]) : (Ch × Ch) × List (List C)) := by rw [hy]; rfl
  rw [e1]
  subst hsv hsa
  exact hR
theorem f7a (l : List Fi) (hl : ∀ x ∈ l, x.Ok) (hn : l.length ≤ 6) :
    FnS 7 [.c (.irs 4 (l.map Fi.row))] [] fun v l' => v = .tu [.c (.osl 78 (go l).2.length), .c (.i .i64 0)] ∧ l' = lay [(78, .rs true 7 (go l).2)] 79 := by
  refine FnS.wpD (b := 0) (n := 102) Proofs.Tryz.f7 rfl rfl rfl rfl rfl rfl idle12 enter12 rfl (by decide) ?_
  refine WpN.vc ?_
  conv=>whnf
  refine ⟨rfl, ?_⟩
  refine WpN.seq (WpN.vc ?_)
  conv=>whnf
  refine CallQ.useF [] f13 rfl (by kernel_rfl) trivial ?_
  rintro v l' ⟨rfl, rfl⟩
  conv=>whnf
  refine WpN.weaken (s := mkSt [(0, .c (.irs 4 (l.map Fi.row))), (2, .c (.p 76 0)), (3, .c (.p 77 0)), (4, .c (.p 0 0))] (lay (mem7 ch0 ch0 []) 79) 102) ?_ rfl ?_
  · refine Rel.trans (Rel.nils (nm := 78) nl0 (freshC (.p 33 0) 26) _ 79 rfl (by kernel_rfl)) ?_
    refine Rel.trans (Rel.nilO (nm := 0) (i := 0) (y := .rs true 7 []) rfl rfl rfl (fun m h => by cases h)) ?_
    refine Rel.trans (Rel.tellC (nm := 78) (i := 0) (c := .nsl) (.is .u8 []) rfl rfl (fun _ _ h => h.nil_is) (fun _ h => h)) ?_
    refine Rel.trans (Rel.tellC (nm := 78) (i := 44) (c := .np) .any rfl rfl (fun _ _ _ => .any) (fun _ h => h)) ?_
    refine Rel.trans (Rel.forget (nm := 26) (k := 2) rfl rfl) ?_
    refine Rel.trans (Rel.forget (nm := 103) (k := 0) rfl rfl) ?_
    exact (Rel.lay [(0, 78), (24, 26), (31, 33), (1, 79), (2, 80), (3, 81), (4, 82), (5, 83), (6, 84), (7, 85), (8, 86), (9, 87), (10, 88), (11, 89), (12, 90), (13, 91), (14, 92), (15, 93), (16, 94), (17, 95), (18, 96), (19, 97), (20, 98), (21, 99), (22, 100), (23, 101), (25, 102), (26, 103), (27, 104), (28, 105), (39, 41), (40, 42), (41, 43), (42, 44), (43, 45), (44, 46), (45, 47), (46, 48), (47, 49), (48, 50), (49, 51), (50, 52), (51, 53), (52, 54), (53, 55), (54, 56), (55, 57), (56, 58), (57, 59), (58, 60), (59, 61), (60, 62), (61, 63), (62, 64), (63, 65), (64, 66), (65, 67), (66, 68), (76, 0), (77, 1), (78, 106)] (by kernel_rfl) (by repeat constructor) (by repeat' (first | exact trivial | refine And.intro ?_ ?_ | kernel_rfl)))
  refine WpN.seq (WpN.vc ?_)
  conv=>whnf
  rw [List.length_map]
  refine WpS.loop (ι := Nat) (fun j => mkSt (eI l j []) (lay (mem7 (go (l.take j)).1.1 (go (l.take j)).1.2 (go (l.take j)).2) 79) 102) (fun j => j ≤ l.length) (fun j => l.length - j) 0 (Nat.zero_le _) (Rel.lay [] (by kernel_rfl) (by repeat constructor) (by repeat' (first | exact trivial | refine And.intro ?_ ?_ | kernel_rfl))) ?_
  intro j hj
  refine WpN.toS (WpN.seq (WpN.vc ?_))
  conv=>whnf
  refine WpN.seq (WpN.vc ?_)
  conv=>whnf
  refine ⟨fun hc => ?_, fun hc => ?_⟩
  · have hc : j < l.length := by have := of_decide_eq_true hc; simp at this; omega
    conv=>whnf
    refine WpN.seq (WpN.block ?_)
    refine WpN.weaken (s := mkSt (eI l j []) (lay (mem7 (go (l.take j)).1.1 (go (l.take j)).1.2 (go (l.take j)).2) 79) 102) (Rel.lay [] (by kernel_rfl) (by repeat constructor) (by repeat' (first | exact trivial | refine And.intro ?_ ?_ | kernel_rfl))) rfl ?_
    refine y7_all l j hl hn hc fun e' st' nx' hR => ?_
    refine WpN.weaken hR rfl (WpN.vc ?_)
    conv=>whnf
    rw [add1 (by omega)]
    exact ⟨j + 1, by omega, by omega, (Rel.lay [] (by kernel_rfl) (by repeat constructor) (by repeat' (first | exact trivial | refine And.intro ?_ ?_ | kernel_rfl)))⟩
  · have hj : j = l.length := by have := of_decide_eq_false hc; simp at this; omega
    subst hj
    rw [List.take_length]
    conv=>whnf
    refine ⟨rfl, ?_⟩
    refine WpN.vc ?_
    conv=>whnf
    exact ⟨[], .tu [.c (.osl 78 (go l).2.length), .c (.i .i64 0)], lay [(78, .rs true 7 (go l).2)] 79, rfl, by kernel_rfl, stEq_lay (by repeat' (first | exact trivial | refine And.intro ?_ ?_ | kernel_rfl)) 79 0, rfl, rfl⟩
theorem f7 (l : List Fi) (hl : ∀ x ∈ l, x.Ok) (hn : l.length ≤ 6) : FnS 7 [.c (.irs 4 (l.map Fi.row))] [] fun v l' => v = .tu [.c (.irs 7 (go l).2), .c (.i .i64 0)] ∧ l' = [] := by
  refine FnS.behind (f7a l hl hn) ?_
  rintro v l' ⟨rfl, rfl⟩
  exact ⟨_, _, ⟨rfl, rfl⟩, (RelM.frz1 (b := 0) (nx := 79) (c := .osl 78 (go l).2.length) (c' := .irs 7 (go l).2) (vs := [.c (.i .i64 0)]) (φ := (go l).2.length = (go l).2.length) rfl rfl (by decide) rfl).to [] trivial rfl rfl (Nat.zero_le _)⟩
theorem f11 (x : Fi) : FnS 11 [.ag (rowC x)] [] fun v l' => ∃ b : Bool, v = .c (.b b) ∧ l' = [] := by
  refine FnS.wpR (b := 0) Proofs.Tryz.f11 rfl rfl rfl rfl rfl rfl ?_
  refine WpN.seq (WpN.vc ?_)
  conv=>whnf
  refine WpN.vc ?_
  conv=>whnf
  refine ⟨fun _=>?_, fun _=>?_⟩
  · conv=>whnf
    exact ⟨[], .c (.b false), [], rfl, by kernel_rfl, trivial, _, rfl, rfl⟩
  · conv=>whnf
    exact ⟨[], .c (.b true), [], rfl, by kernel_rfl, trivial, _, rfl, rfl⟩
theorem addN {j : Nat} (h : j < 9223372036854775807) : IntKind.i64.wrap ((j : Int) + 1) = ((j + 1 : Nat) : Int) := by rw [IntWalk.i64_in _ (by omega)]; omega
theorem f5 (l : List Fi) : FnS 5 [.c (.irs 4 (l.map Fi.row))] [] fun v l' => ∃ b : Bool, v = .c (.b b) ∧ l' = [] ∧ (b = true → l.length ≤ 2147483647) := by
  refine FnS.wpR (b := 0) Proofs.Tryz.f5 rfl rfl rfl rfl rfl rfl ?_
  refine WpN.seq (WpN.vc ?_)
  conv=>whnf
  refine WpN.seq (WpN.vc ?_)
  conv=>whnf
  rw [List.length_map]
  refine ⟨fun _=>?_, fun h2 => ?_⟩
  · conv=>whnf
    exact ⟨[], .c (.b false), [], rfl, by kernel_rfl, trivial, false, rfl, rfl, fun h => Bool.noConfusion h⟩
  have h2 : l.length ≤ 2147483647 := by have := of_decide_eq_false h2; omega
  conv=>whnf
  refine WpN.seq (WpN.vc ?_)
  conv=>whnf
  rw [List.length_map]
  refine WpS.loop (ι := Nat) (fun j => mkSt [(8, .c (.irs 4 (l.map Fi.row))), (9, .c (.i .i64 l.length)), (10, .c (.i .i64 j))] [] 18) (fun j => j ≤ l.length) (fun j => l.length - j) 0 (Nat.zero_le _) (Ren.relOf [] (by kernel_rfl) (by repeat constructor) (by repeat' (first | exact trivial | refine And.intro ?_ ?_ | kernel_rfl))) ?_
  intro j hj
  refine VC_ok ?_
  conv=>whnf
  refine ⟨fun hc => ?_, fun hc => ?_⟩
  · have hc : j < l.length := by have := of_decide_eq_true hc; omega
    conv=>whnf
    refine And.intro (by simp; omega) ?_
    rw [Int.toNat_natCast, row_getD hc]
    conv=>whnf
    refine And.intro rfl ?_
    conv=>whnf
    refine CallQ.use [] (f11 (l.getD j fi0)) rfl rfl trivial ?_
    rintro v l' ⟨b, rfl, rfl⟩
    conv=>whnf
    cases b
    · conv=>whnf
      repeat' first|(refine Lt (by decide) ?_;conv=>whnf)|(refine Lf (by decide) ?_;conv=>whnf)|fail
      refine ⟨rfl, ?_⟩
      conv=>whnf
      exact ⟨[], .c (.b false), [], rfl, by kernel_rfl, trivial, false, rfl, rfl, fun h => Bool.noConfusion h⟩
    · conv=>whnf
      repeat' first|(refine Lt (by decide) ?_;conv=>whnf)|(refine Lf (by decide) ?_;conv=>whnf)|fail
      rw [addN (by omega)]
      exact ⟨j + 1, by omega, by omega, (Ren.relOf [] (by kernel_rfl) (by repeat constructor) (by repeat' (first | exact trivial | refine And.intro ?_ ?_ | kernel_rfl)))⟩
  · conv=>whnf
    refine ⟨rfl, ?_⟩
    refine WpN.vc ?_
    conv=>whnf
    exact ⟨[], .c (.b true), [], rfl, by kernel_rfl, trivial, true, rfl, rfl, fun _=>h2⟩
def P6 (l : List Fi) (v : V) (l' : List (Option B)) : Prop := ∃ (c : C) (b : Bool) (st : List (Option B)), v = .tu [.c c, .c (.b b)] ∧ l' = st ∧ (b = true → (∀ x ∈ l, x.Ok) ∧ l.length ≤ 6) ∧ ((c = .nsl ∧ b = false ∧ st = []) ∨ (c = .osl 0 l.length ∧ st = [some (.rs true 4 (l.map Fi.row))]))
theorem bneF {a b : Int} (h : (a != b) = false) : a = b := by simpa using h
theorem f6a (l : List Fi) (hl : l.length ≤ 2147483647) : FnS 6 [.c (.irs 4 (l.map Fi.row))] [] (P6 l) := by
  refine FnS.wpR (b := 0) Proofs.Tryz.f6 rfl rfl rfl rfl rfl rfl ?_
  refine WpN.seq (WpN.vc ?_)
  conv=>whnf
  refine WpN.seq (WpN.vc ?_)
  conv=>whnf
  refine WpN.weaken (s := mkSt [(0, .c (.irs 4 (l.map Fi.row))), (4, .c (.osl 0 0))] [some (.rs true 4 [])] 56) (Rel.trans (Rel.nilE (t := 4) (.rs true 4 []) rfl rfl (fun m h => by cases h)) (Ren.relOf [] (by kernel_rfl) (by repeat constructor) (by repeat' (first | exact trivial | refine And.intro ?_ ?_ | kernel_rfl)))) rfl ?_
  refine WpN.seq (WpN.vc ?_)
  conv=>whnf
  rw [List.length_map]
  refine WpS.loop (ι := Nat) (fun j => mkSt [(0, .c (.irs 4 (l.map Fi.row))), (4, .c (.osl 0 j)), (7, .c (.irs 4 (l.map Fi.row))), (8, .c (.i .i64 l.length)), (9, .c (.i .i64 j))] [some (.rs true 4 ((l.take j).map Fi.row))] 56) (fun j => j ≤ l.length ∧ ∀ i, i < j → (l.getD i fi0).Ok) (fun j => l.length - j) 0 ⟨Nat.zero_le _, fun i hi => absurd hi (Nat.not_lt_zero _)⟩ (Ren.relOf [] (by kernel_rfl) (by repeat constructor) (by repeat' (first | exact trivial | refine And.intro ?_ ?_ | kernel_rfl))) ?_
  rintro j ⟨hj, hok⟩
  refine VC_ok ?_
  conv=>whnf
  refine ⟨fun hc => ?_, fun hc => ?_⟩
  · have hc : j < l.length := by have := of_decide_eq_true hc; omega
    have hmap := take_mapL (f := Fi.row) (d := fi0) hc
    conv=>whnf
    refine And.intro (by simp; omega) ?_
    rw [Int.toNat_natCast, row_getD hc]
    conv=>whnf
    refine And.intro rfl ?_
    conv=>whnf
    have fin : ∀ {G : Prop}, (l.getD j fi0).Ok → ((∀ i, i < j + 1 → (l.getD i fi0).Ok) → G) → G := fun hx h => h fun i hi => by
      rcases Nat.lt_succ_iff_lt_or_eq.1 hi with h1 | h1
      · exact hok i h1
      · subst h1; exact hx
    repeat' (first
      | (refine ⟨fun _=>?_, fun h => absurd h (by decide)⟩
         conv=>whnf)
      | (refine ⟨fun h => absurd h (by decide), fun _=>?_⟩
         conv=>whnf)
      | (refine And.intro (fun (hh : (_ : Bool) = true) => ?_) (fun (hh : (_ : Bool) = false) => ?_)
         all_goals conv=>whnf)
      | fail)
    all_goals first
      | (refine ⟨rfl, ?_⟩
         conv=>whnf
         exact ⟨[], .tu [.c .nsl, .c (.b false)], [], rfl, by kernel_rfl, trivial, .nsl, false, [], rfl, rfl, fun h => Bool.noConfusion h, .inl ⟨rfl, rfl, rfl⟩⟩)
      | (have hx : (l.getD j fi0).Ok := by
           refine ⟨by have := of_decide_eq_false (by assumption : decide (((l.getD j fi0).x.size : Int) > 1275) = false); omega, ?_, ?_⟩
           · first
               | exact .inl (bneF (by assumption))
               | exact .inr (.inl (bneF (by assumption)))
               | exact .inr (.inr (.inl (bneF (by assumption))))
               | exact .inr (.inr (.inr (bneF (by assumption))))
           · have h1 := of_decide_eq_false (by assumption : decide ((l.getD j fi0).bw < 1) = false)
             have h2 := of_decide_eq_false (by assumption : decide ((l.getD j fi0).bw > 3) = false)
             omega
         refine ⟨⟨trivial, by simp; omega, by simp; omega⟩, ?_⟩
         conv=>whnf
         refine fin hx fun hok' => ?_
         rw [addN (by omega)]
         refine ⟨j + 1, ⟨by omega, hok'⟩, by omega, ?_⟩
         rw [show List.map Fi.row (List.take j l) ++ [[C.s (l.getD j fi0).x, C.b (l.getD j fi0).st, C.i IntKind.i64 (l.getD j fi0).ms, C.i IntKind.i64 (l.getD j fi0).bw]] = List.map Fi.row (List.take (j + 1) l) from hmap, show (List.map Fi.row (List.take (j + 1) l)).length = j + 1 by simp; omega]
         exact (Ren.relOf [(0, 3)] (by kernel_rfl) (by repeat constructor) (by repeat' (first | exact trivial | refine And.intro ?_ ?_ | kernel_rfl))))
  · have hj : j = l.length := by have := of_decide_eq_false hc; omega
    subst hj
    have hl' : ∀ x ∈ l, x.Ok := fun x hx => by
      obtain ⟨i, hi, rfl⟩ := List.mem_iff_getElem.1 hx
      have := hok i hi
      simpa [List.getD, hi] using this
    rw [List.take_length]
    conv=>whnf
    refine ⟨rfl, ?_⟩
    refine WpN.vc ?_
    conv=>whnf
    exact ⟨[], .tu [.c (.osl 0 l.length), .c (.b (decide (((l.map Fi.row).length : Int) ≤ 6)))], [some (.rs true 4 (l.map Fi.row))], rfl, by kernel_rfl, (by repeat' (first | exact trivial | refine And.intro ?_ ?_ | kernel_rfl)), _, _, _, rfl, rfl, fun h => ⟨hl', by have := of_decide_eq_true h; simp at this; omega⟩, .inr ⟨rfl, rfl⟩⟩
theorem f6 (l : List Fi) (hl : l.length ≤ 2147483647) : FnS 6 [.c (.irs 4 (l.map Fi.row))] [] fun v l' => ∃ (c : C) (b : Bool), v = .tu [.c c, .c (.b b)] ∧ l' = [] ∧ (b = true → (∀ x ∈ l, x.Ok) ∧ l.length ≤ 6 ∧ c = .irs 4 (l.map Fi.row)) ∧ (c = .nsl ∨ c = .irs 4 (l.map Fi.row)) := by
  refine FnS.behind (f6a l hl) ?_
  rintro v l' ⟨c, b, st, rfl, rfl, h1, h2⟩
  rcases h2 with ⟨rfl, rfl, rfl⟩ | ⟨rfl, rfl⟩
  · exact ⟨_, [], ⟨.nsl, false, rfl, rfl, fun h => Bool.noConfusion h, .inl rfl⟩, RelM.same (Nat.le_refl _) rfl (V.lo_ok rfl) (Nat.le_refl _) (fun _ _ h => h)⟩
  · exact ⟨_, _, ⟨_, b, rfl, rfl, fun h => ⟨(h1 h).1, (h1 h).2, rfl⟩, .inr rfl⟩, (RelM.frz1 (b := 0) (nx := 1) (c := .osl 0 l.length) (c' := .irs 4 (l.map Fi.row)) (vs := [.c (.b b)]) (φ := l.length = (l.map Fi.row).length) rfl (by simp) (by decide) rfl).to [] trivial rfl rfl (Nat.zero_le _)⟩
noncomputable def b4 : Code := match Proofs.Tryz.f4.body with | some c => c | none => .skip
noncomputable def y4 : Code := inC (inC (sndC (fstC (tlC 5 b4))))
noncomputable def z4 : Code := inC (fstC (sndC (sndC (inC (inC (sndC (sndC (inC (fstC (sndC (sndC y4)))))))))))
@[reducible] def e4 (T : List (List C)) (i : Nat) : List (Nat × V) := [(37, .c (.irs 7 T)), (38, .c (.i .i64 T.length)), (39, .c (.i .i64 i))]
@[reducible] def e42 (T : List (List C)) (i : Nat) (F : List (List C)) (j : Nat) (r : List (Nat × V)) : List (Nat × V) := [(37, .c (.irs 7 T)), (38, .c (.i .i64 T.length)), (39, .c (.i .i64 i)), (44, .c (.irs 24 F)), (45, .c (.i .i64 F.length)), (46, .c (.i .i64 j))] ++ r
theorem y4f {Q : Exit → (Nat → Option V) → (Nat → Option B) → Nat → Prop} (T F : List (List C)) (i j : Nat) (hF : ∀ y ∈ F, FrOk y) (hn : F.length ≤ 12) (hj : j < F.length)
    (TT : ∀ e' st' nx', Rel 0 ⟨e', st', nx', 126⟩ (mkSt (e42 T i F j []) [] 126) → Q .normal e' st' nx') :
    WpN 0 126 z4 (mkE (e42 T i F j [])) (mkS []) 0 Q := by
  obtain ⟨b1, b2, b3, b4, w0, w1, k, o, gs, i1, rs, ns, ms, w, fs, mx, lg, ts, sc, sd, rl, ps, ls, es, hy, ⟨⟨hk, hk'⟩, ho, ho'⟩, ⟨hg0, hg⟩, hL, hlg, l1, l2, l3, l4, l5, l6, l7, l8, l9, l10, l11, l12⟩ := getD_in (d := []) hF hj
  have hyy : F.getD j [] = frN b1 b2 b3 b4 w0 w1 k o gs i1 rs ns ms w fs mx lg ts sc sd rl ps ls es := hy
  refine WpN.seq (WpN.vc ?_)
  conv=>whnf
  refine And.intro (by omega) ?_
  rw [Int.toNat_natCast, hyy]
  refine And.intro rfl ?_
  conv=>whnf
  refine WpN.seq (WpN.seq (WpN.vc ?_))
  conv=>whnf
  repeat' first|(refine Lt (by decide) ?_;conv=>whnf)|(refine Lf (by decide) ?_;conv=>whnf)|fail
  refine ⟨fun h => absurd (of_decide_eq_true h) (by omega), fun _=>?_⟩
  conv=>whnf
  repeat' first|(refine Lt (by decide) ?_;conv=>whnf)|(refine Lf (by decide) ?_;conv=>whnf)|fail
  refine ⟨fun h => absurd (of_decide_eq_true h) (by omega), fun _=>?_⟩
  conv=>whnf
  repeat' first|(refine Lt (by decide) ?_;conv=>whnf)|(refine Lf (by decide) ?_;conv=>whnf)|fail
  refine ⟨fun h => absurd (of_decide_eq_true h) (by omega), fun _=>?_⟩
  conv=>whnf
  repeat' first|(refine Lt (by decide) ?_;conv=>whnf)|(refine Lf (by decide) ?_;conv=>whnf)|fail
  refine ⟨fun h => absurd (of_decide_eq_true h) (by omega), fun _=>?_⟩
  conv=>whnf
  repeat' first|(refine Lt (by decide) ?_;conv=>whnf)|(refine Lf (by decide) ?_;conv=>whnf)|fail
  refine WpN.vc ?_
  conv=>whnf
  refine ⟨fun h => absurd (eq_of_beq h) (by omega), fun _=>?_⟩
  conv=>whnf
  repeat' first|(refine Lt (by decide) ?_;conv=>whnf)|(refine Lf (by decide) ?_;conv=>whnf)|fail
  refine WpN.seq (WpN.vc ?_)
  conv=>whnf
  refine WpN.seq (WpN.seq (WpN.vc ?_))
  conv=>whnf
  refine WpN.weaken (s := mkSt (e42 T i F j [(10, .c (.p 0 0)), (11, .c (.i .i64 0)), (75, .c (.is .i64 ns)), (76, .c (.i .i64 ns.length)), (77, .c (.i .i64 0))]) [some (.st (frN b1 b2 b3 b4 w0 w1 k o gs i1 rs ns ms w fs mx lg ts sc sd rl ps ls es))] 126) (Ren.relOf [] (by kernel_rfl) (by repeat constructor) (by repeat' (first | exact trivial | refine And.intro ?_ ?_ | kernel_rfl))) rfl (WpN.vc ?_)
  refine WpS.loop (ι := Nat) (fun a => mkSt (e42 T i F j [(10, .c (.p 0 0)), (11, .c (.i .i64 (pv ns a))), (75, .c (.is .i64 ns)), (76, .c (.i .i64 ns.length)), (77, .c (.i .i64 a))]) [some (.st (frN b1 b2 b3 b4 w0 w1 k o gs i1 rs ns ms w fs mx lg ts sc sd rl ps ls es))] 126) (fun a => a ≤ ns.length) (fun a => ns.length - a) 0 (Nat.zero_le _) (Ren.relOf [] (by kernel_rfl) (by repeat constructor) (by repeat' (first | exact trivial | refine And.intro ?_ ?_ | kernel_rfl))) ?_
  intro a ha
  refine VC_ok ?_
  conv=>whnf
  refine ⟨fun hc => ?_, fun hc => ?_⟩
  · have hc : a < ns.length := by have := of_decide_eq_true hc; omega
    have h1 := hL.1 a hc
    have hp : pv ns a < ns.getD a 0 := by
      cases a with
      | zero => simp only [pv]; omega
      | succ b => exact hL.2 b hc
    conv=>whnf
    refine And.intro (by omega) ?_
    rw [Int.toNat_natCast]
    conv=>whnf
    repeat' first|(refine Lt (by decide) ?_;conv=>whnf)|(refine Lf (by decide) ?_;conv=>whnf)|fail
    refine ⟨fun h => absurd (of_decide_eq_true h) (by omega), fun _=>?_⟩
    conv=>whnf
    repeat' first|(refine Lt (by decide) ?_;conv=>whnf)|(refine Lf (by decide) ?_;conv=>whnf)|fail
    refine ⟨fun h => absurd (of_decide_eq_true h) (by omega), fun _=>?_⟩
    conv=>whnf
    repeat' first|(refine Lt (by decide) ?_;conv=>whnf)|(refine Lf (by decide) ?_;conv=>whnf)|fail
    rw [addN (by omega)]
    exact ⟨a + 1, by omega, by omega, (Ren.relOf [] (by kernel_rfl) (by repeat constructor) (by repeat' (first | exact trivial | refine And.intro ?_ ?_ | kernel_rfl)))⟩
  conv=>whnf
  refine ⟨rfl, ?_⟩
  refine WpN.seq (WpN.seq (WpN.vc ?_))
  conv=>whnf
  refine WpN.vc ?_
  conv=>whnf
  refine WpS.loop (ι := Nat) (fun a => mkSt (e42 T i F j [(10, .c (.p 0 0)), (91, .c (.is .i64 gs)), (92, .c (.i .i64 gs.length)), (93, .c (.i .i64 a))]) [some (.st (frN b1 b2 b3 b4 w0 w1 k o gs i1 rs ns ms w fs mx lg ts sc sd rl ps ls es))] 126) (fun a => a ≤ gs.length) (fun a => gs.length - a) 0 (Nat.zero_le _) (Ren.relOf [] (by kernel_rfl) (by repeat constructor) (by repeat' (first | exact trivial | refine And.intro ?_ ?_ | kernel_rfl))) ?_
  intro a ha
  refine VC_ok ?_
  conv=>whnf
  refine ⟨fun hc => ?_, fun hc => ?_⟩
  · have hc : a < gs.length := by have := of_decide_eq_true hc; omega
    have hx := getD_in (d := 0) hg hc
    conv=>whnf
    refine And.intro (by omega) ?_
    rw [Int.toNat_natCast]
    conv=>whnf
    repeat' first|(refine Lt (by decide) ?_;conv=>whnf)|(refine Lf (by decide) ?_;conv=>whnf)|fail
    refine ⟨fun h => absurd (of_decide_eq_true h) (by omega), fun _=>?_⟩
    conv=>whnf
    repeat' first|(refine Lt (by decide) ?_;conv=>whnf)|(refine Lf (by decide) ?_;conv=>whnf)|fail
    refine ⟨fun h => absurd (of_decide_eq_true h) (by omega), fun _=>?_⟩
    conv=>whnf
    repeat' first|(refine Lt (by decide) ?_;conv=>whnf)|(refine Lf (by decide) ?_;conv=>whnf)|fail
    rw [addN (by omega)]
    exact ⟨a + 1, by omega, by omega, (Ren.relOf [] (by kernel_rfl) (by repeat constructor) (by repeat' (first | exact trivial | refine And.intro ?_ ?_ | kernel_rfl)))⟩
  conv=>whnf
  refine ⟨rfl, ?_⟩
  refine WpN.seq (WpN.vc ?_)
  conv=>whnf
  refine WpN.vc ?_
  conv=>whnf
  refine WpS.loop (ι := Nat) (fun a => mkSt (e42 T i F j [(10, .c (.p 0 0)), (105, .c (.is .i64 lg)), (106, .c (.i .i64 lg.length)), (107, .c (.i .i64 a))]) [some (.st (frN b1 b2 b3 b4 w0 w1 k o gs i1 rs ns ms w fs mx lg ts sc sd rl ps ls es))] 126) (fun a => a ≤ lg.length) (fun a => lg.length - a) 0 (Nat.zero_le _) (Ren.relOf [] (by kernel_rfl) (by repeat constructor) (by repeat' (first | exact trivial | refine And.intro ?_ ?_ | kernel_rfl))) ?_
  intro a ha
  refine VC_ok ?_
  conv=>whnf
  refine ⟨fun hc => ?_, fun hc => ?_⟩
  · have hc : a < lg.length := by have := of_decide_eq_true hc; omega
    have hx := getD_in (d := 0) hlg hc
    conv=>whnf
    refine And.intro (by omega) ?_
    rw [Int.toNat_natCast]
    conv=>whnf
    repeat' first|(refine Lt (by decide) ?_;conv=>whnf)|(refine Lf (by decide) ?_;conv=>whnf)|fail
    refine ⟨fun h => absurd (of_decide_eq_true h) (by omega), fun _=>?_⟩
    conv=>whnf
    repeat' first|(refine Lt (by decide) ?_;conv=>whnf)|(refine Lf (by decide) ?_;conv=>whnf)|fail
    refine ⟨fun h => absurd (of_decide_eq_true h) (by omega), fun _=>?_⟩
    conv=>whnf
    repeat' first|(refine Lt (by decide) ?_;conv=>whnf)|(refine Lf (by decide) ?_;conv=>whnf)|fail
    refine ⟨fun h => absurd hx.2 (by simpa using h), fun _=>?_⟩
    conv=>whnf
    repeat' first|(refine Lt (by decide) ?_;conv=>whnf)|(refine Lf (by decide) ?_;conv=>whnf)|fail
    rw [addN (by omega)]
    exact ⟨a + 1, by omega, by omega, (Ren.relOf [] (by kernel_rfl) (by repeat constructor) (by repeat' (first | exact trivial | refine And.intro ?_ ?_ | kernel_rfl)))⟩
  conv=>whnf
  refine ⟨rfl, ?_⟩
  exact TT _ _ _ (Ren.relOf [] (by kernel_rfl) (by repeat constructor) (by repeat' (first | exact trivial | refine And.intro ?_ ?_ | kernel_rfl)))
theorem f4 (h10 : FnS 10 [] [] fun v l' => v = .c (.b true) ∧ l' = []) (l : List Fi) : FnS 4 [.c (.irs 4 (l.map Fi.row))] [] fun v l' => v = .c (.b true) ∧ l' = [] := by
  refine FnS.wpR (b := 0) Proofs.Tryz.f4 rfl rfl rfl rfl rfl rfl ?_
  refine WpN.seq (WpN.vc ?_)
  conv=>whnf
  refine WpN.seq (WpN.seq (WpN.vc ?_))
  conv=>whnf
  refine CallQ.use [] (f5 l) rfl rfl trivial ?_
  rintro v l' ⟨b, rfl, rfl, hb⟩
  conv=>whnf
  refine WpN.vc ?_
  conv=>whnf
  cases b
  · conv=>whnf
    repeat' first|(refine Lt (by decide) ?_;conv=>whnf)|(refine Lf (by decide) ?_;conv=>whnf)|fail
    exact ⟨[], .c (.b true), [], rfl, by kernel_rfl, trivial, rfl, rfl⟩
  have hl := hb rfl
  conv=>whnf
  repeat' first|(refine Lt (by decide) ?_;conv=>whnf)|(refine Lf (by decide) ?_;conv=>whnf)|fail
  refine WpN.seq (WpN.seq (WpN.vc ?_))
  conv=>whnf
  refine CallQ.use [] (f6 l hl) rfl rfl trivial ?_
  rintro v l' ⟨c, b, rfl, rfl, h1, h2⟩
  cases b
  · rcases h2 with rfl | rfl
    · conv=>whnf
      refine WpN.seq (WpN.vc ?_)
      conv=>whnf
      refine WpN.vc ?_
      conv=>whnf
      repeat' first|(refine Lt (by decide) ?_;conv=>whnf)|(refine Lf (by decide) ?_;conv=>whnf)|fail
      exact ⟨[], .c (.b true), [], rfl, by kernel_rfl, trivial, rfl, rfl⟩
    · conv=>whnf
      refine WpN.seq (WpN.vc ?_)
      conv=>whnf
      refine WpN.vc ?_
      conv=>whnf
      repeat' first|(refine Lt (by decide) ?_;conv=>whnf)|(refine Lf (by decide) ?_;conv=>whnf)|fail
      exact ⟨[], .c (.b true), [], rfl, by kernel_rfl, trivial, rfl, rfl⟩
  obtain ⟨hx, hn, rfl⟩ := h1 rfl
  conv=>whnf
  refine WpN.seq (WpN.vc ?_)
  conv=>whnf
  refine WpN.vc ?_
  conv=>whnf
  repeat' first|(refine Lt (by decide) ?_;conv=>whnf)|(refine Lf (by decide) ?_;conv=>whnf)|fail
  refine WpN.seq (WpN.vc ?_)
  conv=>whnf
  refine CallQ.use [] (f7 l hx hn) rfl rfl trivial ?_
  rintro v l' ⟨rfl, rfl⟩
  conv=>whnf
  have hgo := go_ok hx l.length (Nat.le_refl _)
  rw [List.take_length] at hgo
  have hT := hgo.ok
  have hTn := hgo.len
  generalize (go l).2 = T at hT hTn ⊢
  refine WpN.seq (WpN.seq (WpN.vc ?_))
  conv=>whnf
  refine WpN.vc ?_
  conv=>whnf
  repeat' first|(refine Lt (by decide) ?_;conv=>whnf)|(refine Lf (by decide) ?_;conv=>whnf)|fail
  refine WpN.seq (WpN.seq (WpN.vc ?_))
  conv=>whnf
  refine WpN.vc ?_
  conv=>whnf
  refine WpS.loop (ι := Nat) (fun i => mkSt (e4 T i) [] 126) (fun i => i ≤ T.length) (fun i => T.length - i) 0 (Nat.zero_le _) (Ren.relOf [] (by kernel_rfl) (by repeat constructor) (by repeat' (first | exact trivial | refine And.intro ?_ ?_ | kernel_rfl))) ?_
  intro i hi
  refine WpN.toS (WpN.seq (WpN.vc ?_))
  conv=>whnf
  refine WpN.seq (WpN.vc ?_)
  conv=>whnf
  refine ⟨fun hc => ?_, fun hc => ?_⟩
  · have hc : i < T.length := by have := of_decide_eq_true hc; omega
    obtain ⟨va, sv, ag, sa, F, rg, tl, hy, l1, l2, l3, l4, hFn, hF⟩ := getD_in (d := []) hT hc
    conv=>whnf
    refine WpN.seq (WpN.block (WpN.seq (WpN.vc ?_)))
    conv=>whnf
    refine And.intro (by omega) ?_
    rw [Int.toNat_natCast, hy]
    conv=>whnf
    refine And.intro rfl ?_
    conv=>whnf
    refine WpN.seq (WpN.vc ?_)
    conv=>whnf
    refine WpN.vc ?_
    conv=>whnf
    refine WpS.loop (ι := Nat) (fun j => mkSt (e42 T i F j []) [] 126) (fun j => j ≤ F.length) (fun j => F.length - j) 0 (Nat.zero_le _) (Ren.relOf [] (by kernel_rfl) (by repeat constructor) (by repeat' (first | exact trivial | refine And.intro ?_ ?_ | kernel_rfl))) ?_
    intro j hj
    refine WpN.toS (WpN.seq (WpN.vc ?_))
    conv=>whnf
    refine WpN.seq (WpN.vc ?_)
    conv=>whnf
    refine ⟨fun hd => ?_, fun hd => ?_⟩
    · have hd : j < F.length := by have := of_decide_eq_true hd; omega
      conv=>whnf
      refine WpN.seq (WpN.block ?_)
      refine WpN.weaken (s := mkSt (e42 T i F j []) [] 126) (Ren.relOf [] (by kernel_rfl) (by repeat constructor) (by repeat' (first | exact trivial | refine And.intro ?_ ?_ | kernel_rfl))) rfl ?_
      refine y4f T F i j hF hFn hd fun e' st' nx' hR => ?_
      refine WpN.weaken hR rfl (WpN.vc ?_)
      conv=>whnf
      rw [addN (by omega)]
      exact ⟨j + 1, by omega, by omega, (Ren.relOf [] (by kernel_rfl) (by repeat constructor) (by repeat' (first | exact trivial | refine And.intro ?_ ?_ | kernel_rfl)))⟩
    conv=>whnf
    refine ⟨rfl, ?_⟩
    refine WpN.vc ?_
    conv=>whnf
    rw [addN (by omega)]
    exact ⟨i + 1, by omega, by omega, (Ren.relOf [] (by kernel_rfl) (by repeat constructor) (by repeat' (first | exact trivial | refine And.intro ?_ ?_ | kernel_rfl)))⟩
  conv=>whnf
  refine ⟨rfl, ?_⟩
  refine WpN.seq (WpN.vc ?_)
  conv=>whnf
  refine CallQ.use [] h10 rfl rfl trivial ?_
  rintro v l' ⟨rfl, rfl⟩
  conv=>whnf
  refine WpN.vc ?_
  conv=>whnf
  exact ⟨[], .c (.b true), [], rfl, by kernel_rfl, trivial, rfl, rfl⟩
end Go.SX
