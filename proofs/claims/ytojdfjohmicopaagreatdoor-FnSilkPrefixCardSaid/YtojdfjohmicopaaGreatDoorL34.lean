/- A part of the proof: the SILK decoder of the given program, walked by an executor that is proved sound. No statement of the program is proved in this text. -/
import Derived.Test.YtojdfjohmicopaaGreatDoorL23
import Derived.Test.YtojdfjohmicopaaGreatDoorL33
set_option linter.all false
set_option maxRecDepth 100000
namespace Go.SX
open Go
def fstC : Code → Code
  | .seq x _ => x
  | c => c
def inC : Code → Code
  | .block _ c => c
  | .loop c => c
  | c => c
noncomputable def b71 : Code := match Proofs.Tryz.f71.body with | some c => c | none => .skip
noncomputable def l71 : Code := inC (inC (sndC (fstC (tlC 5 b71))))
noncomputable def y71 : Code := inC (fstC (sndC (sndC l71)))
@[reducible] def eY (n c1 c2 : Nat) (ns bw : Int) (fs : Bool) (j : Nat) (r : List (Nat × V)) : List (Nat × V) :=
  (0, .c (.p 0 0)) :: (1, .c (.sl 81 0 n c1)) :: (2, .c (.sl 82 0 n c2)) :: (3, .c (.i .i64 ns)) :: (4, .c (.i .u8 bw)) :: (11, .c (.b fs)) :: (62, .c (.i .i64 n)) :: (63, .c (.i .i64 j)) :: r
theorem y71_0 {Q : Exit → (Nat → Option V) → (Nat → Option B) → Nat → Prop} (m e : Ch) (recs : List (List C)) (F : Nat → Buf) (n c1 c2 j : Nat) (ns bw : Int) (fs : Bool) (hm : m.Ok) (he : e.Sk) (hF : Fl m.Z F) (hj : j < n) (hn6 : n ≤ (F 6).ys.length)
    (T : ∀ (D : Dec) (x y : Int) (mo : Bool), D.Ok → WpN 76 177 (tlC 4 y71) (mkE (eY n c1 c2 ns bw fs j [(12, .c (.i .i64 j)), (13, .c (.i .i32 x)), (14, .c (.i .i32 y)), (15, .c (.b mo))])) (mkS (lay (twoF (.p 29 0) ⟨D, m.Z, m.c, m.a⟩ e recs F) 152)) 152 Q) :
    WpN 76 177 y71 (mkE (eY n c1 c2 ns bw fs j [])) (mkS (lay (twoF (.p 29 0) m e recs F) 152)) 152 Q := by
  refine WpN.seq (WpN.vc ?_)
  conv=>whnf
  refine WpN.seq (WpN.vc ?_)
  conv=>whnf
  refine CallQ.use0 (f96 _ _ _ _ _ _ _ hm.d.rc) (by rfl) ?_
  rintro v b' ⟨x, y, b, nn, s', h, rfl, _, hr, rfl⟩
  conv=>whnf
  refine WpN.cut (ι := Dec × Bool) (fun z => (eY n c1 c2 ns bw fs j [(12, .c (.i .i64 j)), (13, .c (.i .i32 x)), (14, .c (.i .i32 y)), (15, .c (.b z.2))])) (fun z => lay (twoF (.p 29 0) ⟨z.1, m.Z, m.c, m.a⟩ e recs F) 152) (fun z => z.1.Ok) (WpN.vc ?_) ?_
  · conv=>whnf
    repeat (refine And.intro (by first | omega | exact Int.natCast_nonneg _) ?_; conv=>whnf)
    generalize (F 6).ys.getD (0 + (j : Int).toNat) false = vad
    cases vad
    · conv=>whnf
      repeat' first|(refine Lt (by decide) ?_;conv=>whnf)|(refine Lf (by decide) ?_;conv=>whnf)|fail
      refine CallQ.use0 (f97 _ _ _ _ _ _ _ hr) (by rfl) ?_
      rintro v b' ⟨z, b, nn, s', h, rfl, _, hr, rfl⟩
      conv=>whnf
      exact ⟨({ m.D with b := b, n := nn, s := s', h := h }, z), ⟨hr, hm.d.gain⟩, (Rel.lay [] (by kernel_rfl) (by repeat constructor) (by repeat' (first | exact trivial | refine And.intro ?_ ?_ | kernel_rfl)))⟩
    · conv=>whnf
      repeat' first|(refine Lt (by decide) ?_;conv=>whnf)|(refine Lf (by decide) ?_;conv=>whnf)|fail
      exact ⟨({ m.D with b := b, n := nn, s := s', h := h }, false), ⟨hr, hm.d.gain⟩, (Rel.lay [] (by kernel_rfl) (by repeat constructor) (by repeat' (first | exact trivial | refine And.intro ?_ ?_ | kernel_rfl)))⟩
  rintro ⟨D, mo⟩ hD
  dsimp only at hD ⊢
  refine WpN.seq (WpN.vc ?_)
  conv=>whnf
  exact WpN.weaken (s := mkSt (eY n c1 c2 ns bw fs j [(12, .c (.i .i64 j)), (13, .c (.i .i32 x)), (14, .c (.i .i32 y)), (15, .c (.b mo))]) (lay (twoF (.p 29 0) ⟨{ D with wei := true, mo := mo, w0 := x, w1 := y }, m.Z, m.c, m.a⟩ e recs F) 152) 177) (Rel.lay [] (by kernel_rfl) (by repeat constructor) (by repeat' (first | exact trivial | refine And.intro ?_ ?_ | kernel_rfl))) rfl (T { D with wei := true, mo := mo, w0 := x, w1 := y } x y mo ⟨hD.rc, hD.gain⟩)
theorem y71_4 {Q : Exit → (Nat → Option V) → (Nat → Option B) → Nat → Prop} (m e : Ch) (recs : List (List C)) (F : Nat → Buf) (n c1 c2 j : Nat) (ns bw : Int) (fs : Bool) (x y : Int) (mo : Bool) (he : e.Sk)
    (T : ∀ (e : Ch), e.Sk → WpN 76 177 (tlC 5 y71) (mkE (eY n c1 c2 ns bw fs j [(12, .c (.i .i64 j)), (13, .c (.i .i32 x)), (14, .c (.i .i32 y)), (15, .c (.b mo))])) (mkS (lay (twoF (.p 29 0) m e recs F) 152)) 152 Q) :
    WpN 76 177 (tlC 4 y71) (mkE (eY n c1 c2 ns bw fs j [(12, .c (.i .i64 j)), (13, .c (.i .i32 x)), (14, .c (.i .i32 y)), (15, .c (.b mo))])) (mkS (lay (twoF (.p 29 0) m e recs F) 152)) 152 Q := by
  refine WpN.cut (ι := Ch) (fun _=>(eY n c1 c2 ns bw fs j [(12, .c (.i .i64 j)), (13, .c (.i .i32 x)), (14, .c (.i .i32 y)), (15, .c (.b mo))])) (fun e => lay (twoF (.p 29 0) m e recs F) 152) (fun e => e.Sk) (WpN.vc ?_) T
  conv=>whnf
  cases mo
  · conv=>whnf
    repeat' first|(refine Lt (by decide) ?_;conv=>whnf)|(refine Lf (by decide) ?_;conv=>whnf)|fail
    generalize m.D.om = om
    cases om
    · conv=>whnf
      repeat' first|(refine Lt (by decide) ?_;conv=>whnf)|(refine Lf (by decide) ?_;conv=>whnf)|fail
      exact ⟨e, he, (Rel.lay [] (by kernel_rfl) (by repeat constructor) (by repeat' (first | exact trivial | refine And.intro ?_ ?_ | kernel_rfl)))⟩
    · conv=>whnf
      repeat' first|(refine Lt (by decide) ?_;conv=>whnf)|(refine Lf (by decide) ?_;conv=>whnf)|fail
      refine CallQ.useF rho2 (f95p m.a (m.c, m.c) m.D m.Z e.a (e.c, e.c) e.D e.Z) rfl (by kernel_rfl) (stEq_lay (by repeat' (first | exact trivial | refine And.intro ?_ ?_ | kernel_rfl)) 76 0) ?_
      rintro v l' ⟨rfl, rfl⟩
      conv=>whnf
      exact ⟨⟨{ e.D with hav := false, voi := false, lag := 100, gain := 10 }, setZ e.Z 28 nilB, e.c, e.a⟩, ⟨by show (0 : Int) ≤ 10 ∧ (10 : Int) ≤ 63; decide, fun i hi => absurd hi (Nat.not_lt_zero _), he.c⟩, (Rel.lay [(142, 152)] (by kernel_rfl) (by repeat constructor) (by repeat' (first | exact trivial | refine And.intro ?_ ?_ | kernel_rfl)))⟩
  · conv=>whnf
    repeat' first|(refine Lt (by decide) ?_;conv=>whnf)|(refine Lf (by decide) ?_;conv=>whnf)|fail
    exact ⟨e, he, (Rel.lay [] (by kernel_rfl) (by repeat constructor) (by repeat' (first | exact trivial | refine And.intro ?_ ?_ | kernel_rfl)))⟩
theorem y71_5 {Q : Exit → (Nat → Option V) → (Nat → Option B) → Nat → Prop} (m e : Ch) (recs : List (List C)) (F : Nat → Buf) (n c1 c2 j : Nat) (ns bw : Int) (fs : Bool) (x y : Int) (mo : Bool) (hm : m.Ok) (he : e.Sk) (hF : Fl m.Z F) (hb : bw = 1 ∨ bw = 2 ∨ bw = 3) (hns : ns = 10000000 ∨ ns = 20000000) (h3 : recs.length < 10000) (hj : j < n) (hn5 : n ≤ (F 5).ys.length)
    (T : ∀ (m : Ch) (r : List C), m.Ok → Fl m.Z F → RecOk r → WpN 76 177 (tlC 6 y71) (mkE (eY n c1 c2 ns bw fs j [(12, .c (.i .i64 j)), (13, .c (.i .i32 x)), (14, .c (.i .i32 y)), (15, .c (.b mo))])) (mkS (lay (twoF (.p 29 0) m e (recs ++ [r]) F) 152)) 152 Q) :
    WpN 76 177 (tlC 5 y71) (mkE (eY n c1 c2 ns bw fs j [(12, .c (.i .i64 j)), (13, .c (.i .i32 x)), (14, .c (.i .i32 y)), (15, .c (.b mo))])) (mkS (lay (twoF (.p 29 0) m e recs F) 152)) 152 Q := by
  refine WpN.cut (ι := Ch × List C) (fun _=>(eY n c1 c2 ns bw fs j [(12, .c (.i .i64 j)), (13, .c (.i .i32 x)), (14, .c (.i .i32 y)), (15, .c (.b mo))])) (fun z => lay (twoF (.p 29 0) z.1 e (recs ++ [z.2]) F) 152) (fun z => z.1.Ok ∧ Fl z.1.Z F ∧ RecOk z.2) (WpN.vc ?_) (fun z hz => T z.1 z.2 hz.1 hz.2.1 hz.2.2)
  conv=>whnf
  repeat (refine And.intro (by first | omega | exact Int.natCast_nonneg _) ?_; conv=>whnf)
  refine CallQ.useF rhoM (f94 true m.c m.a m.D m.Z recs _ _ _ ns bw hm.d hm.n hm.c (by omega) hb hns) rfl (by kernel_rfl) (stEq_lay (by repeat' (first | exact trivial | refine And.intro ?_ ?_ | kernel_rfl)) 38 0) ?_
  rintro v l' ⟨D, Z, c, a, r, hD, hF1, hn28, hc4, hro, rfl, rfl⟩
  conv=>whnf
  repeat' first|(refine Lt (by decide) ?_;conv=>whnf)|(refine Lf (by decide) ?_;conv=>whnf)|fail
  exact ⟨(⟨D, Z, c, a⟩, r), ⟨⟨hD, hn28, hc4⟩, hF1.trans hF, hro⟩, (Rel.lay alM (by kernel_rfl) (by repeat constructor) (by repeat' (first | exact trivial | refine And.intro ?_ ?_ | kernel_rfl)))⟩
theorem y71_6s {Q : Exit → (Nat → Option V) → (Nat → Option B) → Nat → Prop} (m e : Ch) (recs : List (List C)) (F : Nat → Buf) (n c1 c2 j : Nat) (ns bw : Int) (fs : Bool) (x y : Int) (hm : m.Ok) (he : e.Sk) (hF : Fl m.Z F) (hb : bw = 1 ∨ bw = 2 ∨ bw = 3) (hns : ns = 10000000 ∨ ns = 20000000) (h3 : recs.length < 10000) (hj : j < n) (hn6 : n ≤ (F 6).ys.length)
    (T : ∀ (m e : Ch) (r : List C), m.Ok → e.Sk → Fl m.Z F → RecOk r → WpN 76 177 (tlC 7 y71) (mkE (eY n c1 c2 ns bw false j [(12, .c (.i .i64 j)), (13, .c (.i .i32 x)), (14, .c (.i .i32 y)), (15, .c (.b false))])) (mkS (lay (twoF (.p 29 0) m e (recs ++ [r]) F) 152)) 152 Q) :
    WpN 76 177 (tlC 6 y71) (mkE (eY n c1 c2 ns bw fs j [(12, .c (.i .i64 j)), (13, .c (.i .i32 x)), (14, .c (.i .i32 y)), (15, .c (.b false))])) (mkS (lay (twoF (.p 29 0) m e recs F) 152)) 152 Q := by
  refine WpN.cut (ι := Ch × Ch × List C) (fun _=>(eY n c1 c2 ns bw false j [(12, .c (.i .i64 j)), (13, .c (.i .i32 x)), (14, .c (.i .i32 y)), (15, .c (.b false))])) (fun z => lay (twoF (.p 29 0) z.1 z.2.1 (recs ++ [z.2.2]) F) 152) (fun z => z.1.Ok ∧ z.2.1.Sk ∧ Fl z.1.Z F ∧ RecOk z.2.2) (WpN.vc ?_) (fun z hz => T z.1 z.2.1 z.2.2 hz.1 hz.2.1 hz.2.2.1 hz.2.2.2)
  conv=>whnf
  repeat' first|(refine Lt (by decide) ?_;conv=>whnf)|(refine Lf (by decide) ?_;conv=>whnf)|fail
  refine .inl ⟨by kernel_rfl, ?_⟩
  conv=>whnf
  refine .inl ⟨by kernel_rfl, ?_⟩
  conv=>whnf
  repeat (refine And.intro (by first | omega | exact Int.natCast_nonneg _) ?_; conv=>whnf)
  refine CallQ.useF rhoS (f94 false e.c e.a (e.D.rcOf m.D) e.Z recs _ _ _ ns bw (hm.d.rcOf he.g) he.n he.c (by omega) hb hns) rfl (by kernel_rfl) (stEq_lay (by repeat' (first | exact trivial | refine And.intro ?_ ?_ | kernel_rfl)) 38 0) ?_
  rintro v l' ⟨D, Z, c, a, r, hD, _, hn28, hc4, hro, rfl, rfl⟩
  conv=>whnf
  repeat' first|(refine Lt (by decide) ?_;conv=>whnf)|(refine Lf (by decide) ?_;conv=>whnf)|fail
  exact ⟨(⟨m.D.rcOf D, m.Z, m.c, m.a⟩, ⟨D, Z, c, a⟩, r), ⟨⟨hD.rcOf hm.d.gain, hm.n, hm.c⟩, ⟨hD.gain, hn28, hc4⟩, hF, hro⟩, (Rel.lay alS (by kernel_rfl) (by repeat constructor) (by repeat' (first | exact trivial | refine And.intro ?_ ?_ | kernel_rfl)))⟩
theorem y71_6m {Q : Exit → (Nat → Option V) → (Nat → Option B) → Nat → Prop} (m e : Ch) (recs : List (List C)) (F : Nat → Buf) (n c1 c2 j : Nat) (ns bw : Int) (fs : Bool) (x y : Int)
    (T : WpN 76 177 (tlC 7 y71) (mkE (eY n c1 c2 ns bw fs j [(12, .c (.i .i64 j)), (13, .c (.i .i32 x)), (14, .c (.i .i32 y)), (15, .c (.b true))])) (mkS (lay (twoF (.p 29 0) m e recs F) 152)) 152 Q) :
    WpN 76 177 (tlC 6 y71) (mkE (eY n c1 c2 ns bw fs j [(12, .c (.i .i64 j)), (13, .c (.i .i32 x)), (14, .c (.i .i32 y)), (15, .c (.b true))])) (mkS (lay (twoF (.p 29 0) m e recs F) 152)) 152 Q := by
  refine WpN.cut (ι := Unit) (fun _=>(eY n c1 c2 ns bw fs j [(12, .c (.i .i64 j)), (13, .c (.i .i32 x)), (14, .c (.i .i32 y)), (15, .c (.b true))])) (fun _=>lay (twoF (.p 29 0) m e recs F) 152) (fun _=>True) (WpN.vc ?_) (fun _ _ => T)
  conv=>whnf
  repeat' first|(refine Lt (by decide) ?_;conv=>whnf)|(refine Lf (by decide) ?_;conv=>whnf)|fail
  exact ⟨(), trivial, (Rel.lay [] (by kernel_rfl) (by repeat constructor) (by repeat' (first | exact trivial | refine And.intro ?_ ?_ | kernel_rfl)))⟩
theorem y71_7 {Q : Exit → (Nat → Option V) → (Nat → Option B) → Nat → Prop} (m e : Ch) (recs : List (List C)) (F : Nat → Buf) (n c1 c2 j : Nat) (ns bw : Int) (fs : Bool) (x y : Int) (mo : Bool) (hm : m.Ok) (hF : Fl m.Z F)
    (T : ∀ (m : Ch), m.Ok → Fl m.Z F → ∀ e' st' nx', Rel 76 ⟨e', st', nx', 177⟩ (mkSt (eY n c1 c2 ns bw fs j []) (lay (twoF (.p 29 0) m e recs F) 152) 177) → Q .normal e' st' nx') :
    WpN 76 177 (tlC 7 y71) (mkE (eY n c1 c2 ns bw fs j [(12, .c (.i .i64 j)), (13, .c (.i .i32 x)), (14, .c (.i .i32 y)), (15, .c (.b mo))])) (mkS (lay (twoF (.p 29 0) m e recs F) 152)) 152 Q := by
  refine WpN.seq (WpN.vc ?_)
  conv=>whnf
  refine And.intro (by decide) ?_
  conv=>whnf
  refine WpN.vc ?_
  conv=>whnf
  refine And.intro (by decide) ?_
  conv=>whnf
  exact T ⟨{ m.D with sw0 := x, sw1 := y, om := mo }, m.Z, m.c, m.a⟩ ⟨⟨hm.d.rc, hm.d.gain⟩, hm.n, hm.c⟩ hF _ _ _ (Rel.lay [] (by kernel_rfl) (by repeat constructor) (by repeat' (first | exact trivial | refine And.intro ?_ ?_ | kernel_rfl)))
theorem y71_all {Q : Exit → (Nat → Option V) → (Nat → Option B) → Nat → Prop} (m e : Ch) (recs : List (List C)) (F : Nat → Buf) (n c1 c2 j : Nat) (ns bw : Int) (fs : Bool) (recs0 : List (List C)) (hm : m.Ok) (he : e.Sk) (hF : Fl m.Z F) (hb : bw = 1 ∨ bw = 2 ∨ bw = 3) (hns : ns = 10000000 ∨ ns = 20000000) (hr : More (2 * j) recs0 recs) (h3 : recs0.length < 1000) (hn : n ≤ 3) (hj : j < n) (hn5 : n ≤ (F 5).ys.length) (hn6 : n ≤ (F 6).ys.length)
    (T : ∀ (m e : Ch) (fs : Bool) (recs : List (List C)), m.Ok → e.Sk → Fl m.Z F → More (2 * (j + 1)) recs0 recs → ∀ e' st' nx', Rel 76 ⟨e', st', nx', 177⟩ (mkSt (eY n c1 c2 ns bw fs j []) (lay (twoF (.p 29 0) m e recs F) 152) 177) → Q .normal e' st' nx') :
    WpN 76 177 y71 (mkE (eY n c1 c2 ns bw fs j [])) (mkS (lay (twoF (.p 29 0) m e recs F) 152)) 152 Q := by
  have hl := hr.len
  refine y71_0 m e recs F n c1 c2 j ns bw fs hm he hF hj hn6 fun D x y mo hD => ?_
  refine y71_4 _ e recs F n c1 c2 j ns bw fs x y mo he fun e he => ?_
  refine y71_5 _ e recs F n c1 c2 j ns bw fs x y mo ⟨hD, hm.n, hm.c⟩ he hF hb hns (by omega) hj hn5 fun m r hm hF hro => ?_
  have hr1 := hr.one hro
  cases mo
  · refine y71_6s m e _ F n c1 c2 j ns bw fs x y hm he hF hb hns (by have := hr1.len; omega) hj hn6 fun m e r hm he hF hro => ?_
    have hr2 := hr1.one hro
    exact y71_7 m e _ F n c1 c2 j ns bw false x y false hm hF fun m hm hF => T m e false _ hm he hF (hr2.le (by omega))
  · refine y71_6m m e _ F n c1 c2 j ns bw fs x y ?_
    exact y71_7 m e _ F n c1 c2 j ns bw fs x y true hm hF fun m hm hF => T m e fs _ hm he hF (hr1.le (by omega))
theorem f71_3 (m e : Ch) (recs : List (List C)) (F : Nat → Buf) (n c1 c2 : Nat) (ns bw : Int) (hm : m.Ok) (he : e.Sk) (hF : Fl m.Z F) (hb : bw = 1 ∨ bw = 2 ∨ bw = 3) (hns : ns = 10000000 ∨ ns = 20000000) (h3 : recs.length < 1000) (hn : n ≤ 3) (hn5 : n ≤ (F 5).ys.length) (hn6 : n ≤ (F 6).ys.length) :
    WpN 76 177 (tlC 3 b71) (mkE [(0, .c (.p 0 0)), (1, .c (.sl 81 0 n c1)), (2, .c (.sl 82 0 n c2)), (3, .c (.i .i64 ns)), (4, .c (.i .u8 bw))]) (mkS (lay (twoF .any m e recs F) 152)) 152 (EndR Proofs.Tryz.f71.results.toList 76 177 (PostT (.p 29 0) 6 recs)) := by
  refine WpN.seq (WpN.vc ?_)
  conv=>whnf
  refine .inl ⟨by kernel_rfl, ?_⟩
  conv=>whnf
  refine WpN.seq (WpN.vc ?_)
  conv=>whnf
  refine WpN.seq (WpN.vc ?_)
  conv=>whnf
  refine WpS.loop (ι := Nat × Bool × Ch × Ch × List (List C)) (fun z => mkSt (eY n c1 c2 ns bw z.2.1 z.1 []) (lay (twoF (.p 29 0) z.2.2.1 z.2.2.2.1 z.2.2.2.2 F) 152) 177)
    (fun z => z.1 ≤ n ∧ z.2.2.1.Ok ∧ z.2.2.2.1.Sk ∧ Fl z.2.2.1.Z F ∧ More (2 * z.1) recs z.2.2.2.2) (fun z => n - z.1) (0, true, m, ⟨{ e.D with sid := true }, e.Z, e.c, e.a⟩, recs) ⟨Nat.zero_le _, hm, ⟨he.g, he.n, he.c⟩, hF, .refl _⟩ (Rel.lay [] (by kernel_rfl) (by repeat constructor) (by repeat' (first | exact trivial | refine And.intro ?_ ?_ | kernel_rfl))) ?_
  clear hm he hF
  rintro ⟨j, fs, m, e, rs⟩ ⟨hj, hm, he, hF, hr⟩
  dsimp only at hj hm he hF hr ⊢
  refine WpN.toS (WpN.seq (WpN.vc ?_))
  conv=>whnf
  refine WpN.seq (WpN.vc ?_)
  conv=>whnf
  refine ⟨fun hc => ?_, fun hc => ?_⟩
  · have hc : j < n := by have := of_decide_eq_true hc; omega
    conv=>whnf
    refine WpN.seq (WpN.block ?_)
    refine WpN.weaken (s := mkSt (eY n c1 c2 ns bw fs j []) (lay (twoF (.p 29 0) m e rs F) 152) 177) (Rel.lay [] (by kernel_rfl) (by repeat constructor) (by repeat' (first | exact trivial | refine And.intro ?_ ?_ | kernel_rfl))) rfl ?_
    refine y71_all m e rs F n c1 c2 j ns bw fs recs hm he hF hb hns hr h3 hn hc hn5 hn6 fun m e fs rs hm he hF hr e' st' nx' hR => ?_
    refine WpN.weaken hR rfl (WpN.vc ?_)
    conv=>whnf
    rw [add1 (by omega)]
    exact ⟨(j + 1, fs, m, e, rs), ⟨by dsimp only; omega, hm, he, hF, hr⟩, by dsimp only; omega, (Rel.lay [] (by kernel_rfl) (by repeat constructor) (by repeat' (first | exact trivial | refine And.intro ?_ ?_ | kernel_rfl)))⟩
  · conv=>whnf
    refine ⟨rfl, ?_⟩
    refine WpN.vc ?_
    conv=>whnf
    exact ⟨[], .c (.kv .nilIface), lay (twoF (.p 29 0) ⟨{ m.D with ws := true }, m.Z, m.c, m.a⟩ e rs F) 152, rfl, by kernel_rfl, stEq_lay (by repeat' (first | exact trivial | refine And.intro ?_ ?_ | kernel_rfl)) 152 0, .of ⟨⟨hm.d.rc, hm.d.gain⟩, hm.n, hm.c⟩ he (hr.le (by omega)) hF⟩
theorem f71p (m e : Ch) (recs : List (List C)) (n c1 c2 : Nat) (ns bw : Int) (hm : m.Ok) (he : e.Sk) (hb : bw = 1 ∨ bw = 2 ∨ bw = 3) (hns : ns = 10000000 ∨ ns = 20000000) (h3 : recs.length < 1000) (hn : n ≤ 3) (hn5 : n ≤ (m.Z 5).ys.length) (hn6 : n ≤ (m.Z 6).ys.length) :
    FnS 71 [.c (.p 0 0), .c (.sl 5 0 n c1), .c (.sl 6 0 n c2), .c (.i .i64 ns), .c (.i .u8 bw)] (lay (twoL .any m e recs) 76) (PostT (.p 29 0) 6 recs) := by
  refine FnS.wpR (b := 76) (c := b71) Proofs.Tryz.f71 rfl rfl rfl rfl rfl rfl ?_
  refine WpN.seq (WpN.vc ?_)
  conv=>whnf
  refine WpN.weaken (s := mkSt [(0, .c (.p 0 0)), (1, .c (.sl 81 0 n c1)), (2, .c (.sl 82 0 n c2)), (3, .c (.i .i64 ns)), (4, .c (.i .u8 bw))] (lay (twoF .any m e recs m.Z) 152) 177) (Rel.lay al2 (by kernel_rfl) (by repeat constructor) (by repeat' (first | exact trivial | refine And.intro ?_ ?_ | kernel_rfl))) rfl ?_
  refine WpN.seq (WpN.vc ?_)
  conv=>whnf
  repeat' first|(refine Lt (by decide) ?_;conv=>whnf)|(refine Lf (by decide) ?_;conv=>whnf)|fail
  refine WpN.cut (ι := Ch × Ch) (fun _=>[(0, .c (.p 0 0)), (1, .c (.sl 81 0 n c1)), (2, .c (.sl 82 0 n c2)), (3, .c (.i .i64 ns)), (4, .c (.i .u8 bw))]) (fun z => lay (twoF .any z.1 z.2 recs m.Z) 152) (fun z => z.1.Ok ∧ z.2.Sk ∧ Fl z.1.Z m.Z) (WpN.vc ?_) ?_
  · conv=>whnf
    generalize m.D.ws = ws
    cases ws
    · conv=>whnf
      repeat' first|(refine Lt (by decide) ?_;conv=>whnf)|(refine Lf (by decide) ?_;conv=>whnf)|fail
      refine OpQ.mk (.ag [.i .i32 0, .i .i32 0]) _ _ (fun o ho => OpX.build0 (t := 56) (n := 2) (el := 21) (ce := .i .i32 0) (re := []) rfl rfl rfl ho) ?_
      conv=>whnf
      refine CallQ.useF [] f27 rfl (by kernel_rfl) trivial ?_
      rintro v l' ⟨rfl, rfl⟩
      conv=>whnf
      refine CallQ.useF [0, 77, 78, 79, 80, 81, 82, 83, 84, 85, 86, 87, 88, 89, 90, 91, 92, 93, 94, 95, 96, 97, 98, 99, 24, 101, 102, 103, 104, 29, 106, 152, 108, 109, 110, 111, 112, 113, 114, 153, 154, 155, 156, 157, 158, 159, 160, 161, 162, 163, 164, 165, 166, 167, 168, 169, 170, 171, 172, 173, 174, 175, 176, 177, 178, 179, 180, 181, 182, 183, 184, 185, 186, 187, 188, 189] (f95a m.a (m.c, m.c) { m.D with sw0 := 0, sw1 := 0 } m.Z ch0.a (ch0.c, ch0.c) ch0.D ch0.Z) rfl (by kernel_rfl) (stEq_lay (by repeat' (first | exact trivial | refine And.intro ?_ ?_ | kernel_rfl)) 76 0) ?_
      rintro v l' ⟨rfl, rfl⟩
      conv=>whnf
      exact ⟨(⟨{ m.D with sw0 := 0, sw1 := 0, om := false }, m.Z, m.c, m.a⟩, ⟨{ ch0.D with hav := false, voi := false, lag := 100, gain := 10 }, setZ ch0.Z 28 nilB, ch0.c, ch0.a⟩), ⟨⟨⟨hm.d.rc, hm.d.gain⟩, hm.n, hm.c⟩, ⟨by show (0 : Int) ≤ 10 ∧ (10 : Int) ≤ 63; decide, fun i hi => absurd hi (Nat.not_lt_zero _), .inl rfl⟩, .refl _⟩, (Rel.lay [(107, 152), (115, 153), (116, 154), (117, 155), (118, 156), (119, 157), (120, 158), (121, 159), (122, 160), (123, 161), (124, 162), (125, 163), (126, 164), (127, 165), (128, 166), (129, 167), (130, 168), (131, 169), (132, 170), (133, 171), (134, 172), (135, 173), (136, 174), (137, 175), (138, 176), (139, 177), (140, 178), (141, 179), (142, 190)] (by kernel_rfl) (by repeat constructor) (by repeat' (first | exact trivial | refine And.intro ?_ ?_ | kernel_rfl)))⟩
    · conv=>whnf
      repeat' first|(refine Lt (by decide) ?_;conv=>whnf)|(refine Lf (by decide) ?_;conv=>whnf)|fail
      exact ⟨(m, e), ⟨hm, he, .refl _⟩, (Rel.lay [] (by kernel_rfl) (by repeat constructor) (by repeat' (first | exact trivial | refine And.intro ?_ ?_ | kernel_rfl)))⟩
  rintro ⟨m1, e1⟩ ⟨hm1, he1, hF⟩
  exact f71_3 m1 e1 recs m.Z n c1 c2 ns bw hm1 he1 hF hb hns h3 hn hn5 hn6
theorem f71 (m e : Ch) (recs : List (List C)) (n c1 c2 : Nat) (ns bw : Int) (hm : m.Ok) (he : e.Sk) (hb : bw = 1 ∨ bw = 2 ∨ bw = 3) (hns : ns = 10000000 ∨ ns = 20000000) (h3 : recs.length < 1000) (hn : n ≤ 3) (hn5 : n ≤ (m.Z 5).ys.length) (hn6 : n ≤ (m.Z 6).ys.length) :
    FnS 71 [.c (.p 0 0), .c (.sl 5 0 n c1), .c (.sl 6 0 n c2), .c (.i .i64 ns), .c (.i .u8 bw)] (lay (twoL .any m e recs) 76) (PostT .any 6 recs) := by
  refine FnS.behind (f71p m e recs n c1 c2 ns bw hm he hb hns h3 hn hn5 hn6) ?_
  rintro v l' ⟨m', e', rs, h1, h2, h3, rfl, rfl⟩
  refine ⟨_, _, ⟨m', e', rs, h1, h2, h3, rfl, rfl⟩, RelM.of_rel rfl rfl (by rw [lay_len, lay_len]; decide) (by rw [lay_len, lay_len]; decide) ?_⟩
  refine Rel.trans (Rel.tellC (nm := 107) (i := 44) (c := (.p 29 0)) .any rfl rfl (fun _ _ _ => .any) (fun _ h => h)) ?_
  exact Rel.lay (k := 152) [] (E := [(0, .c (.kv .nilIface))]) (l := twoH .any m' e' rs) (by kernel_rfl) (by repeat constructor) (by repeat' (first | exact trivial | refine And.intro ?_ ?_ | kernel_rfl))
@[reducible] def twoD (m e : Ch) (recs : List (List C)) : List (Nat × B) := [(40, .st (cellsP (.p 71 0) (.p 29 0) [(1, 41), (2, 42), (3, 43), (4, 44), (5, 45), (6, 46), (7, 47), (8, 48), (9, 49), (10, 50), (11, 51), (12, 52), (13, 53), (14, 54), (15, 55), (16, 56), (17, 57), (18, 58), (19, 59), (20, 60), (21, 61), (22, 62), (23, 63), (24, 64), (25, 65), (26, 66), (27, 67), (28, 68)] m.a (m.c, m.c) m.D m.Z)), (41, .ar false .u8 (m.Z 1).xs), (42, .ar false .u8 (m.Z 2).xs), (43, .ar false .i32 (m.Z 3).xs), (44, .ar false .i32 (m.Z 4).xs), (45, .bl false (m.Z 5).ys), (46, .bl false (m.Z 6).ys), (47, .bl false (m.Z 7).ys), (48, .bl false (m.Z 8).ys), (49, .ar false .i32 (m.Z 9).xs), (50, .ar false .i8 (m.Z 10).xs), (51, .ar false .i16 (m.Z 11).xs), (52, .ar false .i16 (m.Z 12).xs), (53, .ar false .u64 (m.Z 13).xs), (54, .ar false .i16 (m.Z 14).xs), (55, .ar false .i16 (m.Z 15).xs), (56, .ar false .i32 (m.Z 16).xs), (57, .ar false .i32 (m.Z 17).xs), (58, .ar false .i32 (m.Z 18).xs), (59, .ar false .i32 (m.Z 19).xs), (60, .ar false .i16 (m.Z 20).xs), (61, .ar false .i16 (m.Z 21).xs), (62, .ar false .i16 (m.Z 22).xs), (63, .ar false .i16 (m.Z 23).xs), (65, .ar false .i64 (m.Z 25).xs), (67, .ar false .i8 (m.Z 27).xs), (68, .ar false .i16 (m.Z 28).xs), (64, .un 2), (66, .un m.c), (71, .st (cellsP .np (.p 29 0) [(1, 79), (2, 80), (3, 81), (4, 82), (5, 83), (6, 84), (7, 85), (8, 86), (9, 87), (10, 88), (11, 89), (12, 90), (13, 91), (14, 92), (15, 93), (16, 94), (17, 95), (18, 96), (19, 97), (20, 98), (21, 99), (22, 100), (23, 101), (24, 102), (25, 103), (26, 104), (27, 105), (28, 106)] e.a (e.c, e.c) e.D e.Z)), (79, .ar false .u8 (e.Z 1).xs), (80, .ar false .u8 (e.Z 2).xs), (81, .ar false .i32 (e.Z 3).xs), (82, .ar false .i32 (e.Z 4).xs), (87, .ar false .i32 (e.Z 9).xs), (88, .ar false .i8 (e.Z 10).xs), (89, .ar false .i16 (e.Z 11).xs), (90, .ar false .i16 (e.Z 12).xs), (91, .ar false .u64 (e.Z 13).xs), (92, .ar false .i16 (e.Z 14).xs), (93, .ar false .i16 (e.Z 15).xs), (94, .ar false .i32 (e.Z 16).xs), (95, .ar false .i32 (e.Z 17).xs), (96, .ar false .i32 (e.Z 18).xs), (97, .ar false .i32 (e.Z 19).xs), (98, .ar false .i16 (e.Z 20).xs), (99, .ar false .i16 (e.Z 21).xs), (100, .ar false .i16 (e.Z 22).xs), (101, .ar false .i16 (e.Z 23).xs), (103, .ar false .i64 (e.Z 25).xs), (105, .ar false .i8 (e.Z 27).xs), (106, .ar false .i16 (e.Z 28).xs), (102, .un 2), (104, .un e.c), (29, .st [.osl 70 recs.length]), (70, .rs true 24 recs)]
@[reducible] def rhoD : List Nat := [40, 41, 42, 43, 44, 45, 46, 47, 48, 49, 50, 51, 52, 53, 54, 55, 56, 57, 58, 59, 60, 61, 62, 63, 64, 65, 66, 67, 68, 29, 70, 71, 72, 73, 74, 75, 76, 77, 78, 79, 80, 81, 82, 83, 84, 85, 86, 87, 88, 89, 90, 91, 92, 93, 94, 95, 96, 97, 98, 99, 100, 101, 102, 103, 104, 105, 106, 107, 108, 109, 110, 111, 112, 113, 114, 115]
@[reducible] def alD : List (Nat × Nat) := [(41, 117), (42, 118), (43, 119), (44, 120), (45, 121), (46, 122), (47, 123), (48, 124), (49, 125), (50, 126), (51, 127), (52, 128), (53, 129), (54, 130), (55, 131), (56, 132), (57, 133), (58, 134), (59, 135), (60, 136), (61, 137), (62, 138), (63, 139), (65, 141), (66, 142), (67, 143), (68, 144), (70, 146), (71, 147), (72, 148), (73, 149), (74, 150), (75, 151), (76, 152), (77, 153), (78, 154), (79, 155), (80, 156), (81, 157), (82, 158), (83, 159), (84, 160), (85, 161), (86, 162), (87, 163), (88, 164), (89, 165), (90, 166), (91, 167), (92, 168), (93, 169), (94, 170), (95, 171), (96, 172), (97, 173), (98, 174), (99, 175), (100, 176), (101, 177), (102, 178), (103, 179), (104, 180), (105, 181), (106, 182), (107, 183), (108, 184), (109, 185), (110, 186), (111, 187), (112, 188), (113, 189), (114, 190), (115, 191)]
noncomputable def b69 : Code := match Proofs.Tryz.f69.body with | some c => c | none => .skip
@[reducible] def in69 (a : Nat) (q : Nat × Nat) (D : Dec) (Z : Nat → Buf) (y7 y8 : List Bool) (recs : List (List C)) : List (Nat × B) := (0, .st (cellsP (.p 31 0) (.p 29 0) [] a q D Z)) :: (7, .bl false y7) :: (8, .bl false y8) :: [(29, .st [.osl 30 recs.length]), (30, .rs true 24 recs)]
def Post69 (a : Nat) (q : Nat × Nat) (D : Dec) (Z : Nat → Buf) (y7 y8 : List Bool) (recs : List (List C)) (v : V) (l' : List (Option B)) : Prop :=
  ∃ (D1 : Dec) (recs' : List (List C)), D1.Ok ∧ More 6 recs recs' ∧ v = .c (.kv .nilIface) ∧ l' = lay ((0, .st (cellsP (.p 31 0) (.p 29 0) [] a q (D.rcOf D1) Z)) :: (7, .bl false y7) :: (8, .bl false y8) :: [(29, .st [.osl 38 recs'.length]), (38, .rs true 24 recs')]) 39
theorem f69_8f (a : Nat) (q : Nat × Nat) (D : Dec) (Z : Nat → Buf) (y7 y8 : List Bool) (m e : Ch) (recs : List (List C)) (n c7 c8 : Nat) (ns bw : Int) (hm : m.Ok) (he : e.Sk) (hb : bw = 1 ∨ bw = 2 ∨ bw = 3) (hns : ns = 10000000 ∨ ns = 20000000) (h3 : recs.length < 900) (hn : n ≤ 3) (hn7 : n ≤ y7.length) :
    WpN 38 104 (tlC 8 b69) (mkE [(0, .c (.p 0 0)), (1, .c (.sl 7 0 n c7)), (2, .c .nsl), (3, .c (.b false)), (4, .c (.i .i64 ns)), (5, .c (.i .u8 bw)), (14, .c (.p 40 0))]) (mkS (lay ((0, .st (cellsP (.p 31 0) (.p 29 0) [] a q D Z)) :: (7, .bl false y7) :: (8, .bl false y8) :: twoD m e recs) 116)) 116 (EndR Proofs.Tryz.f69.results.toList 38 104 (Post69 a q D Z y7 y8 recs)) := by
  refine WpN.seq (WpN.vc ?_)
  conv=>whnf
  refine WpN.seq (WpN.vc ?_)
  conv=>whnf
  refine WpN.seq (WpN.vc ?_)
  conv=>whnf
  refine WpS.loop (ι := Nat × Ch × Ch × List (List C) × Bool × Bool) (fun z => mkSt ([(0, .c (.p 0 0)), (1, .c (.sl 7 0 n c7)), (2, .c .nsl), (3, .c (.b false)), (4, .c (.i .i64 ns)), (5, .c (.i .u8 bw)), (14, .c (.p 40 0)), (15, .c (.b z.2.2.2.2.1)), (16, .c (.b z.2.2.2.2.2)), (60, .c (.i .i64 n)), (61, .c (.i .i64 z.1))]) (lay ((0, .st (cellsP (.p 31 0) (.p 29 0) [] a q D Z)) :: (7, .bl false y7) :: (8, .bl false y8) :: twoD z.2.1 z.2.2.1 z.2.2.2.1) 116) 104)
    (fun z => z.1 ≤ n ∧ z.2.1.Ok ∧ z.2.2.1.Sk ∧ More (2 * z.1) recs z.2.2.2.1) (fun z => n - z.1) (0, m, e, recs, false, false) ⟨Nat.zero_le _, hm, he, .refl _⟩ (Rel.lay [] (by kernel_rfl) (by repeat constructor) (by repeat' (first | exact trivial | refine And.intro ?_ ?_ | kernel_rfl))) ?_
  clear hm he
  rintro ⟨j, m, e, rs, pm, ps⟩ ⟨hj, hm, he, hr⟩
  dsimp only at hj hm he hr ⊢
  have hrl := hr.len
  refine VC_ok ?_
  conv=>whnf
  refine ⟨fun hc => ?_, fun hc => ?_⟩
  · have hc : j < n := by have := of_decide_eq_true hc; omega
    conv=>whnf
    repeat (refine And.intro (by first | omega | exact Int.natCast_nonneg _) ?_; conv=>whnf)
    repeat' first|(refine Lt (by decide) ?_;conv=>whnf)|(refine Lf (by decide) ?_;conv=>whnf)|fail
    repeat (refine And.intro (by first | omega | exact Int.natCast_nonneg _) ?_; conv=>whnf)
    repeat' first|(refine Lt (by decide) ?_;conv=>whnf)|(refine Lf (by decide) ?_;conv=>whnf)|fail
    repeat (refine And.intro (by first | omega | exact Int.natCast_nonneg _) ?_; conv=>whnf)
    repeat' first|(refine Lt (by decide) ?_;conv=>whnf)|(refine Lf (by decide) ?_;conv=>whnf)|fail
    repeat (refine And.intro (by first | omega | exact Int.natCast_nonneg _) ?_; conv=>whnf)
    repeat' first|(refine Lt (by decide) ?_;conv=>whnf)|(refine Lf (by decide) ?_;conv=>whnf)|fail
    repeat (refine And.intro (by first | omega | exact Int.natCast_nonneg _) ?_; conv=>whnf)
    repeat' first|(refine Lt (by decide) ?_;conv=>whnf)|(refine Lf (by decide) ?_;conv=>whnf)|fail
    generalize ((j : Int) == 0) = z0
    cases z0
    all_goals
      conv=>whnf
      repeat' first|(refine Lt (by decide) ?_;conv=>whnf)|(refine Lf (by decide) ?_;conv=>whnf)|fail
      generalize ((j : Int) == 0) = z1
      cases z1
    all_goals
      conv=>whnf
      repeat' first|(refine Lt (by decide) ?_;conv=>whnf)|(refine Lf (by decide) ?_;conv=>whnf)|fail
      refine CallQ.useF rhoD (f93 m e rs _ _ _ _ _ ns bw hm he (by omega) hb hns) rfl (by kernel_rfl) (stEq_lay (by repeat' (first | exact trivial | refine And.intro ?_ ?_ | kernel_rfl)) 76 0) ?_
      rintro v l' ⟨m1, e1, rs1, hm1, he1, hr1, rfl, rfl⟩
      conv=>whnf
      repeat' first|(refine Lt (by decide) ?_;conv=>whnf)|(refine Lf (by decide) ?_;conv=>whnf)|fail
      rw [add1 (by omega)]
      exact ⟨(j + 1, m1, e1, rs1, _, _), ⟨by dsimp only; omega, hm1, he1, hr.trans hr1⟩, by dsimp only; omega, (Rel.lay alD (by kernel_rfl) (by repeat constructor) (by repeat' (first | exact trivial | refine And.intro ?_ ?_ | kernel_rfl)))⟩
  · conv=>whnf
    refine ⟨rfl, ?_⟩
    refine WpN.vc ?_
    conv=>whnf
    refine ⟨[(38, 70)], .c (.kv .nilIface), lay ((0, .st (cellsP (.p 31 0) (.p 29 0) [] a q (D.rcOf m.D) Z)) :: (7, .bl false y7) :: (8, .bl false y8) :: [(29, .st [.osl 38 rs.length]), (38, .rs true 24 rs)]) 39, rfl, by kernel_rfl, stEq_lay (by repeat' (first | exact trivial | refine And.intro ?_ ?_ | kernel_rfl)) 39 0, ?_⟩
    exact ⟨m.D, rs, hm.d, hr.le (by omega), rfl, rfl⟩
theorem f69_8t (a : Nat) (q : Nat × Nat) (D : Dec) (Z : Nat → Buf) (y7 y8 : List Bool) (m e : Ch) (recs : List (List C)) (n c7 c8 : Nat) (ns bw : Int) (hm : m.Ok) (he : e.Sk) (hb : bw = 1 ∨ bw = 2 ∨ bw = 3) (hns : ns = 10000000 ∨ ns = 20000000) (h3 : recs.length < 900) (hn : n ≤ 3) (hn7 : n ≤ y7.length) (hn8 : n ≤ y8.length) :
    WpN 38 104 (tlC 8 b69) (mkE [(0, .c (.p 0 0)), (1, .c (.sl 7 0 n c7)), (2, .c (.sl 8 0 n c8)), (3, .c (.b true)), (4, .c (.i .i64 ns)), (5, .c (.i .u8 bw)), (14, .c (.p 40 0))]) (mkS (lay ((0, .st (cellsP (.p 31 0) (.p 29 0) [] a q D Z)) :: (7, .bl false y7) :: (8, .bl false y8) :: twoD m e recs) 116)) 116 (EndR Proofs.Tryz.f69.results.toList 38 104 (Post69 a q D Z y7 y8 recs)) := by
  refine WpN.seq (WpN.vc ?_)
  conv=>whnf
  refine WpN.seq (WpN.vc ?_)
  conv=>whnf
  refine WpN.seq (WpN.vc ?_)
  conv=>whnf
  refine WpS.loop (ι := Nat × Ch × Ch × List (List C) × Bool × Bool) (fun z => mkSt ([(0, .c (.p 0 0)), (1, .c (.sl 7 0 n c7)), (2, .c (.sl 8 0 n c8)), (3, .c (.b true)), (4, .c (.i .i64 ns)), (5, .c (.i .u8 bw)), (14, .c (.p 40 0)), (15, .c (.b z.2.2.2.2.1)), (16, .c (.b z.2.2.2.2.2)), (60, .c (.i .i64 n)), (61, .c (.i .i64 z.1))]) (lay ((0, .st (cellsP (.p 31 0) (.p 29 0) [] a q D Z)) :: (7, .bl false y7) :: (8, .bl false y8) :: twoD z.2.1 z.2.2.1 z.2.2.2.1) 116) 104)
    (fun z => z.1 ≤ n ∧ z.2.1.Ok ∧ z.2.2.1.Sk ∧ More (2 * z.1) recs z.2.2.2.1) (fun z => n - z.1) (0, m, e, recs, false, false) ⟨Nat.zero_le _, hm, he, .refl _⟩ (Rel.lay [] (by kernel_rfl) (by repeat constructor) (by repeat' (first | exact trivial | refine And.intro ?_ ?_ | kernel_rfl))) ?_
  clear hm he
  rintro ⟨j, m, e, rs, pm, ps⟩ ⟨hj, hm, he, hr⟩
  dsimp only at hj hm he hr ⊢
  have hrl := hr.len
  refine VC_ok ?_
  conv=>whnf
  refine ⟨fun hc => ?_, fun hc => ?_⟩
  · have hc : j < n := by have := of_decide_eq_true hc; omega
    conv=>whnf
    repeat (refine And.intro (by first | omega | exact Int.natCast_nonneg _) ?_; conv=>whnf)
    repeat' first|(refine Lt (by decide) ?_;conv=>whnf)|(refine Lf (by decide) ?_;conv=>whnf)|fail
    repeat (refine And.intro (by first | omega | exact Int.natCast_nonneg _) ?_; conv=>whnf)
    repeat' first|(refine Lt (by decide) ?_;conv=>whnf)|(refine Lf (by decide) ?_;conv=>whnf)|fail
    repeat (refine And.intro (by first | omega | exact Int.natCast_nonneg _) ?_; conv=>whnf)
    repeat' first|(refine Lt (by decide) ?_;conv=>whnf)|(refine Lf (by decide) ?_;conv=>whnf)|fail
    repeat (refine And.intro (by first | omega | exact Int.natCast_nonneg _) ?_; conv=>whnf)
    repeat' first|(refine Lt (by decide) ?_;conv=>whnf)|(refine Lf (by decide) ?_;conv=>whnf)|fail
    repeat (refine And.intro (by first | omega | exact Int.natCast_nonneg _) ?_; conv=>whnf)
    repeat' first|(refine Lt (by decide) ?_;conv=>whnf)|(refine Lf (by decide) ?_;conv=>whnf)|fail
    generalize ((j : Int) == 0) = z0
    cases z0
    all_goals
      conv=>whnf
      repeat' first|(refine Lt (by decide) ?_;conv=>whnf)|(refine Lf (by decide) ?_;conv=>whnf)|fail
      generalize ((j : Int) == 0) = z1
      cases z1
    all_goals
      conv=>whnf
      repeat' first|(refine Lt (by decide) ?_;conv=>whnf)|(refine Lf (by decide) ?_;conv=>whnf)|fail
      refine CallQ.useF rhoD (f93 m e rs _ _ _ _ _ ns bw hm he (by omega) hb hns) rfl (by kernel_rfl) (stEq_lay (by repeat' (first | exact trivial | refine And.intro ?_ ?_ | kernel_rfl)) 76 0) ?_
      rintro v l' ⟨m1, e1, rs1, hm1, he1, hr1, rfl, rfl⟩
      conv=>whnf
      repeat' first|(refine Lt (by decide) ?_;conv=>whnf)|(refine Lf (by decide) ?_;conv=>whnf)|fail
      rw [add1 (by omega)]
      exact ⟨(j + 1, m1, e1, rs1, _, _), ⟨by dsimp only; omega, hm1, he1, hr.trans hr1⟩, by dsimp only; omega, (Rel.lay alD (by kernel_rfl) (by repeat constructor) (by repeat' (first | exact trivial | refine And.intro ?_ ?_ | kernel_rfl)))⟩
  · conv=>whnf
    refine ⟨rfl, ?_⟩
    refine WpN.vc ?_
    conv=>whnf
    refine ⟨[(38, 70)], .c (.kv .nilIface), lay ((0, .st (cellsP (.p 31 0) (.p 29 0) [] a q (D.rcOf m.D) Z)) :: (7, .bl false y7) :: (8, .bl false y8) :: [(29, .st [.osl 38 rs.length]), (38, .rs true 24 rs)]) 39, rfl, by kernel_rfl, stEq_lay (by repeat' (first | exact trivial | refine And.intro ?_ ?_ | kernel_rfl)) 39 0, ?_⟩
    exact ⟨m.D, rs, hm.d, hr.le (by omega), rfl, rfl⟩
end Go.SX
