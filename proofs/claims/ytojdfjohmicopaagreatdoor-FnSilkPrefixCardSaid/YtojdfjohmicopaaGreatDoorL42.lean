/- A part of the proof: the SILK decoder of the given program, walked by an executor that is proved sound. No statement of the program is proved in this text. -/
import Derived.Test.YtojdfjohmicopaaGreatDoorRows
import Derived.ProofKit
import Derived.LaidMore
import Derived.OpenShut
import Derived.Stop.Joined
import Derived.SevenTiedAt
import Derived.Deep.Slices
import Derived.Deep.Strs
import Derived.Lib.SmallJoins
import Derived.Test.YtojdfjohmicopaaGreatDoorCards
import Derived.Test.YtojdfjohmicopaaGreatDoorTie
import Derived.LaidSub
import Derived.Lib.LaidTab
import Derived.Lib.ItoaNum
import Derived.Test.YtojdfjohmicopaaGreatDoorL37
import Derived.Test.YtojdfjohmicopaaGreatDoorL38
import Derived.Test.YtojdfjohmicopaaGreatDoorL41
set_option linter.all false
set_option maxRecDepth 100000
namespace Go.SX
open Go
theorem FreeQ.str {f N : Nat} {vs : List V} {K : V → Prop} (h : FnS f vs [] fun v l' => ∃ s : ByteArray, v = .c (.s s) ∧ s.size ≤ N ∧ l' = []) (hv : ∀ nx, renVs (sh [] nx) vs = vs) (hb : belowVs 0 vs = true) (hk : ∀ s : ByteArray, s.size ≤ N → K (.c (.s s))) : FreeQ f vs K :=
  FreeQ.use (P := fun v => ∃ s : ByteArray, v = .c (.s s) ∧ s.size ≤ N) (h.mono fun v l' ⟨s, h1, h2, h3⟩ => ⟨⟨s, h1, h2⟩, h3⟩) hv hb (fun v ⟨s, h1, _⟩ nx => by subst h1; rfl) fun v ⟨s, h1, h2⟩ => by subst h1; exact hk s h2
theorem size_one (b : UInt8) : (ByteArray.mk #[b]).size = 1 := rfl
set_option maxHeartbeats 4000000 in
theorem f8 (hG : GL = GLP) (T : List (List C)) (hT : ∀ t ∈ T, TdOk t) (hI : ∀ t ∈ T, TdI t) (hn : T.length ≤ 1000) : FnS 8 [.c (.irs 7 T)] [] fun v l' => ∃ s : ByteArray, v = .c (.s s) ∧ l' = [] := by
  refine FnS.wpR (b := 0) Proofs.Tryz.f8 rfl rfl rfl rfl rfl rfl ?_
  refine WpN.seq (WpN.vc ?_)
  conv=>whnf
  refine WpN.seq (WpN.vc ?_)
  conv=>whnf
  refine WpN.seq (WpN.vc ?_)
  conv=>whnf
  refine WpS.loop (ι := Nat × ByteArray) (fun x => mkSt [(3, .c (.s x.2)), (8, .c (.irs 7 T)), (9, .c (.i .i64 T.length)), (10, .c (.i .i64 x.1))] [] 132) (fun x => x.1 ≤ T.length ∧ x.2.size ≤ 200000 * x.1) (fun x => T.length - x.1) (0, ByteArray.empty) ⟨Nat.zero_le _, by decide⟩ (Ren.relOf [] (by kernel_rfl) (by repeat constructor) (by repeat' (first | exact trivial | refine And.intro ?_ ?_ | kernel_rfl))) ?_
  rintro ⟨i, s⟩ ⟨hi, hs⟩
  dsimp only at hi hs ⊢
  refine VC_ok ?_
  conv=>whnf
  refine ⟨fun hc => ?_, fun hc => ?_⟩
  · have hc : i < T.length := by have := of_decide_eq_true hc; omega
    obtain ⟨va, sv, ag, sa, fs, rg, tl, ht, l1, l2, l3, l4, hfl, hF⟩ := getD_in (d := ([] : List C)) hT hc
    obtain ⟨hFI, htl⟩ := getD_in (d := ([] : List C)) hI hc va sv ag sa fs rg tl ht
    conv=>whnf
    refine And.intro (by omega) ?_
    rw [Int.toNat_natCast, ht]
    conv=>whnf
    refine And.intro rfl ?_
    conv=>whnf
    refine .inr (WpS.drawW [0, 0, 1, 0, 0, 0, 1, 0, 0, 0, 1, 0, 0, 0, 1, 0, 0, 0, 1, 0, 0, 1, 0, 0, 0, 0, 0] (fun st2 => st2 0 = some (.st (tdC va sv ag sa fs rg tl))) (by kernel_rfl) ?_)
    conv=>whnf
    refine ⟨_, ⟨rfl, fun st2 h2 => ⟨_, h2, .inl rfl⟩⟩, ?_⟩
    conv=>whnf
    refine FreeQ.str (f20 va (by omega)) (fun _=>rfl) rfl fun z0 hz0 => ?_
    conv=>whnf
    refine And.intro (by simp only [size_app, size_one]; omega) ?_
    conv=>whnf
    refine ⟨_, ⟨rfl, fun st2 h2 => ⟨_, h2, .inl rfl⟩⟩, ?_⟩
    conv=>whnf
    refine FreeQ.str (f20 sv (by omega)) (fun _=>rfl) rfl fun z1 hz1 => ?_
    conv=>whnf
    refine And.intro (by simp only [size_app, size_one]; omega) ?_
    conv=>whnf
    refine ⟨_, ⟨rfl, fun st2 h2 => ⟨_, h2, .inl rfl⟩⟩, ?_⟩
    conv=>whnf
    refine FreeQ.str (f20 ag (by omega)) (fun _=>rfl) rfl fun z2 hz2 => ?_
    conv=>whnf
    refine And.intro (by simp only [size_app, size_one]; omega) ?_
    conv=>whnf
    refine ⟨_, ⟨rfl, fun st2 h2 => ⟨_, h2, .inl rfl⟩⟩, ?_⟩
    conv=>whnf
    refine FreeQ.str (f20 sa (by omega)) (fun _=>rfl) rfl fun z3 hz3 => ?_
    conv=>whnf
    refine And.intro (by simp only [size_app, size_one]; omega) ?_
    conv=>whnf
    refine ⟨_, ⟨rfl, fun st2 h2 => ⟨_, h2, .inl rfl⟩⟩, ?_⟩
    conv=>whnf
    refine ⟨_, ⟨rfl, fun st2 h2 => ⟨_, h2, .inl rfl⟩⟩, ?_⟩
    conv=>whnf
    refine FreeQ.str (f21 hG [IntKind.i64.wrap rg, tl] (by simp only [List.length_cons, List.length_nil]; omega) (by intro x hx; rcases List.mem_cons.1 hx with rfl | hx; exact i64w _; rcases List.mem_cons.1 hx with rfl | hx; exact htl; cases hx)) (fun _=>rfl) rfl fun z4 hz4 => ?_
    simp only [List.length_cons, List.length_nil] at hz4
    conv=>whnf
    refine And.intro (by simp only [size_app, size_one]; omega) ?_
    conv=>whnf
    refine And.intro (by simp only [size_app, size_one]; omega) ?_
    conv=>whnf
    refine ⟨rfl, ?_⟩
    conv=>whnf
    refine WpS.loop (ι := Nat × ByteArray) (fun x => mkSt [(3, .c (.s x.2)), (5, .c (.p 0 0)), (8, .c (.irs 7 T)), (9, .c (.i .i64 T.length)), (10, .c (.i .i64 i)), (41, .c (.irs 24 fs)), (42, .c (.i .i64 fs.length)), (43, .c (.i .i64 x.1))] [some (.st (tdC va sv ag sa fs rg tl))] 132) (fun x => x.1 ≤ fs.length ∧ x.2.size ≤ 200000 * i + 100 + 13000 * x.1) (fun x => fs.length - x.1) (0, s ++ (((((⟨#[40]⟩ ++ z0) ++ z1) ++ z2) ++ z3) ++ z4)) ⟨Nat.zero_le _, by dsimp only; simp only [size_app, size_one]; omega⟩ (Ren.relOf [] (by kernel_rfl) (by repeat constructor) (by repeat' (first | exact trivial | refine And.intro ?_ ?_ | kernel_rfl))) ?_
    clear hz0 hz1 hz2 hz3 hz4 z0 z1 z2 z3 z4 hs s
    rintro ⟨j, s⟩ ⟨hj, hs⟩
    dsimp only at hj hs ⊢
    refine VC_ok ?_
    conv=>whnf
    refine ⟨fun hc => ?_, fun hc => ?_⟩
    · have hc : j < fs.length := by have := of_decide_eq_true hc; omega
      obtain ⟨b1, b2, b3, b4, w0, w1, k, o, gs, i1, rs, ns, ms, w, fl, mx, lg, ts, sc, sd, rl, ps, ls, es, hy, _, _, _, _, m1, m2, m3, m4, m5, hfl2, m7, m8, hts2, m10, m11, m12⟩ := getD_in (d := ([] : List C)) hF hc
      have hyy : fs.getD j [] = frN b1 b2 b3 b4 w0 w1 k o gs i1 rs ns ms w fl mx lg ts sc sd rl ps ls es := hy
      have hin : FrI (frN b1 b2 b3 b4 w0 w1 k o gs i1 rs ns ms w fl mx lg ts sc sd rl ps ls es) := hyy ▸ getD_in (d := ([] : List C)) hFI hc
      simp only [FrI, frN, List.mem_cons, List.not_mem_nil, or_false, forall_eq_or_imp, forall_eq, CI, true_and] at hin
      obtain ⟨i0, i1', ik, io, hgs, ii1, hrs, hns, hms, iw, hfl1, imx, hlg, hts1, isc, isd, irl, hps, hls, hes⟩ := hin
      conv=>whnf
      refine And.intro (by omega) ?_
      rw [Int.toNat_natCast, hyy]
      conv=>whnf
      refine And.intro rfl ?_
      conv=>whnf
      refine .inr (WpS.drawW [0, 0, 1, 0, 1, 0, 1, 0, 1, 0, 0, 0, 0, 1, 0, 1, 0, 1, 0, 1, 0, 1, 0, 1, 0, 1, 0, 1, 0, 1, 0, 0, 0, 0, 1, 0, 0, 0, 0, 1, 0, 0, 0, 1, 0, 0, 0, 1, 0, 0, 0, 1, 0, 0, 0, 1, 0, 0, 0, 1, 0, 0, 0, 1, 0, 0, 0, 1, 0, 0, 0, 1, 0, 0, 0, 1, 0, 0, 0, 0, 0] (fun st2 => st2 1 = some (.st (frN b1 b2 b3 b4 w0 w1 k o gs i1 rs ns ms w fl mx lg ts sc sd rl ps ls es))) (by kernel_rfl) ?_)
      conv=>whnf
      refine ⟨_, ⟨rfl, fun st2 h2 => ⟨_, h2, .inl rfl⟩⟩, ?_⟩
      conv=>whnf
      refine ⟨_, ⟨rfl, fun st2 h2 => ⟨_, h2, .inl rfl⟩⟩, ?_⟩
      conv=>whnf
      refine ⟨_, ⟨rfl, fun st2 h2 => ⟨_, h2, .inl rfl⟩⟩, ?_⟩
      conv=>whnf
      refine ⟨_, ⟨rfl, fun st2 h2 => ⟨_, h2, .inl rfl⟩⟩, ?_⟩
      conv=>whnf
      refine FreeQ.str (f20 [b1, b2, b3, b4] (by simp only [List.length_cons, List.length_nil]; omega)) (fun _=>rfl) rfl fun z0 hz0 => ?_
      simp only [List.length_cons, List.length_nil] at hz0
      conv=>whnf
      refine And.intro (by simp only [size_app, size_one]; omega) ?_
      conv=>whnf
      refine ⟨_, ⟨rfl, fun st2 h2 => ⟨_, h2, .inl rfl⟩⟩, ?_⟩
      conv=>whnf
      refine ⟨_, ⟨rfl, fun st2 h2 => ⟨_, h2, .inl rfl⟩⟩, ?_⟩
      conv=>whnf
      refine ⟨_, ⟨rfl, fun st2 h2 => ⟨_, h2, .inl rfl⟩⟩, ?_⟩
      conv=>whnf
      refine ⟨_, ⟨rfl, fun st2 h2 => ⟨_, h2, .inl rfl⟩⟩, ?_⟩
      conv=>whnf
      refine ⟨_, ⟨rfl, fun st2 h2 => ⟨_, h2, .inl rfl⟩⟩, ?_⟩
      conv=>whnf
      refine ⟨_, ⟨rfl, fun st2 h2 => ⟨_, h2, .inl rfl⟩⟩, ?_⟩
      conv=>whnf
      refine ⟨_, ⟨rfl, fun st2 h2 => ⟨_, h2, .inl rfl⟩⟩, ?_⟩
      conv=>whnf
      refine ⟨_, ⟨rfl, fun st2 h2 => ⟨_, h2, .inl rfl⟩⟩, ?_⟩
      conv=>whnf
      refine ⟨_, ⟨rfl, fun st2 h2 => ⟨_, h2, .inl rfl⟩⟩, ?_⟩
      conv=>whnf
      refine FreeQ.str (f21 hG [w0, w1, k, o, i1, w, mx, sc, rl] (by simp only [List.length_cons, List.length_nil]; omega) (by intro x hx; simp only [List.mem_cons, List.not_mem_nil, or_false] at hx; rcases hx with rfl | rfl | rfl | rfl | rfl | rfl | rfl | rfl | rfl <;> assumption)) (fun _=>rfl) rfl fun z1 hz1 => ?_
      simp only [List.length_cons, List.length_nil] at hz1
      conv=>whnf
      refine And.intro (by simp only [size_app, size_one]; omega) ?_
      conv=>whnf
      refine ⟨_, ⟨rfl, fun st2 h2 => ⟨_, h2, .inl rfl⟩⟩, ?_⟩
      conv=>whnf
      refine FreeQ.str (f22 hG [sd] (by simp only [List.length_cons, List.length_nil]; omega) (by intro x hx; simp only [List.mem_cons, List.not_mem_nil, or_false] at hx; rcases hx with rfl <;> assumption)) (fun _=>rfl) rfl fun z2 hz2 => ?_
      simp only [List.length_cons, List.length_nil] at hz2
      conv=>whnf
      refine And.intro (by simp only [size_app, size_one]; omega) ?_
      conv=>whnf
      refine ⟨_, ⟨rfl, fun st2 h2 => ⟨_, h2, .inl rfl⟩⟩, ?_⟩
      conv=>whnf
      refine FreeQ.str (f22 hG gs (by omega) hgs) (fun _=>rfl) rfl fun z3 hz3 => ?_
      conv=>whnf
      refine And.intro (by simp only [size_app, size_one]; omega) ?_
      conv=>whnf
      refine ⟨_, ⟨rfl, fun st2 h2 => ⟨_, h2, .inl rfl⟩⟩, ?_⟩
      conv=>whnf
      refine FreeQ.str (f21 hG rs (by omega) hrs) (fun _=>rfl) rfl fun z4 hz4 => ?_
      conv=>whnf
      refine And.intro (by simp only [size_app, size_one]; omega) ?_
      conv=>whnf
      refine ⟨_, ⟨rfl, fun st2 h2 => ⟨_, h2, .inl rfl⟩⟩, ?_⟩
      conv=>whnf
      refine FreeQ.str (f21 hG ns (by omega) hns) (fun _=>rfl) rfl fun z5 hz5 => ?_
      conv=>whnf
      refine And.intro (by simp only [size_app, size_one]; omega) ?_
      conv=>whnf
      refine ⟨_, ⟨rfl, fun st2 h2 => ⟨_, h2, .inl rfl⟩⟩, ?_⟩
      conv=>whnf
      refine FreeQ.str (f21 hG ms (by omega) hms) (fun _=>rfl) rfl fun z6 hz6 => ?_
      conv=>whnf
      refine And.intro (by simp only [size_app, size_one]; omega) ?_
      conv=>whnf
      refine ⟨_, ⟨rfl, fun st2 h2 => ⟨_, h2, .inl rfl⟩⟩, ?_⟩
      conv=>whnf
      refine FreeQ.str (f23 hG fl (by omega) (fun f hf => ⟨by have := hfl2 f hf; omega, hfl1 f hf⟩)) (fun _=>rfl) rfl fun z7 hz7 => ?_
      conv=>whnf
      refine And.intro (by simp only [size_app, size_one]; omega) ?_
      conv=>whnf
      refine ⟨_, ⟨rfl, fun st2 h2 => ⟨_, h2, .inl rfl⟩⟩, ?_⟩
      conv=>whnf
      refine FreeQ.str (f21 hG lg (by omega) hlg) (fun _=>rfl) rfl fun z8 hz8 => ?_
      conv=>whnf
      refine And.intro (by simp only [size_app, size_one]; omega) ?_
      conv=>whnf
      refine ⟨_, ⟨rfl, fun st2 h2 => ⟨_, h2, .inl rfl⟩⟩, ?_⟩
      conv=>whnf
      refine FreeQ.str (f23 hG ts (by omega) (fun f hf => ⟨by have := hts2 f hf; omega, hts1 f hf⟩)) (fun _=>rfl) rfl fun z9 hz9 => ?_
      conv=>whnf
      refine And.intro (by simp only [size_app, size_one]; omega) ?_
      conv=>whnf
      refine ⟨_, ⟨rfl, fun st2 h2 => ⟨_, h2, .inl rfl⟩⟩, ?_⟩
      conv=>whnf
      refine FreeQ.str (f21 hG ps (by omega) hps) (fun _=>rfl) rfl fun z10 hz10 => ?_
      conv=>whnf
      refine And.intro (by simp only [size_app, size_one]; omega) ?_
      conv=>whnf
      refine ⟨_, ⟨rfl, fun st2 h2 => ⟨_, h2, .inl rfl⟩⟩, ?_⟩
      conv=>whnf
      refine FreeQ.str (f21 hG ls (by omega) hls) (fun _=>rfl) rfl fun z11 hz11 => ?_
      conv=>whnf
      refine And.intro (by simp only [size_app, size_one]; omega) ?_
      conv=>whnf
      refine ⟨_, ⟨rfl, fun st2 h2 => ⟨_, h2, .inl rfl⟩⟩, ?_⟩
      conv=>whnf
      refine FreeQ.str (f22 hG es (by omega) hes) (fun _=>rfl) rfl fun z12 hz12 => ?_
      conv=>whnf
      refine And.intro (by simp only [size_app, size_one]; omega) ?_
      conv=>whnf
      refine And.intro (by simp only [size_app, size_one]; omega) ?_
      conv=>whnf
      refine And.intro (by simp only [size_app, size_one]; omega) ?_
      conv=>whnf
      refine ⟨rfl, ?_⟩
      conv=>whnf
      rw [addN (by omega)]
      exact ⟨(j + 1, s ++ ((((((((((((((⟨#[123]⟩ ++ z0) ++ z1) ++ z2) ++ z3) ++ z4) ++ z5) ++ z6) ++ z7) ++ z8) ++ z9) ++ z10) ++ z11) ++ z12) ++ ⟨#[125]⟩)), ⟨by dsimp only; omega, by dsimp only; simp only [size_app, size_one]; omega⟩, by dsimp only; omega, (Ren.relOf [] (by kernel_rfl) (by repeat constructor) (by repeat' (first | exact trivial | refine And.intro ?_ ?_ | kernel_rfl)))⟩
    · have hc : j = fs.length := by have := of_decide_eq_false hc; omega
      conv=>whnf
      refine ⟨rfl, ?_⟩
      conv=>whnf
      refine And.intro (by simp only [size_app, size_one]; omega) ?_
      conv=>whnf
      rw [addN (by omega)]
      exact ⟨(i + 1, s ++ ⟨#[41]⟩), ⟨by dsimp only; omega, by dsimp only; simp only [size_app, size_one]; omega⟩, by dsimp only; omega, (Ren.relOf [] (by kernel_rfl) (by repeat constructor) (by repeat' (first | exact trivial | refine And.intro ?_ ?_ | kernel_rfl)))⟩
  · conv=>whnf
    refine ⟨rfl, ?_⟩
    refine WpN.seq (WpN.vc ?_)
    conv=>whnf
    refine WpN.vc ?_
    conv=>whnf
    exact ⟨[], .c (.s s), [], rfl, by kernel_rfl, trivial, s, rfl, rfl⟩
theorem go_snd {l : List Fi} {S : (Ch × Ch) × List (List C)} : ∀ k, k ≤ l.length → ((l.take k).foldl stp S).2 = (l.foldl stp S).2.take (S.2.length + k) := by
  induction l generalizing S with
  | nil => intro k hk; simp at hk; subst hk; simp
  | cons x r ih =>
    intro k hk
    cases k with
    | zero =>
      have hmore : ∀ (r : List Fi) (S : (Ch × Ch) × List (List C)), ∃ t, (r.foldl stp S).2 = S.2 ++ t := by
        intro r
        induction r with
        | nil => intro S; exact ⟨[], by simp⟩
        | cons y r ih2 =>
          intro S
          obtain ⟨t, h⟩ := ih2 (stp S y)
          exact ⟨_, by rw [List.foldl_cons, h]; simp only [stp, List.append_assoc]; rfl⟩
      obtain ⟨t, h⟩ := hmore (x :: r) S
      rw [h]; simp
    | succ k =>
      rw [List.take_succ_cons, List.foldl_cons, List.foldl_cons, ih k (by simpa using hk)]
      simp only [stp, List.length_append, List.length_cons, List.length_nil]
      congr 1; omega
theorem go_pre {l : List Fi} {k : Nat} (hk : k ≤ l.length) : (go (l.take k)).2 = (go l).2.take k := by
  unfold go; rw [go_snd k hk]; simp
theorem f3 (hG : GL = GLP) (h10 : FnS 10 [] [] fun v l' => v = .c (.b true) ∧ l' = []) (l : List Fi) (n : Int) (hn : 0 ≤ n ∧ n ≤ 255) : FnS 3 [.c (.irs 4 (l.map Fi.row)), .c (.i .u8 n)] [] fun v l' => v = .c (.b true) ∧ l' = [] := by
  refine FnS.wpR (b := 0) Proofs.Tryz.f3 rfl rfl rfl rfl rfl rfl ?_
  refine WpN.seq (WpN.vc ?_)
  conv=>whnf
  refine WpN.seq (WpN.seq (WpN.vc ?_))
  conv=>whnf
  refine CallQ.use [] (f5 l) rfl rfl trivial ?_
  rintro v l' ⟨b, rfl, rfl, hb⟩
  conv=>whnf
  refine WpN.vc ?_
  conv=>whnf
  cases b
  · conv=>whnf
    repeat' first|(refine Lt (by decide) ?_;conv=>whnf)|(refine Lf (by decide) ?_;conv=>whnf)|fail
    exact ⟨[], .c (.b true), [], rfl, by kernel_rfl, trivial, rfl, rfl⟩
  have hl := hb rfl
  conv=>whnf
  repeat' first|(refine Lt (by decide) ?_;conv=>whnf)|(refine Lf (by decide) ?_;conv=>whnf)|fail
  refine WpN.seq (WpN.vc ?_)
  conv=>whnf
  refine CallQ.use [] (f6 l hl) rfl rfl trivial ?_
  rintro v l' ⟨c, b, rfl, rfl, h1, h2⟩
  cases b
  · rcases h2 with rfl | rfl
    all_goals
      conv=>whnf
      repeat' first|(refine Lt (by decide) ?_;conv=>whnf)|(refine Lf (by decide) ?_;conv=>whnf)|fail
      exact ⟨[], .c (.b true), [], rfl, by kernel_rfl, trivial, rfl, rfl⟩
  obtain ⟨hx, hn6, rfl⟩ := h1 rfl
  conv=>whnf
  repeat' first|(refine Lt (by decide) ?_;conv=>whnf)|(refine Lf (by decide) ?_;conv=>whnf)|fail
  refine WpN.seq (WpN.vc ?_)
  conv=>whnf
  have ew : IntKind.i64.wrap (((l.map Fi.row).length : Int) + 1) = ((l.length + 1 : Nat) : Int) := by rw [List.length_map, addN (by omega)]
  rw [ew]
  refine And.intro (by omega) ?_
  conv=>whnf
  obtain ⟨k, hk, hkl⟩ : ∃ k : Nat, (IntKind.i64.wrap n).tmod ((l.length + 1 : Nat) : Int) = (k : Int) ∧ k ≤ l.length := by
    rw [IntWalk.i64_in n (by omega), Int.tmod_eq_emod_of_nonneg hn.1]
    have h1 := Int.emod_nonneg n (b := ((l.length + 1 : Nat) : Int)) (by omega)
    have h2 := Int.emod_lt_of_pos n (b := ((l.length + 1 : Nat) : Int)) (by omega)
    exact ⟨(n % ((l.length + 1 : Nat) : Int)).toNat, by omega, by omega⟩
  rw [hk]
  refine WpN.weaken (s := mkSt [(0, .c (.irs 4 (l.map Fi.row))), (7, .c (.i .i64 k))] [] 75) (Ren.relOf [] (by kernel_rfl) (by repeat constructor) (by repeat' (first | exact trivial | refine And.intro ?_ ?_ | kernel_rfl))) rfl ?_
  refine WpN.seq (WpN.vc ?_)
  conv=>whnf
  refine CallQ.use [] (f7 l hx hn6) rfl rfl trivial ?_
  rintro v l' ⟨rfl, rfl⟩
  conv=>whnf
  refine WpN.weaken (s := mkSt [(0, .c (.irs 4 (l.map Fi.row))), (7, .c (.i .i64 k)), (8, .c (.irs 7 (go l).2)), (9, .c (.i .i64 0))] [] 75) (Ren.relOf [] (by kernel_rfl) (by repeat constructor) (by repeat' (first | exact trivial | refine And.intro ?_ ?_ | kernel_rfl))) rfl ?_
  refine WpN.seq (WpN.vc ?_)
  conv=>whnf
  refine And.intro ⟨by omega, by omega, by rw [List.length_map]; omega⟩ ?_
  conv=>whnf
  have et : ((l.map Fi.row).take (Int.toNat (k : Int))).drop (Int.toNat 0) = (l.take k).map Fi.row := by rw [Int.toNat_natCast, List.map_take]; rfl
  rw [et]
  refine CallQ.use [] (f7 (l.take k) (fun x h => hx x (List.mem_of_mem_take h)) (by simp; omega)) rfl rfl trivial ?_
  rintro v l' ⟨rfl, rfl⟩
  conv=>whnf
  have hgo := go_ok hx l.length (Nat.le_refl _)
  rw [List.take_length] at hgo
  rw [go_pre hkl]
  have hT := hgo.ok
  have hT2 := hgo.ok2
  have hTn := hgo.len
  generalize (go l).2 = T at hT hT2 hTn ⊢
  refine WpN.weaken (s := mkSt [(0, .c (.irs 4 (l.map Fi.row))), (7, .c (.i .i64 k)), (8, .c (.irs 7 T)), (9, .c (.i .i64 0)), (10, .c (.irs 7 (T.take k))), (11, .c (.i .i64 0))] [] 75) (Ren.relOf [] (by kernel_rfl) (by repeat constructor) (by repeat' (first | exact trivial | refine And.intro ?_ ?_ | kernel_rfl))) rfl ?_
  refine WpN.seq (WpN.vc ?_)
  conv=>whnf
  repeat' first|(refine Lt (by decide) ?_;conv=>whnf)|(refine Lf (by decide) ?_;conv=>whnf)|fail
  refine WpN.seq (WpN.vc ?_)
  conv=>whnf
  repeat' first|(refine Lt (by decide) ?_;conv=>whnf)|(refine Lf (by decide) ?_;conv=>whnf)|fail
  have eb : ((T.length : Int) == ((l.map Fi.row).length : Int)) = true := by rw [List.length_map, hTn]; exact beq_self_eq_true _
  have hT9 : ∀ t ∈ T.take k, TdOk t := fun t h => hT t (List.mem_of_mem_take h)
  have hT8 : ∀ t ∈ T.take k, TdI t := fun t h => hT2 t (List.mem_of_mem_take h)
  have hTk : (T.take k).length ≤ 1000 := by simp only [List.length_take]; omega
  obtain ⟨v8, l8, ⟨s, rfl, rfl⟩, h8⟩ := (f8 hG (T.take k) hT9 hT8 hTk).conj
  refine ⟨fun _=>?_, fun h => by rw [eb] at h; cases h⟩
  conv=>whnf
  repeat' first|(refine Lt (by decide) ?_;conv=>whnf)|(refine Lf (by decide) ?_;conv=>whnf)|fail
  refine And.intro ⟨by omega, by omega, by omega⟩ ?_
  conv=>whnf
  repeat' first|(refine Lt (by decide) ?_;conv=>whnf)|(refine Lf (by decide) ?_;conv=>whnf)|fail
  have et2 : (T.take (Int.toNat (k : Int))).drop (Int.toNat 0) = T.take k := by rw [Int.toNat_natCast]; rfl
  rw [et2]
  refine CallQ.use [] (f9 (T.take k) hT9 hTk) rfl rfl trivial ?_
  rintro v l' ⟨rfl, rfl⟩
  conv=>whnf
  repeat' first|(refine Lt (by decide) ?_;conv=>whnf)|(refine Lf (by decide) ?_;conv=>whnf)|fail
  refine CallQ.use [] h8 rfl rfl trivial ?_
  rintro v l' ⟨rfl, rfl⟩
  conv=>whnf
  repeat' first|(refine Lt (by decide) ?_;conv=>whnf)|(refine Lf (by decide) ?_;conv=>whnf)|fail
  refine CallQ.use [] (f9 (T.take k) hT9 hTk) rfl rfl trivial ?_
  rintro v l' ⟨rfl, rfl⟩
  conv=>whnf
  repeat' first|(refine Lt (by decide) ?_;conv=>whnf)|(refine Lf (by decide) ?_;conv=>whnf)|fail
  refine CallQ.use [] h8 rfl rfl trivial ?_
  rintro v l' ⟨rfl, rfl⟩
  conv=>whnf
  repeat' first|(refine Lt (by decide) ?_;conv=>whnf)|(refine Lf (by decide) ?_;conv=>whnf)|fail
  have es : (s.toList == s.toList) = true := beq_self_eq_true _
  refine ⟨fun _=>?_, fun h => by rw [es] at h; cases h⟩
  conv=>whnf
  repeat' first|(refine Lt (by decide) ?_;conv=>whnf)|(refine Lf (by decide) ?_;conv=>whnf)|fail
  refine CallQ.use [] h10 rfl rfl trivial ?_
  rintro v l' ⟨rfl, rfl⟩
  conv=>whnf
  repeat' first|(refine Lt (by decide) ?_;conv=>whnf)|(refine Lf (by decide) ?_;conv=>whnf)|fail
  refine WpN.vc ?_
  conv=>whnf
  exact ⟨[], .c (.b true), [], rfl, by kernel_rfl, trivial, rfl, rfl⟩
end Go.SX
namespace Go.Proofs.YtojdfjohmicopaaGreatDoor
open Go.ChangeShapes Go.WideShapes Go.ChangeAt Go.WideElems Go.RowKit Go.Deep Go.Joins
theorem own : ownKnob Tryz.prog.godebug = none := by kernel_rfl
theorem cells46 : Tryz.prog.cellsOf 46 = 4 := by kernel_rfl
theorem cells9 : Tryz.prog.cellsOf 9 = 1 := by kernel_rfl
theorem cells3 : Tryz.prog.cellsOf 3 = 1 := by kernel_rfl
theorem cells4 : Tryz.prog.cellsOf 4 = 1 := by kernel_rfl
abbrev It : Type := ByteArray × Bool × Int × Int
def itD {H : Type} (q : It) : DataW H := .agg [.lit (.string q.1.data.toList), .lit (.bool q.2.1), .lit (.int .i64 q.2.2.1), .lit (.int .i64 q.2.2.2)]
def ItAt (W : World) (a : Addr) (i : Nat) (q : It) : Prop :=
  W.cell? (a.add (i * 4)) = some (.string q.1) ∧ W.cell? (a.add (i * 4 + 1)) = some (.bool q.2.1) ∧ W.cell? (a.add (i * 4 + 2)) = some (.int .i64 q.2.2.1) ∧ W.cell? (a.add (i * 4 + 3)) = some (.int .i64 q.2.2.2)
def Frames (W : World) (v : Value) : Prop := v = .slice none 0 0 ∨
  ∃ (b off len cap : Nat) (I : Nat → It), v = .slice (some ⟨b, off, none⟩) len cap ∧ len ≤ cap ∧ b < W.heap.size ∧ ∀ i, i < len → ItAt W ⟨b, off, none⟩ i (I i)
section
variable {H : Type} {enc : TypeId × Value → H}
instance : Inhabited It := ⟨(ByteArray.empty, false, 0, 0)⟩
theorem open_frames {W : World} {sp : Nat → Bool} {fuel : Nat} {cs : List Value} {x : DataW H × List MemPlace} (h : DataW.trod enc Tryz.prog W 0 sp true fuel 22 cs = some x) :
    (cs = [.slice none 0 0] ∧ x = (.nil, [])) ∨
    ∃ (a : Addr) (len cap m : Nat) (I : Nat → It), cs = [.slice (some a) len cap] ∧ len ≤ m ∧ len ≤ cap ∧ x.2 = MemPlace.row a (m * 4) ++ (List.range m).flatMap (fun _=>[]) ∧ ∀ i, i < m → ItAt W a i (I i) := by
  rcases open_slice Tryz.underlying22 h with h0 | ⟨a, len, cap, m, n, D, Pl, rfl, hb, hl, hm, hmm, rfl, hx⟩
  · exact Or.inl h0
  right
  have hlm : len ≤ m := by rw [hmm]; split <;> omega
  have each : ∀ i, i < m → ∃ q : It, ItAt W a i q ∧ Pl i = [] := by
    intro i hi
    obtain ⟨cs', h1, h2⟩ := hx i hi
    rw [cells46] at h1
    obtain ⟨_, hlen, hcell⟩ := World.cells?_some h1
    obtain ⟨y0, y1, y2, y3, k, hxy, _, u0, u1, u2, u3⟩ := trod_struct4 Tryz.underlying46 h2
    match cs', hlen with
    | [v0, v1, v2, v3], _ =>
      simp only [cells9, cells3, cells4, List.drop, List.take] at u0 u1 u2 u3
      obtain ⟨s, e0, d0, _⟩ := DataW.trod_string Tryz.underlying9 u0
      obtain ⟨t, e1, d1⟩ := DataW.trod_bool Tryz.underlying4 u1
      obtain ⟨q, e2, d2, _⟩ := DataW.trod_int Tryz.underlying3 u2
      obtain ⟨p, e3, d3, _⟩ := DataW.trod_int Tryz.underlying3 u3
      simp only [List.cons.injEq, and_true] at e0 e1 e2 e3
      subst e0; subst e1; subst e2; subst e3
      have c0 := hcell 0 (by omega)
      have c1 := hcell 1 (by omega)
      have c2 := hcell 2 (by omega)
      have c3 := hcell 3 (by omega)
      rw [add_add] at c0 c1 c2 c3
      simp only [Prod.mk.injEq] at hxy
      exact ⟨(s, t, q, p), ⟨by simpa using c0, by simpa using c1, by simpa using c2, by simpa using c3⟩, by rw [hxy.2, d0, d1, d2, d3]; rfl⟩
  obtain ⟨q, hq⟩ := choose_lt each
  refine ⟨a, len, cap, m, q, rfl, hlm, hl, ?_, fun i hi => (hq i hi).1⟩
  rw [cells46, flatMap_congr_range (fun i hi => (hq i hi).2)]
end
theorem laidOut : laidOutB Tryz.prog = true := by kernel_rfl
end Go.Proofs.YtojdfjohmicopaaGreatDoor
namespace Go.SX
open Go Go.Proofs.YtojdfjohmicopaaGreatDoor
def itF (q : It) : Fi := ⟨q.1, q.2.1, q.2.2.1, q.2.2.2⟩
theorem den_frames {W : World} {v : Value} (hv : Frames W v) : ∃ (l : List Fi) (I0 : Nat → Prop), (∀ b, I0 b → b < W.heap.size) ∧ ∀ I : Nat → Prop, (∀ b, I0 b → I b) → Den ⟨fun _=>none, I, W⟩ (.irs 4 (l.map Fi.row)) v := by
  rcases hv with rfl | ⟨b, off, len, cap, I, rfl, hlc, hb, hI⟩
  · exact ⟨[], fun _=>False, fun _ h => h.elim, fun _ _ => .irs0⟩
  · refine ⟨(List.range len).map fun i => itF (I i), fun x => x = b, fun x hx => hx ▸ hb, fun J hJ => ?_⟩
    have hl : ((List.range len).map fun i => itF (I i)).length = len := by simp
    have hrow : ∀ j (cs : List C), (((List.range len).map fun i => itF (I i)).map Fi.row)[j]? = some cs → j < len ∧ cs = (itF (I j)).row := fun j cs hj => by
      rw [List.map_map, List.getElem?_map, Option.map_eq_some_iff] at hj
      obtain ⟨i, hi, rfl⟩ := hj
      obtain ⟨h1, rfl⟩ := List.getElem?_eq_some_iff.1 hi
      simp at h1
      exact ⟨h1, by simp⟩
    have key := Den.irs (X := ⟨fun _=>none, J, W⟩) (sz := 4) (rs := ((List.range len).map fun i => itF (I i)).map Fi.row) (bl := b) (off := off) (cap := cap)
      (fun j i => match i with | 0 => .string (I j).1 | 1 => .bool (I j).2.1 | 2 => .int .i64 (I j).2.2.1 | _ => .int .i64 (I j).2.2.2) (hJ b rfl) (by simpa using hlc) (fun j cs hj => by rw [(hrow j cs hj).2]; rfl)
      (fun j cs i c hj hi => by
        obtain ⟨h1, rfl⟩ := hrow j cs hj
        have hc := hI j h1
        unfold ItAt at hc
        simp only [add_some] at hc
        match i, hi with
        | 0, _ => simpa using hc.1
        | 1, _ => simpa [Nat.add_assoc] using hc.2.1
        | 2, _ => simpa [Nat.add_assoc] using hc.2.2.1
        | 3, _ => simpa [Nat.add_assoc] using hc.2.2.2
        | i + 4, hi => cases hi)
      (fun j cs i c hj hi => by
        obtain ⟨h1, rfl⟩ := hrow j cs hj
        match i, hi with
        | 0, hi => cases hi; exact fun _ h => h.elim
        | 1, hi => cases hi; exact fun _ h => h.elim
        | 2, hi => cases hi; exact fun _ h => h.elim
        | 3, hi => cases hi; exact fun _ h => h.elim
        | i + 4, hi => cases hi)
      (fun j cs i c hj hi => by
        obtain ⟨h1, rfl⟩ := hrow j cs hj
        match i, hi with
        | 0, hi => cases hi; exact .s
        | 1, hi => cases hi; exact .b
        | 2, hi => cases hi; exact .i
        | 3, hi => cases hi; exact .i
        | i + 4, hi => cases hi)
    rw [List.length_map, hl] at key
    exact key
end Go.SX
namespace Go.Proofs.YtojdfjohmicopaaGreatDoor
theorem andI {a b : Bool} (ha : a = true) (hb : b = true) : (a && b) = true := by subst ha hb; rfl
theorem fact0 : (Rows.fnSilkPrefixRow.wf (OpenSpec.ofChange Rows.fnSilkPrefixSpec)) = true := by kernel_rfl
theorem fact1 : (laidOutB Tryz.checked.prog) = true := by kernel_rfl
theorem fact2 : (mapsRowed Tryz.checked.prog) = true := by kernel_rfl
theorem fact3 : (Tryz.f3.params.all (Tryz.checked.prog.readableRec ·)) = true := by kernel_rfl
theorem fact4 : (namedTie Tryz.checked.prog Rows.fnSilkPrefixRow.named Rows.fnSilkPrefixSpec.vars) = true := by kernel_rfl
theorem fact5 : ((Rows.fnSilkPrefixRow.stops == [])) = true := by kernel_rfl
theorem fact6 : ((Tryz.checked.prog.stops == [])) = true := by kernel_rfl
theorem fact7 : ((Rows.fnSilkPrefixRow.knobs == [])) = true := by kernel_rfl
theorem fact8 : ((Tryz.checked.prog.stopKnobs == [])) = true := by kernel_rfl
theorem fact9 : ((Rows.fnSilkPrefixRow.inPlace == Tryz.checked.prog.inPlace 3)) = true := by kernel_rfl
theorem fact10 : ((Rows.fnSilkPrefixRow.unfollowed == Tryz.checked.prog.unfollowed 3)) = true := by kernel_rfl
theorem fact11 : ((Rows.fnSilkPrefixRow.recurses == Tryz.checked.prog.recurses 3)) = true := by kernel_rfl
theorem fact12 : ((Rows.fnSilkPrefixRow.named == Tryz.checked.prog.varsNamed 3)) = true := by kernel_rfl
theorem fact13 : ((Rows.fnSilkPrefixRow.maps == (Tryz.f3.params.toList ++ Rows.fnSilkPrefixSpec.plain.varTypes Tryz.checked.prog).any (Tryz.checked.prog.mapsRec ·))) = true := by kernel_rfl
theorem fact14 : ((Rows.fnSilkPrefixRow.ifaces == (Tryz.f3.params.toList ++ Rows.fnSilkPrefixSpec.plain.varTypes Tryz.checked.prog).any (Tryz.checked.prog.ifacesRec ·))) = true := by kernel_rfl
theorem fact15 : ((Rows.fnSilkPrefixRow.mapsOut == Tryz.checked.prog.mapsAmong Tryz.f3.resultTypes.toList)) = true := by kernel_rfl
theorem fact16 : ((Rows.fnSilkPrefixRow.loops == (Tryz.f3.params.toList ++ Rows.fnSilkPrefixSpec.plain.varTypes Tryz.checked.prog).any (Tryz.checked.prog.loopsFrom ·))) = true := by kernel_rfl
theorem fact17 : ((Rows.fnSilkPrefixRow.wideKeys == (Tryz.f3.params.toList ++ Rows.fnSilkPrefixSpec.plain.varTypes Tryz.checked.prog ++ Tryz.f3.resultTypes.toList).any (Tryz.checked.prog.wideKeysFrom ·))) = true := by kernel_rfl
theorem fact18 : (Rows.fnSilkPrefixSpec.vars.all (Tryz.checked.prog.varReadable ·)) = true := by kernel_rfl
theorem fact19 : (Tryz.f3.resultTypes.all (fun t => Tryz.checked.prog.readableRec t && decide (t < Tryz.checked.prog.types.size))) = true := by kernel_rfl
theorem fact20 : ((Rows.fnSilkPrefixRow.ifacesOut == Tryz.f3.resultTypes.toList.any (Tryz.checked.prog.ifacesRec ·))) = true := by kernel_rfl
theorem fact21 : ((Rows.fnSilkPrefixRow.loopsOut == Tryz.f3.resultTypes.toList.any (Tryz.checked.prog.loopsFrom ·))) = true := by kernel_rfl
theorem fact22 : ((Rows.fnSilkPrefixRow.plainKeys == Tryz.checked.prog.plainKeys)) = true := by kernel_rfl
theorem fact23 : (Rows.fnSilkPrefixRow.shortTexts.isNone) = true := by kernel_rfl
theorem fact24 : (Tryz.checked.prog.stopsHeard) = true := by kernel_rfl
theorem fact25 : (Tryz.checked.prog.mayEnter) = true := by kernel_rfl
theorem fact26 : ((Rows.fnSilkPrefixRow.lifted == Tryz.checked.prog.liftsFinal)) = true := by kernel_rfl
theorem fact27 : ((Tryz.checked.prog.make == some Rows.fnSilkPrefixRow.make)) = true := by kernel_rfl
theorem fact28 : ((Rows.fnSilkPrefixRow.kinds == (if Rows.fnSilkPrefixRow.domain.isEmpty then [] else Tryz.f3.params.toList.map fun t => match Tryz.checked.prog.underlying t with | some (.int k) => some k | _ => none))) = true := by kernel_rfl
theorem fact29 : ((Rows.fnSilkPrefixRow.pinned == Rows.fnSilkPrefixRow.pinnedBy)) = true := by kernel_rfl
theorem fact30 : ((Rows.fnSilkPrefixRow.veiled == (Tryz.f3.params.toList ++ Rows.fnSilkPrefixSpec.plain.varTypes Tryz.checked.prog ++ Tryz.f3.resultTypes.toList).any (Tryz.checked.prog.veiledRec ·))) = true := by kernel_rfl
theorem fact31 : (Rows.fnSilkPrefixRow.veiledFits Tryz.checked.prog Tryz.f3.params.toList (Tryz.f3.params.toList ++ Rows.fnSilkPrefixSpec.plain.varTypes Tryz.checked.prog ++ Tryz.f3.resultTypes.toList)) = true := by kernel_rfl
theorem facts : joinedFacts Tryz.checked.prog 3 Tryz.f3 Rows.fnSilkPrefixSpec Rows.fnSilkPrefixRow = true := by
  unfold joinedFacts
  exact (andI (andI (andI (andI (andI (andI (andI (andI (andI (andI (andI (andI (andI (andI (andI (andI (andI (andI (andI (andI (andI (andI (andI (andI (andI (andI (andI (andI (andI (andI (andI fact0 fact1) fact2) fact3) fact4) fact5) fact6) fact7) fact8) fact9) fact10) fact11) fact12) fact13) fact14) fact15) fact16) fact17) fact18) fact19) fact20) fact21) fact22) fact23) fact24) fact25) fact26) fact27) fact28) fact29) fact30) fact31)
end Go.Proofs.YtojdfjohmicopaaGreatDoor
namespace Go.Proofs.YtojdfjohmicopaaGreatDoor
open Go.ChangeShapes Go.WideShapes Go.ChangeAt Go.WideElems Go.RowKit Go.Deep Go.Joins
def TabAt (W : World) : Prop := Lib.TabIs Tryz.prog W "internal/strconv.uint64pow10" .u64 Lib.pow10Tab
def Runs3 : Prop := ∀ (W : World) (v : Value) (n : Int), Frames W v → 0 ≤ n ∧ n ≤ 255 → TabAt W → Calls Tryz.prog 3 #[v, .int .u8 n] W fun e W' => e = .returned (.bool true) ∧ W'.os = W.os ∧ W'.output = W.output ∧ ∀ b, b < W.heap.size → W'.heap[b]? = W.heap[b]?
theorem tab_data {H : Type} : (Rows.laid_internal_strconv_uint64pow10 : DataW H) = Lib.tabData .u64 Lib.pow10Tab := by kernel_rfl
theorem tab_of {W : World} (h : laidMetH Tryz.prog Rows.fnSilkPrefixRow.laid W) : TabAt W := by
  have h1 := h.filter fun x => x.1 == "internal/strconv.uint64pow10"
  have h2 : laidMet Tryz.prog (("internal/strconv.uint64pow10", Lib.tabData .u64 Lib.pow10Tab) :: []) W := by
    rw [← tab_data]; exact h1
  exact Lib.tabIs_of_head (g := 1) (t := 193) (e := 117) (n := 20) (by kernel_rfl) (by kernel_rfl) Tryz.underlying193 Tryz.underlying117 (by kernel_rfl) (by kernel_rfl) h2
theorem door_met (os : Os) (args : Array Value) : laidMetH Tryz.prog Rows.fnSilkPrefixRow.laid ((World.doorLaid Tryz.prog 400 os).forCall (fun _ _ => 0) ⟨#[], args, []⟩).memory :=
  laidMetH_of_parts3 (fuel := 8) (laidMet_of_run' 8 (by kernel_rfl) (by kernel_rfl)) (by kernel_rfl) (by kernel_rfl)
theorem lifted (hrun : Runs3) (os : Os) (started : os.Started) (H : Type) (enc : TypeId × Value → H) :
    ReturnsInHanded {} Tryz.checked os 3 .any (fun w args => (Rows.fnSilkPrefixSpec.pre enc Tryz.prog Tryz.f3 [] false w args ∧ laidMetH Tryz.prog Rows.fnSilkPrefixRow.laid w) ∧ sizedMet enc Tryz.prog Tryz.f3 (OpenSpec.ofChange Rows.fnSilkPrefixSpec) false w args)
      (Rows.fnSilkPrefixSpec.post enc Tryz.prog Tryz.f3 false true false false) := by
  refine returnsInHanded_of_change_and (C := Tryz.checked) (X := fun w _ => laidMetH Tryz.prog Rows.fnSilkPrefixRow.laid w) (fun _ _ _ hh h => h.of_heap hh) own started (by kernel_rfl) Tryz.func3
    (ChangeSpec.witness_shaped (enc := enc) (C := Tryz.checked) (os := os) (X := fun w _ => laidMetH Tryz.prog Rows.fnSilkPrefixRow.laid w) false (World.doorLaid Tryz.prog 400 os) #[.slice none 0 0, .int .u8 0] 8 rfl (World.shaped_of_RefB (by kernel_rfl) (by kernel_rfl)) (by kernel_rfl) (by kernel_rfl) (by kernel_rfl) (door_met os _)) ?_
  intro W base args ds gs before hval0 hW _ _ hL _
  have hval : ∀ (j : Nat) t v, Tryz.f3.params[j]? = some t → args[j]? = some v → Value.okWide Tryz.prog W .any base t v := hval0
  have hW' := hW
  obtain ⟨p, q, hA0, hV, rfl, hfz, hnd⟩ := hW
  have hA : DataW.TrodAll enc Tryz.prog W 0 (fun _=>true) true Tryz.f3.params.toList args.toList ds p := hA0
  rw [Tryz.params3] at hA hval
  obtain ⟨v0, v1, d0, d1, p, p1, rfl, rfl, rfl, h0, hn1⟩ := trodAll_two hA
  obtain ⟨n, rfl, rfl, rfl, wn⟩ := open_int Tryz.underlying5 (hval 1 5 v1 rfl rfl) hn1
  obtain ⟨rfl, rfl⟩ := trodVars_none hV
  have ok0 := hval 0 22 v0 rfl rfl
  have hn : 0 ≤ n ∧ n ≤ 255 := by simpa [Lit.wf, IntKind.min, IntKind.max, IntKind.signed, IntKind.bits] using wn
  simp only [List.append_nil] at hfz hnd hW'
  obtain ⟨fuel, h1⟩ := h0
  have hcells : ∀ x ∈ p, ∃ xb xo, x = .cell xb xo := by
    rcases open_frames h1 with ⟨_, e⟩ | ⟨a, len, cap, m, I, _, _, _, hp, _⟩
    · simp only [Prod.mk.injEq] at e
      rw [e.2]
      exact fun x hx => by cases hx
    · intro x hx
      have hp : p = MemPlace.row a (m * 4) ++ (List.range m).flatMap (fun _=>[]) := hp
      rw [hp] at hx
      rcases List.mem_append.1 hx with hx | hx
      · obtain ⟨i, _, rfl⟩ := MemPlace.mem_row.1 hx
        exact ⟨_, _, rfl⟩
      · simp at hx
  have one : ∀ u, v0.cells.toList = [u] → v0 = u := fun u hu => by
    cases v0 <;> first | (simpa [Value.cells] using hu) | (simp [Value.okWide, Cell.okWide, Cell.ok, Tryz.underlying22] at ok0)
  have hF : Frames W v0 := by
    rcases open_frames h1 with ⟨e, _⟩ | ⟨a, len, cap, m, I, e, hlm, hlc, hp, hI⟩
    · exact .inl (one _ e)
    · right
      have e : v0 = .slice (some a) len cap := one _ e
      subst e
      simp only [Value.okWide, Tryz.underlying22, Cell.okWide, Cell.ok] at ok0
      obtain ⟨_, _, _, hspot, row, cells, hsh, _⟩ := ok0
      obtain ⟨b, off, spot⟩ := a
      obtain rfl : spot = none := hspot
      refine ⟨b, off, len, cap, I, rfl, hlc, ?_, fun i hi => hI i (by omega)⟩
      unfold World.shape? at hsh
      split at hsh
      · rename_i hb
        exact (Array.getElem?_eq_some_iff.1 hb).1
      · cases hsh
  refine (hrun W v0 n hF hn (tab_of hL)).mono fun e W' ⟨he, hos, hout, hheap⟩ => ?_
  subst he
  have hlt : ∀ x ∈ p, x.block < W.heap.size := fun x hx => hW'.lt x (by simpa using hx)
  have hsame : ∀ x ∈ p, W.sameAt W' x := fun x hx => by
    obtain ⟨xb, xo, rfl⟩ := hcells x hx
    have := hheap xb (hlt _ hx)
    show W'.cell? _ = W.cell? _
    simp only [World.cell?, this]
  have hkb : W.keptBut W' (fun _=>False) := World.keptBut_none_iff.2 ⟨hos, hout, hheap⟩
  refine ⟨_, rfl, _, _, _, [], p, [], hW', ?_, ?_, ?_, World.keptBut_mono (fun _ h => h.elim) hkb, fun h => by cases h⟩
  · exact trodAll_mk1 (shut_bool Tryz.underlying4 _)
  · exact List.append_nil p ▸ trodAll_mk2 (WideElems.Trod_stays (P := Tryz.prog) laidOut (by kernel_rfl) (of_decide_eq_true (by kernel_rfl)) ⟨fuel, h1⟩ hsame (fun x hx => by simpa using hlt x hx)) (shut_int Tryz.underlying5 wn)
  · rfl
theorem fnSilkPrefix_holds (hrun : Runs3) : Rows.FnSilkPrefixSaid :=
  OpenClaim.holds_of_wide 3 Tryz.f3 rfl rfl rfl rfl rfl rfl rfl ⟨rfl, rfl, rfl, rfl, rfl⟩ rfl rfl rfl rfl rfl (by as_aux_lemma => kernel_rfl) Tryz.func3 facts
    (of_decide_eq_true (by as_aux_lemma => kernel_rfl)) (by unfold Func.isWrapper; first | (rw [if_pos (by decide +kernel)]; kernel_rfl) | (rw [if_neg (by decide +kernel)]; exact ⟨rfl, rfl⟩))
    (fun os started H enc _ => lifted hrun os started H enc)
theorem fnSilkPrefix_card (hrun : Runs3) : Rows.FnSilkPrefixCardSaid :=
  Claim7.holds_tied_plain_at .later [] [.data, .data, .data, .sentinel] true (true, "5507fe35f8e4eca28a84b6b943fdc0683f4c0dbd655af5cae0e11e5dd97c8962") false
    (fnSilkPrefix_holds hrun) (fun _ h => by cases h) (by kernel_rfl) (fun _ h => by cases h) fnSilkPrefix_row_tie rfl ⟨rfl, rfl⟩ (by kernel_rfl) rfl
    (fun f fn hf hfn => by
      obtain rfl : f = 3 := Option.some.inj ((show Tryz.prog.funcNamed "pub-carronade/laws.FnSilkPrefix" = some 3 by kernel_rfl).symm.trans hf) |>.symm
      obtain rfl : fn = Tryz.f3 := (Option.some.inj (Tryz.func3.symm.trans hfn)).symm
      exact ⟨by kernel_rfl, fun j t ht => by
        rw [Tryz.params3] at ht
        have hm : t ∈ [22, 5] := by simpa using Array.mem_of_getElem? ht
        have hall : ([22, 5].all fun u => !Tryz.prog.wantsStandIn u) = true := by kernel_rfl
        exact (show Tryz.prog.wantsStandIn t = false by simpa using List.all_eq_true.1 hall t hm)⟩)
    (by kernel_rfl)
end Go.Proofs.YtojdfjohmicopaaGreatDoor
