/- A part of the proof: the SILK decoder of the given program, walked by an executor that is proved sound. No statement of the program is proved in this text. -/
import Derived.Test.YtojdfjohmicopaaGreatDoorL23
import Derived.Test.YtojdfjohmicopaaGreatDoorL36
set_option linter.all false
set_option maxRecDepth 100000
namespace Go.SX
open Go
theorem take_mapL {α β : Type} {f : α → β} {xs : List α} {d : α} {j : Nat} (h : j < xs.length) : ((xs.take j).map f) ++ [f (xs.getD j d)] = (xs.take (j + 1)).map f := by
  rw [List.take_add_one, List.map_append, List.getD_eq_getElem?_getD, List.getElem?_eq_getElem h]
  rfl
theorem getD_in {α : Type} {P : α → Prop} {xs : List α} {d : α} {j : Nat} (h : ∀ x ∈ xs, P x) (hj : j < xs.length) : P (xs.getD j d) := by
  rw [List.getD_eq_getElem?_getD, List.getElem?_eq_getElem hj]
  exact h _ (List.getElem_mem hj)
noncomputable def b19 : Code := match Proofs.Tryz.f19.body with | some c => c | none => .skip
@[reducible] def frC (red sid wei mo : Bool) (w0 w1 kind off : Int) (gs : List Int) (i1 : Int) (rs ns ms : List Int) (w : Int) (fs : List (List Int)) (mx : Int) (lg : List Int) (ts : List (List Int)) (ltp seed rl : Int) (ps ls es : List Int) (k o : Int) (fc tc : C) : List C := [.b red, .b sid, .b wei, .b mo, .i .i64 (IntKind.i64.wrap w0), .i .i64 (IntKind.i64.wrap w1), .i .i64 k, .i .i64 o, .is .i64 (gs.map IntKind.i64.wrap), .i .i64 (IntKind.i64.wrap i1), .is .i64 (rs.map IntKind.i64.wrap), .is .i64 (ns.map IntKind.i64.wrap), .is .i64 (ms.map IntKind.i64.wrap), .i .i64 (IntKind.i64.wrap w), fc, .i .i64 (IntKind.i64.wrap mx), .is .i64 lg, tc, .i .i64 (IntKind.i64.wrap ltp), .i .i64 (IntKind.i64.wrap seed), .i .i64 (IntKind.i64.wrap rl), .is .i64 (ps.map IntKind.i64.wrap), .is .i64 (ls.map IntKind.i64.wrap), .is .i64 (es.map IntKind.i64.wrap)]
@[reducible] def rowsI (l : List (List Int)) : List (List Int) := l.map (List.map IntKind.i64.wrap)
def P19 (red sid wei mo : Bool) (w0 w1 kind off : Int) (gs : List Int) (i1 : Int) (rs ns ms : List Int) (w : Int) (fs : List (List Int)) (mx : Int) (lg : List Int) (ts : List (List Int)) (ltp seed rl : Int) (ps ls es : List Int) (v : V) (l' : List (Option B)) : Prop := ∃ k o : Int, v = .ag (frC red sid wei mo w0 w1 kind off gs i1 rs ns ms w fs mx lg ts ltp seed rl ps ls es k o (.osl 3 fs.length) (.osl 4 ts.length)) ∧ l' = lay [(3, .ss true .i64 (rowsI fs)), (4, .ss true .i64 (rowsI ts))] 5 ∧ (0 ≤ k ∧ k ≤ 2) ∧ (0 ≤ o ∧ o ≤ 1) ∧ (kind = 9 → k = 2)
theorem f19_3 (red sid wei mo : Bool) (w0 w1 kind off : Int) (gs : List Int) (i1 : Int) (rs ns ms : List Int) (w : Int) (fs : List (List Int)) (mx : Int) (lg : List Int) (ts : List (List Int)) (ltp seed rl : Int) (ps ls es : List Int) (k o : Int) (h1 : 0 ≤ k ∧ k ≤ 2) (h2 : 0 ≤ o ∧ o ≤ 1) (h3 : kind = 9 → k = 2) (hfs : fs.length ≤ 1000 ∧ ∀ f ∈ fs, f.length ≤ 1000) (hts : ts.length ≤ 1000 ∧ ∀ f ∈ ts, f.length ≤ 1000) :
    WpN 0 103 (tlC 3 b19) (mkE [(1, .c (.p 0 0)), (2, .c (.p 1 0)), (3, .c (.p 2 0))]) (mkS [some (.st (recC red sid wei mo w0 w1 kind off gs i1 rs ns ms w fs mx lg (.iss .i8 ts) ltp seed rl ps ls es)), some (.st [.b false, .b false, .b false, .b false, .i .i64 0, .i .i64 0, .i .i64 0, .i .i64 0, .nsl, .i .i64 0, .nsl, .nsl, .nsl, .i .i64 0, .nsl, .i .i64 0, .nsl, .nsl, .i .i64 0, .i .i64 0, .i .i64 0, .nsl, .nsl, .nsl]), some (.st (frC red sid wei mo w0 w1 kind off gs i1 rs ns ms w fs mx lg ts ltp seed rl ps ls es k o (.osl 3 0) (.osl 4 0))), some (.ss true .i64 []), some (.ss true .i64 [])]) 5 (EndR Proofs.Tryz.f19.results.toList 0 103 (P19 red sid wei mo w0 w1 kind off gs i1 rs ns ms w fs mx lg ts ltp seed rl ps ls es)) := by
  refine WpN.seq (WpN.vc ?_)
  conv=>whnf
  refine WpS.loop (ι := Nat) (fun j => mkSt ([(1, .c (.p 0 0)), (2, .c (.p 1 0)), (3, .c (.p 2 0))]++[(73, .c (.iss .i16 fs)), (74, .c (.i .i64 fs.length)), (75, .c (.i .i64 j))]) [some (.st (recC red sid wei mo w0 w1 kind off gs i1 rs ns ms w fs mx lg (.iss .i8 ts) ltp seed rl ps ls es)), some (.st [.b false, .b false, .b false, .b false, .i .i64 0, .i .i64 0, .i .i64 0, .i .i64 0, .nsl, .i .i64 0, .nsl, .nsl, .nsl, .i .i64 0, .nsl, .i .i64 0, .nsl, .nsl, .i .i64 0, .i .i64 0, .i .i64 0, .nsl, .nsl, .nsl]), some (.st (frC red sid wei mo w0 w1 kind off gs i1 rs ns ms w fs mx lg ts ltp seed rl ps ls es k o (.osl 3 j) (.osl 4 0))), some (.ss true .i64 (rowsI (fs.take j))), some (.ss true .i64 [])] 103) (fun j => j ≤ fs.length) (fun j => fs.length - j) 0 (Nat.zero_le _) (Ren.relOf [] (by kernel_rfl) (by repeat constructor) (by repeat' (first | exact trivial | refine And.intro ?_ ?_ | kernel_rfl))) ?_
  intro j hj
  refine VC_ok ?_
  conv=>whnf
  refine ⟨fun hc => ?_, fun hc => ?_⟩
  · have hc : j < fs.length := by have := of_decide_eq_true hc; omega
    conv=>whnf
    refine And.intro (by omega) ?_
    conv=>whnf
    rw [Int.toNat_natCast]
    refine .inr (WpS.draw [0, 1, 0, 0, 2, 2, 0, 3] (fun st2 => st2 2 = some (.st (frC red sid wei mo w0 w1 kind off gs i1 rs ns ms w fs mx lg ts ltp seed rl ps ls es k o (.osl 3 j) (.osl 4 0)))) (by kernel_rfl) ?_)
    conv=>whnf
    refine ⟨_, ⟨rfl, fun st2 h2 => ⟨_, h2, .inl rfl⟩⟩, ?_⟩
    conv=>whnf
    refine FreeQ.use (f32 (fs.getD j []) (getD_in hfs.2 hc)) (fun _=>rfl) rfl (fun v h nx => by subst h; rfl) ?_
    rintro v rfl
    conv=>whnf
    refine And.intro rfl ?_
    conv=>whnf
    refine And.intro rfl ?_
    conv=>whnf
    refine And.intro rfl ?_
    conv=>whnf
    refine And.intro ⟨trivial, by simp; omega, by simp; omega⟩ ?_
    conv=>whnf
    refine And.intro rfl ?_
    conv=>whnf
    refine ⟨rfl, ?_⟩
    conv=>whnf
    rw [take_mapL hc, add1 (by omega), show ((fs.take (j + 1)).map (List.map IntKind.i64.wrap)).length = j + 1 by simp; omega]
    exact ⟨j + 1, by omega, by omega, Ren.relOf [(3, 6)] (by kernel_rfl) (by repeat constructor) (by repeat' (first | exact trivial | refine And.intro ?_ ?_ | kernel_rfl))⟩
  have hj : j = fs.length := by have := of_decide_eq_false hc; omega
  subst hj
  conv=>whnf
  refine ⟨rfl, ?_⟩
  refine WpN.seq (WpN.vc ?_)
  conv=>whnf
  refine WpS.loop (ι := Nat) (fun j => mkSt ([(1, .c (.p 0 0)), (2, .c (.p 1 0)), (3, .c (.p 2 0))]++[(88, .c (.iss .i8 ts)), (89, .c (.i .i64 ts.length)), (90, .c (.i .i64 j))]) [some (.st (recC red sid wei mo w0 w1 kind off gs i1 rs ns ms w fs mx lg (.iss .i8 ts) ltp seed rl ps ls es)), some (.st [.b false, .b false, .b false, .b false, .i .i64 0, .i .i64 0, .i .i64 0, .i .i64 0, .nsl, .i .i64 0, .nsl, .nsl, .nsl, .i .i64 0, .nsl, .i .i64 0, .nsl, .nsl, .i .i64 0, .i .i64 0, .i .i64 0, .nsl, .nsl, .nsl]), some (.st (frC red sid wei mo w0 w1 kind off gs i1 rs ns ms w fs mx lg ts ltp seed rl ps ls es k o (.osl 3 fs.length) (.osl 4 j))), some (.ss true .i64 (rowsI fs)), some (.ss true .i64 (rowsI (ts.take j)))] 103) (fun j => j ≤ ts.length) (fun j => ts.length - j) 0 (Nat.zero_le _) (Ren.relOf [] (by kernel_rfl) (by repeat constructor) ⟨rfl, rfl, rfl, by show some _ = some _; rw [List.take_length]; rfl, rfl, trivial⟩) ?_
  intro j hj
  refine VC_ok ?_
  conv=>whnf
  refine ⟨fun hc => ?_, fun hc => ?_⟩
  · have hc : j < ts.length := by have := of_decide_eq_true hc; omega
    conv=>whnf
    refine And.intro (by omega) ?_
    conv=>whnf
    rw [Int.toNat_natCast]
    refine .inr (WpS.draw [0, 1, 0, 0, 2, 2, 0, 3] (fun st2 => st2 2 = some (.st (frC red sid wei mo w0 w1 kind off gs i1 rs ns ms w fs mx lg ts ltp seed rl ps ls es k o (.osl 3 fs.length) (.osl 4 j)))) (by kernel_rfl) ?_)
    conv=>whnf
    refine ⟨_, ⟨rfl, fun st2 h2 => ⟨_, h2, .inl rfl⟩⟩, ?_⟩
    conv=>whnf
    refine FreeQ.use (f36 (ts.getD j []) (getD_in hts.2 hc)) (fun _=>rfl) rfl (fun v h nx => by subst h; rfl) ?_
    rintro v rfl
    conv=>whnf
    refine And.intro rfl ?_
    conv=>whnf
    refine And.intro rfl ?_
    conv=>whnf
    refine And.intro rfl ?_
    conv=>whnf
    refine And.intro ⟨trivial, by simp; omega, by simp; omega⟩ ?_
    conv=>whnf
    refine And.intro rfl ?_
    conv=>whnf
    refine ⟨rfl, ?_⟩
    conv=>whnf
    rw [take_mapL hc, add1 (by omega), show ((ts.take (j + 1)).map (List.map IntKind.i64.wrap)).length = j + 1 by simp; omega]
    exact ⟨j + 1, by omega, by omega, Ren.relOf [(4, 6)] (by kernel_rfl) (by repeat constructor) (by repeat' (first | exact trivial | refine And.intro ?_ ?_ | kernel_rfl))⟩
  have hj : j = ts.length := by have := of_decide_eq_false hc; omega
  subst hj
  conv=>whnf
  refine ⟨rfl, ?_⟩
  refine WpN.vc ?_
  conv=>whnf
  exact ⟨[], .ag (frC red sid wei mo w0 w1 kind off gs i1 rs ns ms w fs mx lg ts ltp seed rl ps ls es k o (.osl 3 fs.length) (.osl 4 ts.length)), lay [(3, .ss true .i64 (rowsI fs)), (4, .ss true .i64 (rowsI ts))] 5, rfl, by kernel_rfl, ⟨rfl, by show some _ = some _; rw [List.take_length]; rfl, trivial⟩, k, o, rfl, rfl, h1, h2, h3⟩
theorem f19 (red sid wei mo : Bool) (w0 w1 kind off : Int) (gs : List Int) (i1 : Int) (rs ns ms : List Int) (w : Int) (fs : List (List Int)) (mx : Int) (lg : List Int) (ts : List (List Int)) (ltp seed rl : Int) (ps ls es : List Int) (hk : kind = 7 ∨ kind = 8 ∨ kind = 9) (hgs : gs.length ≤ 1000) (hrs : rs.length ≤ 1000) (hns : ns.length ≤ 1000) (hms : ms.length ≤ 1000) (hfs : fs.length ≤ 1000 ∧ ∀ f ∈ fs, f.length ≤ 1000) (hlg : lg.length ≤ 1000) (hts : ts.length ≤ 1000 ∧ ∀ f ∈ ts, f.length ≤ 1000) (hps : ps.length ≤ 1000) (hls : ls.length ≤ 1000) (hes : es.length ≤ 1000) :
    FnS 19 [recV red sid wei mo w0 w1 kind off gs i1 rs ns ms w fs mx lg (.iss .i8 ts) ltp seed rl ps ls es] [] fun v l' => ∃ k o : Int, v = .ag (frC red sid wei mo w0 w1 kind off gs i1 rs ns ms w fs mx lg ts ltp seed rl ps ls es k o (.iss .i64 (rowsI fs)) (.iss .i64 (rowsI ts))) ∧ l' = [] ∧ (0 ≤ k ∧ k ≤ 2) ∧ (0 ≤ o ∧ o ≤ 1) ∧ (kind = 9 → k = 2) := by
  refine FnS.behind (K := P19 red sid wei mo w0 w1 kind off gs i1 rs ns ms w fs mx lg ts ltp seed rl ps ls es) ?_ ?_
  rotate_left
  · rintro v l' ⟨k, o, rfl, rfl, h1, h2, h3⟩
    refine ⟨_, _, ⟨k, o, rfl, rfl, h1, h2, h3⟩, (RelM.frzAg (φ := _) (cs' := frC red sid wei mo w0 w1 kind off gs i1 rs ns ms w fs mx lg ts ltp seed rl ps ls es k o (.iss .i64 (rowsI fs)) (.iss .i64 (rowsI ts))) (st' := _) rfl ⟨by simp, by simp⟩ (Nat.zero_le _) rfl).to [] trivial rfl rfl (Nat.zero_le _)⟩
  refine FnS.wpR (b := 0) (c := b19) Proofs.Tryz.f19 rfl rfl rfl rfl rfl rfl ?_
  refine WpN.seq (WpN.vc ?_)
  conv=>whnf
  refine WpN.cut (ι := Unit) (fun _=>[(1, .c (.p 0 0)), (2, .c (.p 1 0)), (3, .c (.p 2 0))]) (fun _=>[some (.st (recC red sid wei mo w0 w1 kind off gs i1 rs ns ms w fs mx lg (.iss .i8 ts) ltp seed rl ps ls es)), some (.st [.b false, .b false, .b false, .b false, .i .i64 0, .i .i64 0, .i .i64 0, .i .i64 0, .nsl, .i .i64 0, .nsl, .nsl, .nsl, .i .i64 0, .nsl, .i .i64 0, .nsl, .nsl, .i .i64 0, .i .i64 0, .i .i64 0, .nsl, .nsl, .nsl]), some (.st [.b red, .b sid, .b wei, .b mo, .i .i64 (IntKind.i64.wrap w0), .i .i64 (IntKind.i64.wrap w1), .i .i64 0, .i .i64 0, .is .i64 (gs.map IntKind.i64.wrap), .i .i64 (IntKind.i64.wrap i1), .is .i64 (rs.map IntKind.i64.wrap), .is .i64 (ns.map IntKind.i64.wrap), .is .i64 (ms.map IntKind.i64.wrap), .i .i64 (IntKind.i64.wrap w), .nsl, .i .i64 (IntKind.i64.wrap mx), .is .i64 lg, .nsl, .i .i64 (IntKind.i64.wrap ltp), .i .i64 (IntKind.i64.wrap seed), .i .i64 (IntKind.i64.wrap rl), .is .i64 (ps.map IntKind.i64.wrap), .is .i64 (ls.map IntKind.i64.wrap), .is .i64 (es.map IntKind.i64.wrap)])]) (fun _=>True) (WpN.of ?_) ?_
  · refine WpS.draw [0, 1, 0, 1, 0, 1, 0, 1, 0, 1, 0, 0, 1, 0, 0, 1, 0, 0, 1, 0, 0, 1, 0, 0, 1, 0, 0, 1, 0, 0, 1, 0, 0, 1, 0, 0, 1, 0, 0, 1, 0, 0, 1, 0, 0, 1, 0, 0, 1, 0, 0, 1, 0, 0, 1, 0, 0, 2, 2] (fun st2 => st2 0 = some (.st (recC red sid wei mo w0 w1 kind off gs i1 rs ns ms w fs mx lg (.iss .i8 ts) ltp seed rl ps ls es))) (by kernel_rfl) ?_
    conv=>whnf
    refine ⟨_, ⟨rfl, fun st2 h2 => ⟨_, h2, .inl rfl⟩⟩, ?_⟩
    conv=>whnf
    refine ⟨_, ⟨rfl, fun st2 h2 => ⟨_, h2, .inl rfl⟩⟩, ?_⟩
    conv=>whnf
    refine ⟨_, ⟨rfl, fun st2 h2 => ⟨_, h2, .inl rfl⟩⟩, ?_⟩
    conv=>whnf
    refine ⟨_, ⟨rfl, fun st2 h2 => ⟨_, h2, .inl rfl⟩⟩, ?_⟩
    conv=>whnf
    refine ⟨_, ⟨rfl, fun st2 h2 => ⟨_, h2, .inl rfl⟩⟩, ?_⟩
    conv=>whnf
    refine ⟨_, ⟨rfl, fun st2 h2 => ⟨_, h2, .inl rfl⟩⟩, ?_⟩
    conv=>whnf
    refine ⟨_, ⟨rfl, fun st2 h2 => ⟨_, h2, .inl rfl⟩⟩, ?_⟩
    conv=>whnf
    refine FreeQ.use (f31 gs hgs) (fun _=>rfl) rfl (fun v h nx => by subst h; rfl) ?_
    rintro v rfl
    conv=>whnf
    refine ⟨_, ⟨rfl, fun st2 h2 => ⟨_, h2, .inl rfl⟩⟩, ?_⟩
    conv=>whnf
    refine ⟨_, ⟨rfl, fun st2 h2 => ⟨_, h2, .inl rfl⟩⟩, ?_⟩
    conv=>whnf
    refine FreeQ.use (f32 rs hrs) (fun _=>rfl) rfl (fun v h nx => by subst h; rfl) ?_
    rintro v rfl
    conv=>whnf
    refine ⟨_, ⟨rfl, fun st2 h2 => ⟨_, h2, .inl rfl⟩⟩, ?_⟩
    conv=>whnf
    refine FreeQ.use (f32 ns hns) (fun _=>rfl) rfl (fun v h nx => by subst h; rfl) ?_
    rintro v rfl
    conv=>whnf
    refine ⟨_, ⟨rfl, fun st2 h2 => ⟨_, h2, .inl rfl⟩⟩, ?_⟩
    conv=>whnf
    refine FreeQ.use (f32 ms hms) (fun _=>rfl) rfl (fun v h nx => by subst h; rfl) ?_
    rintro v rfl
    conv=>whnf
    refine ⟨_, ⟨rfl, fun st2 h2 => ⟨_, h2, .inl rfl⟩⟩, ?_⟩
    conv=>whnf
    refine ⟨_, ⟨rfl, fun st2 h2 => ⟨_, h2, .inl rfl⟩⟩, ?_⟩
    conv=>whnf
    refine ⟨_, ⟨rfl, fun st2 h2 => ⟨_, h2, .inl rfl⟩⟩, ?_⟩
    conv=>whnf
    refine FreeQ.use (f33 lg hlg) (fun _=>rfl) rfl (fun v h nx => by subst h; rfl) ?_
    rintro v rfl
    conv=>whnf
    refine ⟨_, ⟨rfl, fun st2 h2 => ⟨_, h2, .inl rfl⟩⟩, ?_⟩
    conv=>whnf
    refine ⟨_, ⟨rfl, fun st2 h2 => ⟨_, h2, .inl rfl⟩⟩, ?_⟩
    conv=>whnf
    refine ⟨_, ⟨rfl, fun st2 h2 => ⟨_, h2, .inl rfl⟩⟩, ?_⟩
    conv=>whnf
    refine ⟨_, ⟨rfl, fun st2 h2 => ⟨_, h2, .inl rfl⟩⟩, ?_⟩
    conv=>whnf
    refine FreeQ.use (f34 ps hps) (fun _=>rfl) rfl (fun v h nx => by subst h; rfl) ?_
    rintro v rfl
    conv=>whnf
    refine ⟨_, ⟨rfl, fun st2 h2 => ⟨_, h2, .inl rfl⟩⟩, ?_⟩
    conv=>whnf
    refine FreeQ.use (f34 ls hls) (fun _=>rfl) rfl (fun v h nx => by subst h; rfl) ?_
    rintro v rfl
    conv=>whnf
    refine ⟨_, ⟨rfl, fun st2 h2 => ⟨_, h2, .inl rfl⟩⟩, ?_⟩
    conv=>whnf
    refine FreeQ.use (f31 es hes) (fun _=>rfl) rfl (fun v h nx => by subst h; rfl) ?_
    rintro v rfl
    conv=>whnf
    refine And.intro rfl ?_
    conv=>whnf
    refine And.intro rfl ?_
    conv=>whnf
    refine And.intro rfl ?_
    conv=>whnf
    refine And.intro rfl ?_
    conv=>whnf
    refine ⟨rfl, ?_⟩
    conv=>whnf
    exact ⟨(), trivial, (Ren.relOf [] (by kernel_rfl) (by repeat constructor) (by repeat' (first | exact trivial | refine And.intro ?_ ?_ | kernel_rfl)))⟩
  intro _ _
  refine WpN.cut (ι := Int × Int) (fun _=>[(1, .c (.p 0 0)), (2, .c (.p 1 0)), (3, .c (.p 2 0))]) (fun x => [some (.st (recC red sid wei mo w0 w1 kind off gs i1 rs ns ms w fs mx lg (.iss .i8 ts) ltp seed rl ps ls es)), some (.st [.b false, .b false, .b false, .b false, .i .i64 0, .i .i64 0, .i .i64 0, .i .i64 0, .nsl, .i .i64 0, .nsl, .nsl, .nsl, .i .i64 0, .nsl, .i .i64 0, .nsl, .nsl, .i .i64 0, .i .i64 0, .i .i64 0, .nsl, .nsl, .nsl]), some (.st [.b red, .b sid, .b wei, .b mo, .i .i64 (IntKind.i64.wrap w0), .i .i64 (IntKind.i64.wrap w1), .i .i64 x.1, .i .i64 x.2, .is .i64 (gs.map IntKind.i64.wrap), .i .i64 (IntKind.i64.wrap i1), .is .i64 (rs.map IntKind.i64.wrap), .is .i64 (ns.map IntKind.i64.wrap), .is .i64 (ms.map IntKind.i64.wrap), .i .i64 (IntKind.i64.wrap w), .nsl, .i .i64 (IntKind.i64.wrap mx), .is .i64 lg, .nsl, .i .i64 (IntKind.i64.wrap ltp), .i .i64 (IntKind.i64.wrap seed), .i .i64 (IntKind.i64.wrap rl), .is .i64 (ps.map IntKind.i64.wrap), .is .i64 (ls.map IntKind.i64.wrap), .is .i64 (es.map IntKind.i64.wrap)])]) (fun x => (0 ≤ x.1 ∧ x.1 ≤ 2) ∧ (0 ≤ x.2 ∧ x.2 ≤ 1) ∧ (kind = 9 → x.1 = 2)) (WpN.vc ?_) ?_
  · conv=>whnf
    refine CallQ.use [] (f35 red sid wei mo w0 w1 kind off gs i1 rs ns ms w fs mx lg (.iss .i8 ts) ltp seed rl ps ls es (.inr ⟨ts, rfl⟩) hk) rfl rfl trivial ?_
    rintro v l' ⟨k, o, rfl, rfl, h1, h2, h3⟩
    conv=>whnf
    exact ⟨(k, o), ⟨h1, h2, h3⟩, (Ren.relOf [] (by kernel_rfl) (by repeat constructor) (by repeat' (first | exact trivial | refine And.intro ?_ ?_ | kernel_rfl)))⟩
  rintro ⟨k, o⟩ ⟨h1, h2, h3⟩
  dsimp only at h1 h2 h3 ⊢
  refine WpN.weaken (s := mkSt [(1, .c (.p 0 0)), (2, .c (.p 1 0)), (3, .c (.p 2 0))] [some (.st (recC red sid wei mo w0 w1 kind off gs i1 rs ns ms w fs mx lg (.iss .i8 ts) ltp seed rl ps ls es)), some (.st [.b false, .b false, .b false, .b false, .i .i64 0, .i .i64 0, .i .i64 0, .i .i64 0, .nsl, .i .i64 0, .nsl, .nsl, .nsl, .i .i64 0, .nsl, .i .i64 0, .nsl, .nsl, .i .i64 0, .i .i64 0, .i .i64 0, .nsl, .nsl, .nsl]), some (.st [.b red, .b sid, .b wei, .b mo, .i .i64 (IntKind.i64.wrap w0), .i .i64 (IntKind.i64.wrap w1), .i .i64 k, .i .i64 o, .is .i64 (gs.map IntKind.i64.wrap), .i .i64 (IntKind.i64.wrap i1), .is .i64 (rs.map IntKind.i64.wrap), .is .i64 (ns.map IntKind.i64.wrap), .is .i64 (ms.map IntKind.i64.wrap), .i .i64 (IntKind.i64.wrap w), .osl 3 0, .i .i64 (IntKind.i64.wrap mx), .is .i64 lg, .osl 4 0, .i .i64 (IntKind.i64.wrap ltp), .i .i64 (IntKind.i64.wrap seed), .i .i64 (IntKind.i64.wrap rl), .is .i64 (ps.map IntKind.i64.wrap), .is .i64 (ls.map IntKind.i64.wrap), .is .i64 (es.map IntKind.i64.wrap)]), some (.ss true .i64 []), some (.ss true .i64 [])] 103) ?_ rfl (f19_3 red sid wei mo w0 w1 kind off gs i1 rs ns ms w fs mx lg ts ltp seed rl ps ls es k o h1 h2 h3 hfs hts)
  refine Rel.trans (Rel.nilO (nm := 2) (i := 14) (y := .ss true .i64 []) rfl rfl rfl (fun m h => by cases h)) ?_
  refine Rel.trans (Rel.nilO (nm := 2) (i := 17) (y := .ss true .i64 []) rfl rfl rfl (fun m h => by cases h)) ?_
  exact (Ren.relOf [] (by kernel_rfl) (by repeat constructor) (by repeat' (first | exact trivial | refine And.intro ?_ ?_ | kernel_rfl)))
structure Fi where
  x : ByteArray
  st : Bool
  ms : Int
  bw : Int
def Fi.row (i : Fi) : List C := [.s i.x, .b i.st, .i .i64 i.ms, .i .i64 i.bw]
def in0 : Fi := ⟨.empty, false, 0, 0⟩
structure Fi.Ok (i : Fi) : Prop where
  x : i.x.size ≤ 1275
  ms : i.ms = 10 ∨ i.ms = 20 ∨ i.ms = 40 ∨ i.ms = 60
  bw : i.bw = 1 ∨ i.bw = 2 ∨ i.bw = 3
def Fi.data (i : Fi) : List Int := i.x.data.toList.map fun b => (b.toNat : Int)
theorem Fi.data_len (i : Fi) : i.data.length = i.x.size := by
  unfold Fi.data
  rw [List.length_map, Array.length_toList]
  rfl
def Fi.n (i : Fi) : Nat := if i.ms = 60 then 3 else if i.ms = 40 then 2 else 1
theorem Fi.n_le (i : Fi) : i.n ≤ 3 := by unfold Fi.n; split <;> (try split) <;> omega
theorem FnS.conj {f : Nat} {vs : List V} {l : List (Option B)} {K : V → List (Option B) → Prop} (h : FnS f vs l K) : ∃ v l', K v l' ∧ FnS f vs l fun v1 l1 => v1 = v ∧ l1 = l' :=
  let ⟨v, l', h1, h2⟩ := h; ⟨v, l', h1, v, l', ⟨rfl, rfl⟩, h2⟩
theorem Fn0.fnS {f : Nat} {vs : List V} {b : B} {K : V → B → Prop} (h : Fn0 f vs b K) : FnS f vs [some b] fun v l' => ∃ b', K v b' ∧ l' = [some b'] := by
  obtain ⟨v, b', h1, h2⟩ := h (mkS [some b]) 1 rfl
  refine ⟨v, [some b'], ⟨b', h1, rfl⟩, ?_⟩
  have e : upd (mkS [some b]) 0 b' = mkS [some b'] := by
    funext m
    cases m with
    | zero => rfl
    | succ m => rw [upd_other _ _ (Nat.succ_ne_zero m)]; rfl
  rw [e] at h2
  exact h2
def Rd (m e : Ch) (x : Fi) (y : Ch × Ch × List (List C)) : Prop :=
  (FnS 14 [.c (.p 0 0), .c (.is .u8 x.data), .c (.b x.st), .c (.i .i64 (x.ms * 1000000)), .c (.i .u8 x.bw)] (lay (twoS m e) 76) fun v l' => v = .tu [.c (.irs 24 y.2.2), .ag (rc6 y.1.D), .c (.kv .nilIface)] ∧ l' = lay (twoSH y.1 y.2.1) 152) ∧
  y.1.Ok ∧ y.2.1.Sk ∧ More 12 [] y.2.2
noncomputable instance : Nonempty (Ch × Ch × List (List C)) := ⟨(ch0, ch0, [])⟩
noncomputable def nxt (m e : Ch) (x : Fi) : Ch × Ch × List (List C) := Classical.epsilon (Rd m e x)
theorem nxt_ok {m e : Ch} {x : Fi} (hm : m.Sk) (he : e.Sk) (hx : x.Ok) : Rd m e x (nxt m e x) := by
  have hms := hx.ms
  obtain ⟨v, l', ⟨m', e', rs, h1, h2, h3, rfl, rfl⟩, h4⟩ := (f14 m e x.data x.st (x.ms * 1000000) x.bw hm he (by rw [x.data_len]; exact hx.x) hx.bw (by omega)).conj
  exact Classical.epsilon_spec (p := Rd m e x) ⟨(m', e', rs), h4, h1, h2, h3⟩
def Fg (ys : List Bool) (k n : Nat) (z : List Bool) : Prop := (FnS 16 [.c (.sl 0 0 k k), .c (.i .i64 n)] [some (.bl false ys)] fun v l' => v = .c (.ibs z) ∧ l' = [some (.bl false ys)]) ∧ z.length ≤ 3
noncomputable def flg (ys : List Bool) (k n : Nat) : List Bool := Classical.epsilon (Fg ys k n)
theorem flg_ok {ys : List Bool} {k n : Nat} (hk : k ≤ ys.length) (hn : n ≤ 3) : Fg ys k n (flg ys k n) := by
  obtain ⟨v, l', ⟨z, h1, rfl, rfl⟩, h2⟩ := (f16 ys k k n hk hn).conj
  exact Classical.epsilon_spec (p := Fg ys k n) ⟨z, h2, h1⟩
def Tl (D : Dec) (y : Int) : Prop := FnS 18 [.c (.p 0 0)] [some (.st (rc6 D))] fun v l' => v = .c (.i .u64 y) ∧ l' = [some (.st (rc6 D))]
noncomputable def tel (D : Dec) : Int := Classical.epsilon (Tl D)
theorem tel_ok (D : Dec) : Tl D (tel D) := by
  obtain ⟨v, l', ⟨b', ⟨⟨y, rfl⟩, rfl⟩, rfl⟩, h2⟩ := (f18 D.data D.b D.r D.n D.s D.h []).fnS.conj
  exact Classical.epsilon_spec (p := Tl D) ⟨y, h2⟩
theorem f17s (D : Dec) : FnS 17 [.c (.p 0 0)] [some (.st (rc6 D))] fun v l' => v = .c (.i .u32 D.s) ∧ l' = [some (.st (rc6 D))] :=
  (f17 D.data D.b D.r D.n D.s D.h []).fnS.mono fun v l' ⟨b', ⟨h1, h2⟩, h3⟩ => ⟨h1, by rw [h3, h2]; rfl⟩
def frN (b1 b2 b3 b4 : Bool) (w0 w1 k o : Int) (gs : List Int) (i1 : Int) (rs ns ms : List Int) (w : Int) (fs : List (List Int)) (mx : Int) (lg : List Int) (ts : List (List Int)) (sc sd rl : Int) (ps ls es : List Int) : List C :=
  [.b b1, .b b2, .b b3, .b b4, .i .i64 w0, .i .i64 w1, .i .i64 k, .i .i64 o, .is .i64 gs, .i .i64 i1, .is .i64 rs, .is .i64 ns, .is .i64 ms, .i .i64 w, .iss .i64 fs, .i .i64 mx, .is .i64 lg, .iss .i64 ts, .i .i64 sc, .i .i64 sd, .i .i64 rl, .is .i64 ps, .is .i64 ls, .is .i64 es]
def FrOk (y : List C) : Prop := ∃ (b1 b2 b3 b4 : Bool) (w0 w1 k o : Int) (gs : List Int) (i1 : Int) (rs ns ms : List Int) (w : Int) (fs : List (List Int)) (mx : Int) (lg : List Int) (ts : List (List Int)) (sc sd rl : Int) (ps ls es : List Int),
  y = frN b1 b2 b3 b4 w0 w1 k o gs i1 rs ns ms w fs mx lg ts sc sd rl ps ls es ∧ ((0 ≤ k ∧ k ≤ 2) ∧ (0 ≤ o ∧ o ≤ 1)) ∧ (0 < gs.length ∧ ∀ g ∈ gs, 81920 ≤ g ∧ g ≤ 1686110208) ∧ LsfOk ns.length ns ∧ (∀ x ∈ lg, (16 ≤ x ∧ x ≤ 288) ∧ k = 2) ∧
  (gs.length ≤ 4 ∧ rs.length ≤ 16 ∧ ns.length ≤ 16 ∧ ms.length ≤ 16 ∧ fs.length ≤ 2 ∧ (∀ f ∈ fs, f.length ≤ 16) ∧ lg.length ≤ 4 ∧ ts.length ≤ 4 ∧ (∀ f ∈ ts, f.length ≤ 5) ∧ ps.length ≤ 20 ∧ ls.length ≤ 20 ∧ es.length ≤ 320)
def I64 (x : Int) : Prop := -9223372036854775808 ≤ x ∧ x ≤ 9223372036854775807
theorem i64w (x : Int) : I64 (IntKind.i64.wrap x) := by unfold I64; rw [IntKind.wrap_i64]; omega
theorem i64m (xs : List Int) : ∀ x ∈ xs.map IntKind.i64.wrap, I64 x := fun x hx => by obtain ⟨y, _, rfl⟩ := List.mem_map.1 hx; exact i64w y
theorem i64r (xss : List (List Int)) : ∀ xs ∈ rowsI xss, ∀ x ∈ xs, I64 x := fun xs hx => by obtain ⟨y, _, rfl⟩ := List.mem_map.1 hx; exact i64m y
def CI : C → Prop
  | .i _ n => I64 n
  | .is _ xs => ∀ x ∈ xs, I64 x
  | .iss _ xss => ∀ xs ∈ xss, ∀ x ∈ xs, I64 x
  | _ => True
def FrI (y : List C) : Prop := ∀ c ∈ y, CI c
def Fr (r y : List C) : Prop := ((FnS 19 [.ag r] [] fun v l' => v = .ag y ∧ l' = []) ∧ FrI y) ∧ FrOk y
noncomputable def fr (r : List C) : List C := Classical.epsilon (Fr r)
theorem map_wrap {xs : List Int} (h : ∀ x ∈ xs, -9223372036854775808 ≤ x ∧ x ≤ 9223372036854775807) : xs.map IntKind.i64.wrap = xs := by
  induction xs with
  | nil => rfl
  | cons x r ih =>
    have := h x (by simp)
    rw [List.map_cons, IntWalk.i64_in x (by omega), ih fun y hy => h y (by simp [hy])]
theorem LsfOk.mem {d : Nat} {ys : List Int} (h : LsfOk d ys) (hd : d = ys.length) : ∀ x ∈ ys, 1 ≤ x ∧ x ≤ 32767 := fun x hx => by
  obtain ⟨i, hi⟩ := List.mem_iff_getElem?.1 hx
  have hl : i < ys.length := (List.getElem?_eq_some_iff.1 hi).1
  have := h.1 i (by omega)
  rwa [List.getD_eq_getElem?_getD, hi] at this
theorem nsl_arg {cs : List C} {i : Nat} {k : IntKind} (h : cs[i]? = some .nsl) : ∀ (X : Ctx) (j : Nat) v u, [V.ag cs][j]? = some v → VDen X v u → ∃ v', [V.ag (cs.set i (.iss k []))][j]? = some v' ∧ VDen X v' u ∧ ∀ nm, v'.Has nm → v.Has nm := by
  intro X j v u hv hd
  have hi := (List.getElem?_eq_some_iff.1 h).1
  cases j with
  | succ j => simp at hv
  | zero =>
    cases hv
    refine ⟨_, rfl, ?_, fun nm hn => ?_⟩
    · cases hd with
      | @ag _ cells hs hd =>
        refine .ag (by simpa using hs) fun a c u hc hu => ?_
        by_cases ha : a = i
        · subst ha
          rw [List.getElem?_set_self hi] at hc
          cases hc
          have := hd a .nsl u h hu
          cases this; exact .iss0
        · rw [List.getElem?_set_ne (Ne.symm ha)] at hc
          exact hd a c u hc hu
    · cases hn with
      | ag hm hc =>
        rcases List.mem_or_eq_of_mem_set hm with h1 | h1
        · exact .ag h1 hc
        · subst h1; exact hc.elim
theorem fr_ok {r : List C} (h : RecOk r) : Fr r (fr r) := by
  refine Classical.epsilon_spec (p := Fr r) ?_
  obtain ⟨red, sid, wei, mo, w0, w1, kind, off, gs, i1, rs, ns, ms, w, fs, mx, lg, tp, ts, ltp, seed, rl, ps, ls, es, rfl, ⟨hk, _⟩, ⟨hg0, hg⟩, hL, hlg, htp, l1, l2, l3, l4, l5, l6, l7, l8, l9, l10, l11, l12⟩ := h
  have key : ∃ y, ((FnS 19 [.ag (recC red sid wei mo w0 w1 kind off gs i1 rs ns ms w fs mx lg (.iss .i8 ts) ltp seed rl ps ls es)] [] fun v l' => v = .ag y ∧ l' = []) ∧ FrI y) ∧ FrOk y := by
    obtain ⟨v, l', ⟨k, o, rfl, rfl, h1, h2, h3⟩, h4⟩ := (f19 red sid wei mo w0 w1 kind off gs i1 rs ns ms w fs mx lg ts ltp seed rl ps ls es hk (by omega) (by omega) (by omega) (by omega) ⟨by omega, fun f hf => by have := l6 f hf; omega⟩ (by omega) ⟨by omega, fun f hf => by have := l9 f hf; omega⟩ (by omega) (by omega) (by omega)).conj
    refine ⟨_, ⟨h4, ?_⟩, red, sid, wei, mo, _, _, k, o, _, _, _, _, _, _, _, _, lg, _, _, _, _, _, _, _, rfl, ⟨h1, h2⟩, ?_, ?_, fun x hx => ⟨(hlg x hx).1, h3 (hlg x hx).2⟩, ?_⟩
    · have hlI : ∀ x ∈ lg, I64 x := fun x hx => by have := (hlg x hx).1; unfold I64; omega
      have hkI : I64 k := by unfold I64; omega
      have hoI : I64 o := by unfold I64; omega
      intro c hc
      simp only [frC, List.mem_cons, List.not_mem_nil, or_false] at hc
      rcases hc with rfl | rfl | rfl | rfl | rfl | rfl | rfl | rfl | rfl | rfl | rfl | rfl | rfl | rfl | rfl | rfl | rfl | rfl | rfl | rfl | rfl | rfl | rfl | rfl
      all_goals first
        | exact trivial
        | exact i64w _
        | exact i64m _
        | exact i64r _
        | exact hkI
        | exact hoI
        | exact hlI
    · rw [map_wrap fun x hx => by have := hg x hx; omega]
      exact ⟨hg0, hg⟩
    · rw [map_wrap fun x hx => by have := hL.mem rfl x hx; omega]
      exact hL
    · simp only [List.length_map]
      refine ⟨l1, l2, l3, l4, l5, fun f hf => ?_, l7, l8, fun f hf => ?_, l10, l11, l12⟩
      · obtain ⟨g, hg, rfl⟩ := List.mem_map.1 hf
        simpa using l6 g hg
      · obtain ⟨g, hg, rfl⟩ := List.mem_map.1 hf
        simpa using l9 g hg
  rcases htp with rfl | ⟨rfl, rfl⟩
  · exact key
  · obtain ⟨y, ⟨h1, h3⟩, h2⟩ := key
    exact ⟨y, ⟨FnS.arg h1 rfl (nsl_arg (i := 17) (k := .i8) rfl), h3⟩, h2⟩
def tdC (va sv ag sa : List Bool) (fs : List (List C)) (rg tl : Int) : List C := [.ibs va, .ibs sv, .ibs ag, .ibs sa, .irs 24 fs, .i .u32 rg, .i .i64 tl]
noncomputable def tv (m : Ch) (rs : List (List C)) (x : Fi) : List C :=
  tdC (flg (m.Z 5).ys (m.Z 5).cap x.n) (match x.st with | true => flg (m.Z 6).ys (m.Z 6).cap x.n | false => []) (flg (m.Z 7).ys (m.Z 7).cap x.n) (match x.st with | true => flg (m.Z 8).ys (m.Z 8).cap x.n | false => []) (rs.map fr) m.D.s (IntKind.i64.wrap (tel m.D))
def TdOk (t : List C) : Prop := ∃ (va sv ag sa : List Bool) (fs : List (List C)) (rg tl : Int), t = tdC va sv ag sa fs rg tl ∧ va.length ≤ 3 ∧ sv.length ≤ 3 ∧ ag.length ≤ 3 ∧ sa.length ≤ 3 ∧ fs.length ≤ 12 ∧ ∀ f ∈ fs, FrOk f
def TdI (t : List C) : Prop := ∀ (va sv ag sa : List Bool) (fs : List (List C)) (rg tl : Int), t = tdC va sv ag sa fs rg tl → (∀ f ∈ fs, FrI f) ∧ I64 tl
noncomputable def stp (S : (Ch × Ch) × List (List C)) (x : Fi) : (Ch × Ch) × List (List C) :=
  (((nxt S.1.1 S.1.2 x).1, (nxt S.1.1 S.1.2 x).2.1), S.2 ++ [tv (nxt S.1.1 S.1.2 x).1 (nxt S.1.1 S.1.2 x).2.2 x])
noncomputable def go (l : List Fi) : (Ch × Ch) × List (List C) := l.foldl stp ((ch0, ch0), [])
theorem tv_ok {m : Ch} {rs : List (List C)} {x : Fi} (hr : More 12 [] rs) : TdOk (tv m rs x) := by
  obtain ⟨ms, rfl, h1, h2⟩ := hr
  have hf : ∀ i, (flg (m.Z i).ys (m.Z i).cap x.n).length ≤ 3 := fun i => (flg_ok (m.Z i).okb x.n_le).2
  refine ⟨_, _, _, _, _, _, _, rfl, hf 5, ?_, hf 7, ?_, by simpa using h1, fun f hf => ?_⟩
  · cases x.st <;> first | exact hf 6 | simp
  · cases x.st <;> first | exact hf 8 | simp
  · obtain ⟨r, hr, rfl⟩ := List.mem_map.1 hf
    exact (fr_ok (h2 r (by simpa using hr))).2
theorem tv_i {m : Ch} {rs : List (List C)} {x : Fi} (hr : More 12 [] rs) : TdI (tv m rs x) := by
  obtain ⟨ms, rfl, h1, h2⟩ := hr
  intro va sv ag sa fs rg tl h
  simp only [tv, tdC, List.cons.injEq, C.irs.injEq, C.i.injEq, true_and, and_true] at h
  obtain ⟨_, _, _, _, rfl, _, rfl⟩ := h
  refine ⟨fun f hf => ?_, i64w _⟩
  obtain ⟨r, hr, rfl⟩ := List.mem_map.1 hf
  exact (fr_ok (h2 r (by simpa using hr))).1.2
theorem go_take {l : List Fi} {j : Nat} (h : j < l.length) : go (l.take (j + 1)) = stp (go (l.take j)) (l.getD j in0) := by
  unfold go
  rw [List.take_add_one, List.foldl_append, List.getD_eq_getElem?_getD, List.getElem?_eq_getElem h]
  rfl
structure GoOk (S : (Ch × Ch) × List (List C)) (n : Nat) : Prop where
  m : S.1.1.Sk
  e : S.1.2.Sk
  len : S.2.length = n
  ok : ∀ t ∈ S.2, TdOk t
  ok2 : ∀ t ∈ S.2, TdI t
theorem stp_ok {S : (Ch × Ch) × List (List C)} {n : Nat} {x : Fi} (h : GoOk S n) (hx : x.Ok) : GoOk (stp S x) (n + 1) := by
  obtain ⟨_, h1, h2, h3⟩ := nxt_ok h.m h.e hx
  refine ⟨h1.sk, h2, by simp [stp, h.len], fun t ht => ?_, fun t ht => ?_⟩
  · rcases List.mem_append.1 ht with ht | ht
    · exact h.ok t ht
    · cases List.mem_singleton.1 ht; exact tv_ok h3
  · rcases List.mem_append.1 ht with ht | ht
    · exact h.ok2 t ht
    · cases List.mem_singleton.1 ht; exact tv_i h3
theorem go_ok {l : List Fi} (hl : ∀ x ∈ l, x.Ok) : ∀ j, j ≤ l.length → GoOk (go (l.take j)) j
  | 0, _ => ⟨ch0_sk, ch0_sk, by simp [go], fun t h => by simp [go] at h, fun t h => by simp [go] at h⟩
  | j + 1, h => by
    rw [go_take (by omega)]
    exact stp_ok (go_ok hl j (by omega)) (getD_in hl (by omega))
def fi0 : Fi := ⟨.empty, false, 0, 0⟩
noncomputable def b7 : Code := match Proofs.Tryz.f7.body with | some c => c | none => .skip
noncomputable def l7 : Code := inC (inC (sndC (fstC (tlC 3 b7))))
noncomputable def y7 : Code := inC (fstC (sndC (sndC l7)))
@[reducible] def mem7 (m e : Ch) (td : List (List C)) : List (Nat × B) := (76, .st [.osl 78 td.length]) :: (77, .st [.i .i64 0]) :: (78, .rs true 7 td) :: twoS m e
@[reducible] def eI (l : List Fi) (j : Nat) (r : List (Nat × V)) : List (Nat × V) := (2, .c (.p 76 0)) :: (3, .c (.p 77 0)) :: (4, .c (.p 0 0)) :: (20, .c (.irs 4 (l.map Fi.row))) :: (21, .c (.i .i64 l.length)) :: (22, .c (.i .i64 j)) :: r
theorem row_getD {l : List Fi} {j : Nat} (h : j < l.length) : (l.map Fi.row).getD j [] = [.s (l.getD j fi0).x, .b (l.getD j fi0).st, .i .i64 (l.getD j fi0).ms, .i .i64 (l.getD j fi0).bw] := by
  rw [List.getD_eq_getElem?_getD, List.getD_eq_getElem?_getD, List.getElem?_map, List.getElem?_eq_getElem h]
  rfl
@[reducible] def rowC (x : Fi) : List C := [.s x.x, .b x.st, .i .i64 x.ms, .i .i64 x.bw]
theorem y7_0 {Q : Exit → (Nat → Option V) → (Nat → Option B) → Nat → Prop} (l : List Fi) (j : Nat) (m e : Ch) (td : List (List C)) (hl : ∀ x ∈ l, x.Ok) (hj : j < l.length) (hm : m.Sk) (he : e.Sk)
    (T : ∀ y : Ch × Ch × List (List C), y = nxt m e (l.getD j fi0) → WpN 0 102 (tlC 4 y7) (mkE (eI l j [(6, .c (.p 79 0)), (7, .c (.irs 24 y.2.2)), (8, .c (.p 80 0))])) (mkS (lay ((79, .st (rowC (l.getD j fi0))) :: (80, .st (rc6 y.1.D)) :: mem7 y.1 y.2.1 td) 81)) 81 Q) :
    WpN 0 102 y7 (mkE (eI l j [])) (mkS (lay (mem7 m e td) 79)) 79 Q := by
  have hx : (l.getD j fi0).Ok := getD_in hl hj
  have hrow := row_getD hj
  have hnx := nxt_ok hm he hx
  generalize l.getD j fi0 = x at *
  refine WpN.seq (WpN.vc ?_)
  conv=>whnf
  refine And.intro (by simp; omega) ?_
  rw [Int.toNat_natCast, hrow]
  conv=>whnf
  refine And.intro rfl ?_
  conv=>whnf
  refine WpN.weaken (s := mkSt (eI l j [(6, .c (.p 79 0))]) (lay ((79, .st (rowC x)) :: mem7 m e td) 80) 102) (Rel.lay [] (by kernel_rfl) (by repeat constructor) (by repeat' (first | exact trivial | refine And.intro ?_ ?_ | kernel_rfl))) rfl ?_
  refine WpN.cut (ι := Unit) (fun _=>(eI l j [(6, .c (.p 79 0))])) (fun _=>lay ((79, .st (rowC x)) :: mem7 m e td) 80) (fun _=>True) (WpN.vc ?_) ?_
  · have hb := hx.bw
    conv=>whnf
    refine ⟨fun h => absurd (of_decide_eq_true h) (by omega), fun _=>?_⟩
    conv=>whnf
    repeat' first|(refine Lt (by decide) ?_;conv=>whnf)|(refine Lf (by decide) ?_;conv=>whnf)|fail
    refine ⟨fun h => absurd (of_decide_eq_true h) (by omega), fun _=>?_⟩
    conv=>whnf
    exact ⟨(), trivial, (Rel.lay [] (by kernel_rfl) (by repeat constructor) (by repeat' (first | exact trivial | refine And.intro ?_ ?_ | kernel_rfl)))⟩
  intro _ _
  have hb := hx.bw
  have hms := hx.ms
  refine WpN.cut (ι := Unit) (fun _=>(eI l j [(6, .c (.p 79 0)), (7, .c (.irs 24 (nxt m e x).2.2)), (8, .c (.p 80 0)), (9, .c (.kv .nilIface))])) (fun _=>lay ((79, .st (rowC x)) :: (80, .st (rc6 (nxt m e x).1.D)) :: mem7 (nxt m e x).1 (nxt m e x).2.1 td) 81) (fun _=>True) (WpN.vc ?_) ?_
  · conv=>whnf
    rw [IntWalk.i64_in (x.ms * 1000000) (by omega), IntWalk.u8_in x.bw (by omega)]
    refine CallQ.useF [0, 1, 2, 3, 4, 5, 6, 7, 8, 9, 10, 11, 12, 13, 14, 15, 16, 17, 18, 19, 20, 21, 22, 23, 24, 25, 26, 27, 28, 29, 30, 31, 32, 33, 34, 35, 36, 37, 38, 39, 40, 41, 42, 43, 44, 45, 46, 47, 48, 49, 50, 51, 52, 53, 54, 55, 56, 57, 58, 59, 60, 61, 62, 63, 64, 65, 66, 67, 68, 69, 70, 71, 72, 73, 74, 75] hnx.1 rfl (by kernel_rfl) (stEq_lay (by repeat' (first | exact trivial | refine And.intro ?_ ?_ | kernel_rfl)) 76 0) ?_
    rintro v l' ⟨rfl, rfl⟩
    conv=>whnf
    exact ⟨(), trivial, (Rel.lay [(1, 81), (2, 82), (3, 83), (4, 84), (5, 85), (6, 86), (7, 87), (8, 88), (9, 89), (10, 90), (11, 91), (12, 92), (13, 93), (14, 94), (15, 95), (16, 96), (17, 97), (18, 98), (19, 99), (20, 100), (21, 101), (22, 102), (23, 103), (25, 105), (26, 106), (27, 107), (28, 108), (30, 110), (31, 111), (32, 112), (33, 113), (34, 114), (35, 115), (36, 116), (37, 117), (38, 118), (39, 119), (40, 120), (41, 121), (42, 122), (43, 123), (44, 124), (45, 125), (46, 126), (47, 127), (48, 128), (49, 129), (50, 130), (51, 131), (52, 132), (53, 133), (54, 134), (55, 135), (56, 136), (57, 137), (58, 138), (59, 139), (60, 140), (61, 141), (62, 142), (63, 143), (64, 144), (65, 145), (66, 146), (67, 147), (68, 148), (69, 149), (70, 150), (71, 151), (72, 152), (73, 153), (74, 154), (75, 155), (80, 156)] (by kernel_rfl) (by repeat constructor) (by repeat' (first | exact trivial | refine And.intro ?_ ?_ | kernel_rfl)))⟩
  intro _ _
  refine WpN.cut (ι := Unit) (fun _=>(eI l j [(6, .c (.p 79 0)), (7, .c (.irs 24 (nxt m e x).2.2)), (8, .c (.p 80 0))])) (fun _=>lay ((79, .st (rowC x)) :: (80, .st (rc6 (nxt m e x).1.D)) :: mem7 (nxt m e x).1 (nxt m e x).2.1 td) 81) (fun _=>True) (WpN.vc ?_) (fun _ _ => T _ rfl)
  conv=>whnf
  repeat' first|(refine Lt (by decide) ?_;conv=>whnf)|(refine Lf (by decide) ?_;conv=>whnf)|fail
  exact ⟨(), trivial, (Rel.lay [] (by kernel_rfl) (by repeat constructor) (by repeat' (first | exact trivial | refine And.intro ?_ ?_ | kernel_rfl)))⟩
end Go.SX
