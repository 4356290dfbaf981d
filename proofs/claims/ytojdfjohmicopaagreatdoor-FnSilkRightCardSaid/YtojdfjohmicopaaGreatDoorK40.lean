/- FnSilkRight: for every list of SILK frames the law answers true, and leaves its argument as it was (conditions: the row's own, its package-level variable as the card ties it). -/
import Derived.Test.YtojdfjohmicopaaGreatDoorRows
import Derived.ProofKit
import Derived.Test.YtojdfjohmicopaaGreatDoorCards
import Derived.Test.YtojdfjohmicopaaGreatDoorTie
import Derived.LaidMore
import Derived.OpenShut
import Derived.Stop.Joined
import Derived.SevenTiedAt
import Derived.Deep.Slices
import Derived.Deep.Strs
import Derived.Lib.SmallJoins
import Derived.Test.YtojdfjohmicopaaGreatDoorK39
set_option linter.all false
set_option maxRecDepth 100000
namespace Go.SX
open Go
@[reducible] def S26 : List C := [.i .i64 777, .b true, .i .u32 8589934, .i .u32 11, .i .u32 88, .i .i64 (-2)]
theorem f26a : FnS 26 [.c (.s (strOf [199, 1])), .c (.irs 6 [R24])] [] fun v l' => v = .tu [.c (.osl 0 1), .c (.i .i64 0)] ∧ l' = [some (.rs true 6 [S26])] := by
  refine FnS.wpD (b := 0) (n := 124) Proofs.Tryz.f26 rfl rfl rfl rfl rfl rfl idle52 enter52 rfl (by decide) ?_
  refine WpN.vc ?_
  conv=>whnf
  refine ⟨rfl, ?_⟩
  refine WpN.seq (WpN.vc ?_)
  conv=>whnf
  repeat' (first
      | (refine ⟨fun _=>?_, fun h => absurd h (by decide)⟩
         conv=>whnf)
      | (refine ⟨fun h => absurd h (by decide), fun _=>?_⟩
         conv=>whnf)
      | (refine WpN.seq (WpN.vc ?_)
         conv=>whnf)
      | (refine WpN.vc ?_
         conv=>whnf)
      | (refine WpS.rounds (WpS.round (VC_ok ?_))
         conv=>whnf)
      | (refine WpS.round (VC_ok ?_)
         conv=>whnf)
      | (refine And.intro (by first | rfl | decide) ?_
         conv=>whnf)
      | (refine .inl ⟨by decide +kernel, ?_⟩
         conv=>whnf)
      | (refine CallQ.use [2] f28a rfl rfl ⟨rfl, trivial⟩ ?_
         rintro v l' ⟨rfl, rfl⟩
         conv=>whnf)
      | (refine CallQ.use [2] f57a rfl rfl ⟨rfl, trivial⟩ ?_
         rintro v l' ⟨rfl, rfl⟩
         conv=>whnf)
      | (refine CallQ.use [2] f17a rfl rfl ⟨rfl, trivial⟩ ?_
         rintro v l' ⟨rfl, rfl⟩
         conv=>whnf)
      | (refine CallQ.use [2] f18a rfl rfl ⟨rfl, trivial⟩ ?_
         rintro v l' ⟨rfl, rfl⟩
         conv=>whnf)
      | (refine CallQ.use [2] f61a rfl rfl ⟨rfl, trivial⟩ ?_
         rintro v l' ⟨rfl, rfl⟩
         conv=>whnf)
      | (refine CallQ.use [2] f62a rfl rfl ⟨rfl, trivial⟩ ?_
         rintro v l' ⟨rfl, rfl⟩
         conv=>whnf)
      | fail)
  exact ⟨[(0, 6)], .tu [.c (.osl 0 1), .c (.i .i64 0)], [some (.rs true 6 [S26])], rfl, by kernel_rfl, (by repeat' (first | exact trivial | refine And.intro ?_ ?_ | kernel_rfl)), rfl, rfl⟩
theorem f26 : FnS 26 [.c (.s (strOf [199, 1])), .c (.irs 6 [R24])] [] fun v l' => v = .tu [.c (.irs 6 [S26]), .c (.i .i64 0)] ∧ l' = [] := by
  refine FnS.behind f26a ?_
  rintro v l' ⟨rfl, rfl⟩
  exact ⟨_, _, ⟨rfl, rfl⟩, (RelM.frz1 (b := 0) (nx := 1) (c := .osl 0 1) (c' := .irs 6 [S26]) (vs := [.c (.i .i64 0)]) (φ := 1 = 1) rfl rfl (by decide) rfl).to [] trivial rfl rfl (Nat.zero_le _)⟩
theorem f10 : FnS 10 [] [] fun v l' => v = .c (.b true) ∧ l' = [] := by
  refine FnS.wpR (b := 0) Proofs.Tryz.f10 rfl rfl rfl rfl rfl rfl ?_
  repeat' (first
      | (refine ⟨fun _=>?_, fun h => absurd h (by decide)⟩
         conv=>whnf)
      | (refine ⟨fun h => absurd h (by decide), fun _=>?_⟩
         conv=>whnf)
      | (refine WpN.seq (WpN.vc ?_)
         conv=>whnf)
      | (refine WpN.vc ?_
         conv=>whnf)
      | (refine WpS.rounds (WpS.round (VC_ok ?_))
         conv=>whnf)
      | (refine WpS.round (VC_ok ?_)
         conv=>whnf)
      | (refine And.intro (by first | rfl | decide) ?_
         conv=>whnf)
      | (refine .inl ⟨by decide +kernel, ?_⟩
         conv=>whnf)
      | (refine CallQ.use [0] f24 rfl rfl ⟨rfl, trivial⟩ ?_
         rintro v l' ⟨rfl, rfl⟩
         conv=>whnf)
      | (refine CallQ.use [] f25a rfl rfl trivial ?_
         rintro v l' ⟨rfl, rfl⟩
         conv=>whnf)
      | (refine CallQ.use [] f26 rfl rfl trivial ?_
         rintro v l' ⟨rfl, rfl⟩
         conv=>whnf)
      | fail)
  exact ⟨[], .c (.b true), [], by kernel_rfl, by kernel_rfl, trivial, rfl, rfl⟩
theorem f4w (l : List Fi) : FnS 4 [.c (.irs 4 (l.map Fi.row))] [] fun v l' => v = .c (.b true) ∧ l' = [] := f4 f10 l
end Go.SX
namespace Go.Proofs.YtojdfjohmicopaaGreatDoor
theorem andI {a b : Bool} (ha : a = true) (hb : b = true) : (a && b) = true := by subst ha hb; rfl
theorem fact0 : (Rows.fnSilkRightRow.wf (OpenSpec.ofChange Rows.fnSilkRightSpec)) = true := by kernel_rfl
theorem fact1 : (laidOutB Tryz.checked.prog) = true := by kernel_rfl
theorem fact2 : (mapsRowed Tryz.checked.prog) = true := by kernel_rfl
theorem fact3 : (Tryz.f4.params.all (Tryz.checked.prog.readableRec ·)) = true := by kernel_rfl
theorem fact4 : (namedTie Tryz.checked.prog Rows.fnSilkRightRow.named Rows.fnSilkRightSpec.vars) = true := by kernel_rfl
theorem fact5 : ((Rows.fnSilkRightRow.stops == [])) = true := by kernel_rfl
theorem fact6 : ((Tryz.checked.prog.stops == [])) = true := by kernel_rfl
theorem fact7 : ((Rows.fnSilkRightRow.knobs == [])) = true := by kernel_rfl
theorem fact8 : ((Tryz.checked.prog.stopKnobs == [])) = true := by kernel_rfl
theorem fact9 : ((Rows.fnSilkRightRow.inPlace == Tryz.checked.prog.inPlace 4)) = true := by kernel_rfl
theorem fact10 : ((Rows.fnSilkRightRow.unfollowed == Tryz.checked.prog.unfollowed 4)) = true := by kernel_rfl
theorem fact11 : ((Rows.fnSilkRightRow.recurses == Tryz.checked.prog.recurses 4)) = true := by kernel_rfl
theorem fact12 : ((Rows.fnSilkRightRow.named == Tryz.checked.prog.varsNamed 4)) = true := by kernel_rfl
theorem fact13 : ((Rows.fnSilkRightRow.maps == (Tryz.f4.params.toList ++ Rows.fnSilkRightSpec.plain.varTypes Tryz.checked.prog).any (Tryz.checked.prog.mapsRec ·))) = true := by kernel_rfl
theorem fact14 : ((Rows.fnSilkRightRow.ifaces == (Tryz.f4.params.toList ++ Rows.fnSilkRightSpec.plain.varTypes Tryz.checked.prog).any (Tryz.checked.prog.ifacesRec ·))) = true := by kernel_rfl
theorem fact15 : ((Rows.fnSilkRightRow.mapsOut == Tryz.checked.prog.mapsAmong Tryz.f4.resultTypes.toList)) = true := by kernel_rfl
theorem fact16 : ((Rows.fnSilkRightRow.loops == (Tryz.f4.params.toList ++ Rows.fnSilkRightSpec.plain.varTypes Tryz.checked.prog).any (Tryz.checked.prog.loopsFrom ·))) = true := by kernel_rfl
theorem fact17 : ((Rows.fnSilkRightRow.wideKeys == (Tryz.f4.params.toList ++ Rows.fnSilkRightSpec.plain.varTypes Tryz.checked.prog ++ Tryz.f4.resultTypes.toList).any (Tryz.checked.prog.wideKeysFrom ·))) = true := by kernel_rfl
theorem fact18 : (Rows.fnSilkRightSpec.vars.all (Tryz.checked.prog.varReadable ·)) = true := by kernel_rfl
theorem fact19 : (Tryz.f4.resultTypes.all (fun t => Tryz.checked.prog.readableRec t && decide (t < Tryz.checked.prog.types.size))) = true := by kernel_rfl
theorem fact20 : ((Rows.fnSilkRightRow.ifacesOut == Tryz.f4.resultTypes.toList.any (Tryz.checked.prog.ifacesRec ·))) = true := by kernel_rfl
theorem fact21 : ((Rows.fnSilkRightRow.loopsOut == Tryz.f4.resultTypes.toList.any (Tryz.checked.prog.loopsFrom ·))) = true := by kernel_rfl
theorem fact22 : ((Rows.fnSilkRightRow.plainKeys == Tryz.checked.prog.plainKeys)) = true := by kernel_rfl
theorem fact23 : (Rows.fnSilkRightRow.shortTexts.isNone) = true := by kernel_rfl
theorem fact24 : (Tryz.checked.prog.stopsHeard) = true := by kernel_rfl
theorem fact25 : (Tryz.checked.prog.mayEnter) = true := by kernel_rfl
theorem fact26 : ((Rows.fnSilkRightRow.lifted == Tryz.checked.prog.liftsFinal)) = true := by kernel_rfl
theorem fact27 : ((Tryz.checked.prog.make == some Rows.fnSilkRightRow.make)) = true := by kernel_rfl
theorem fact28 : ((Rows.fnSilkRightRow.kinds == (if Rows.fnSilkRightRow.domain.isEmpty then [] else Tryz.f4.params.toList.map fun t => match Tryz.checked.prog.underlying t with | some (.int k) => some k | _ => none))) = true := by kernel_rfl
theorem fact29 : ((Rows.fnSilkRightRow.pinned == Rows.fnSilkRightRow.pinnedBy)) = true := by kernel_rfl
theorem fact30 : ((Rows.fnSilkRightRow.veiled == (Tryz.f4.params.toList ++ Rows.fnSilkRightSpec.plain.varTypes Tryz.checked.prog ++ Tryz.f4.resultTypes.toList).any (Tryz.checked.prog.veiledRec ·))) = true := by kernel_rfl
theorem fact31 : (Rows.fnSilkRightRow.veiledFits Tryz.checked.prog Tryz.f4.params.toList (Tryz.f4.params.toList ++ Rows.fnSilkRightSpec.plain.varTypes Tryz.checked.prog ++ Tryz.f4.resultTypes.toList)) = true := by kernel_rfl
theorem facts : joinedFacts Tryz.checked.prog 4 Tryz.f4 Rows.fnSilkRightSpec Rows.fnSilkRightRow = true := by
  unfold joinedFacts
  exact (andI (andI (andI (andI (andI (andI (andI (andI (andI (andI (andI (andI (andI (andI (andI (andI (andI (andI (andI (andI (andI (andI (andI (andI (andI (andI (andI (andI (andI (andI (andI fact0 fact1) fact2) fact3) fact4) fact5) fact6) fact7) fact8) fact9) fact10) fact11) fact12) fact13) fact14) fact15) fact16) fact17) fact18) fact19) fact20) fact21) fact22) fact23) fact24) fact25) fact26) fact27) fact28) fact29) fact30) fact31)
end Go.Proofs.YtojdfjohmicopaaGreatDoor
namespace Go.Proofs.YtojdfjohmicopaaGreatDoor
open Go.ChangeShapes Go.WideShapes Go.ChangeAt Go.WideElems Go.RowKit Go.Deep Go.Joins
theorem own : ownKnob Tryz.prog.godebug = none := by kernel_rfl
theorem cells46 : Tryz.prog.cellsOf 46 = 4 := by kernel_rfl
theorem cells9 : Tryz.prog.cellsOf 9 = 1 := by kernel_rfl
theorem cells3 : Tryz.prog.cellsOf 3 = 1 := by kernel_rfl
theorem cells4 : Tryz.prog.cellsOf 4 = 1 := by kernel_rfl
abbrev It : Type := ByteArray × Bool × Int × Int
def itD {H : Type} (q : It) : DataW H := .agg [.lit (.string q.1.data.toList), .lit (.bool q.2.1), .lit (.int .i64 q.2.2.1), .lit (.int .i64 q.2.2.2)]
def ItAt (W : World) (a : Addr) (i : Nat) (q : It) : Prop :=
  W.cell? (a.add (i * 4)) = some (.string q.1) ∧ W.cell? (a.add (i * 4 + 1)) = some (.bool q.2.1) ∧ W.cell? (a.add (i * 4 + 2)) = some (.int .i64 q.2.2.1) ∧ W.cell? (a.add (i * 4 + 3)) = some (.int .i64 q.2.2.2)
def Frames (W : World) (v : Value) : Prop := v = .slice none 0 0 ∨
  ∃ (b off len cap : Nat) (I : Nat → It), v = .slice (some ⟨b, off, none⟩) len cap ∧ len ≤ cap ∧ b < W.heap.size ∧ ∀ i, i < len → ItAt W ⟨b, off, none⟩ i (I i)
def Runs (f : Nat) : Prop := ∀ (W : World) (v : Value), Frames W v → Calls Tryz.prog f #[v] W fun e W' => e = .returned (.bool true) ∧ W'.os = W.os ∧ W'.output = W.output ∧ ∀ b, b < W.heap.size → W'.heap[b]? = W.heap[b]?
section
variable {H : Type} {enc : TypeId × Value → H}
instance : Inhabited It := ⟨(ByteArray.empty, false, 0, 0)⟩
theorem open_frames {W : World} {sp : Nat → Bool} {fuel : Nat} {cs : List Value} {x : DataW H × List MemPlace} (h : DataW.trod enc Tryz.prog W 0 sp true fuel 22 cs = some x) :
    (cs = [.slice none 0 0] ∧ x = (.nil, [])) ∨
    ∃ (a : Addr) (len cap m : Nat) (I : Nat → It), cs = [.slice (some a) len cap] ∧ len ≤ m ∧ len ≤ cap ∧ x.2 = MemPlace.row a (m * 4) ++ (List.range m).flatMap (fun _=>[]) ∧ ∀ i, i < m → ItAt W a i (I i) := by
  rcases open_slice Tryz.underlying22 h with h0 | ⟨a, len, cap, m, n, D, Pl, rfl, hb, hl, hm, hmm, rfl, hx⟩
  · exact Or.inl h0
  right
  have hlm : len ≤ m := by rw [hmm]; split <;> omega
  have each : ∀ i, i < m → ∃ q : It, ItAt W a i q ∧ Pl i = [] := by
    intro i hi
    obtain ⟨cs', h1, h2⟩ := hx i hi
    rw [cells46] at h1
    obtain ⟨_, hlen, hcell⟩ := World.cells?_some h1
    obtain ⟨y0, y1, y2, y3, k, hxy, _, u0, u1, u2, u3⟩ := trod_struct4 Tryz.underlying46 h2
    match cs', hlen with
    | [v0, v1, v2, v3], _ =>
      simp only [cells9, cells3, cells4, List.drop, List.take] at u0 u1 u2 u3
      obtain ⟨s, e0, d0, _⟩ := DataW.trod_string Tryz.underlying9 u0
      obtain ⟨t, e1, d1⟩ := DataW.trod_bool Tryz.underlying4 u1
      obtain ⟨q, e2, d2, _⟩ := DataW.trod_int Tryz.underlying3 u2
      obtain ⟨p, e3, d3, _⟩ := DataW.trod_int Tryz.underlying3 u3
      simp only [List.cons.injEq, and_true] at e0 e1 e2 e3
      subst e0; subst e1; subst e2; subst e3
      have c0 := hcell 0 (by omega)
      have c1 := hcell 1 (by omega)
      have c2 := hcell 2 (by omega)
      have c3 := hcell 3 (by omega)
      rw [add_add] at c0 c1 c2 c3
      simp only [Prod.mk.injEq] at hxy
      exact ⟨(s, t, q, p), ⟨by simpa using c0, by simpa using c1, by simpa using c2, by simpa using c3⟩, by rw [hxy.2, d0, d1, d2, d3]; rfl⟩
  obtain ⟨q, hq⟩ := choose_lt each
  refine ⟨a, len, cap, m, q, rfl, hlm, hl, ?_, fun i hi => (hq i hi).1⟩
  rw [cells46, flatMap_congr_range (fun i hi => (hq i hi).2)]
end
theorem door_met (os : Os) (args : Array Value) : laidMetH Tryz.prog Rows.fnSilkRightRow.laid ((World.doorLaid Tryz.prog 400 os).forCall (fun _ _ => 0) ⟨#[], args, []⟩).memory :=
  laidMetH_of_parts3 (fuel := 8) (laidMet_of_run' 8 (by kernel_rfl) (by kernel_rfl)) (by kernel_rfl) (by kernel_rfl)
theorem laidOut : laidOutB Tryz.prog = true := by kernel_rfl
theorem lifted (hrun : Runs 4) (os : Os) (started : os.Started) (H : Type) (enc : TypeId × Value → H) :
    ReturnsInHanded {} Tryz.checked os 4 .any (fun w args => (Rows.fnSilkRightSpec.pre enc Tryz.prog Tryz.f4 [] false w args ∧ laidMetH Tryz.prog Rows.fnSilkRightRow.laid w) ∧ sizedMet enc Tryz.prog Tryz.f4 (OpenSpec.ofChange Rows.fnSilkRightSpec) false w args)
      (Rows.fnSilkRightSpec.post enc Tryz.prog Tryz.f4 false true false false) := by
  refine returnsInHanded_of_change_and (C := Tryz.checked) (X := fun w _ => laidMetH Tryz.prog Rows.fnSilkRightRow.laid w) (fun _ _ _ hh h => h.of_heap hh) own started (by kernel_rfl) Tryz.func4
    (ChangeSpec.witness_shaped (enc := enc) (C := Tryz.checked) (os := os) (X := fun w _ => laidMetH Tryz.prog Rows.fnSilkRightRow.laid w) false (World.doorLaid Tryz.prog 400 os) #[.slice none 0 0] 8 rfl (World.shaped_of_RefB (by kernel_rfl) (by kernel_rfl)) (by kernel_rfl) (by kernel_rfl) (by kernel_rfl) (door_met os _)) ?_
  intro W base args ds gs before hval0 hW _ _ hL _
  have hval : ∀ (j : Nat) t v, Tryz.f4.params[j]? = some t → args[j]? = some v → Value.okWide Tryz.prog W .any base t v := hval0
  have hW' := hW
  obtain ⟨p, q, hA0, hV, rfl, hfz, hnd⟩ := hW
  have hA : DataW.TrodAll enc Tryz.prog W 0 (fun _=>true) true Tryz.f4.params.toList args.toList ds p := hA0
  rw [Tryz.params4] at hA hval
  obtain ⟨v0, d0, rfl, rfl, h0⟩ := trodAll_one hA
  obtain ⟨rfl, rfl⟩ := trodVars_none hV
  have ok0 := hval 0 22 v0 rfl rfl
  obtain ⟨fuel, h1⟩ := h0
  have hcells : ∀ x ∈ p, ∃ xb xo, x = .cell xb xo := by
    rcases open_frames h1 with ⟨_, e⟩ | ⟨a, len, cap, m, I, _, _, _, hp, _⟩
    · simp only [Prod.mk.injEq] at e
      rw [e.2]
      exact fun x hx => by cases hx
    · intro x hx
      have hp : p = MemPlace.row a (m * 4) ++ (List.range m).flatMap (fun _=>[]) := hp
      rw [hp] at hx
      rcases List.mem_append.1 hx with hx | hx
      · obtain ⟨i, _, rfl⟩ := MemPlace.mem_row.1 hx
        exact ⟨_, _, rfl⟩
      · simp at hx
  have one : ∀ u, v0.cells.toList = [u] → v0 = u := fun u hu => by
    cases v0 <;> first | (simpa [Value.cells] using hu) | (simp [Value.okWide, Cell.okWide, Cell.ok, Tryz.underlying22] at ok0)
  have hF : Frames W v0 := by
    rcases open_frames h1 with ⟨e, _⟩ | ⟨a, len, cap, m, I, e, hlm, hlc, hp, hI⟩
    · exact .inl (one _ e)
    · right
      have e : v0 = .slice (some a) len cap := one _ e
      subst e
      simp only [Value.okWide, Tryz.underlying22, Cell.okWide, Cell.ok] at ok0
      obtain ⟨_, _, _, hspot, row, cells, hsh, _⟩ := ok0
      obtain ⟨b, off, spot⟩ := a
      obtain rfl : spot = none := hspot
      refine ⟨b, off, len, cap, I, rfl, hlc, ?_, fun i hi => hI i (by omega)⟩
      unfold World.shape? at hsh
      split at hsh
      · rename_i hb
        exact (Array.getElem?_eq_some_iff.1 hb).1
      · cases hsh
  refine (hrun W v0 hF).mono fun e W' ⟨he, hos, hout, hheap⟩ => ?_
  subst he
  have hlt : ∀ x ∈ p, x.block < W.heap.size := fun x hx => hW'.lt x (by simpa using hx)
  have hsame : ∀ x ∈ p, W.sameAt W' x := fun x hx => by
    obtain ⟨xb, xo, rfl⟩ := hcells x hx
    have := hheap xb (hlt _ hx)
    show W'.cell? _ = W.cell? _
    simp only [World.cell?, this]
  have hkb : W.keptBut W' (fun _=>False) := World.keptBut_none_iff.2 ⟨hos, hout, hheap⟩
  refine ⟨_, rfl, _, _, _, [], p, [], hW', ?_, ?_, ?_, World.keptBut_mono (fun _ h => h.elim) hkb, fun h => by cases h⟩
  · exact trodAll_mk1 (shut_bool Tryz.underlying4 _)
  · exact trodAll_mk1 (WideElems.Trod_stays (P := Tryz.prog) laidOut (by kernel_rfl) (of_decide_eq_true (by kernel_rfl)) ⟨fuel, h1⟩ hsame (fun x hx => by simpa using hlt x hx))
  · rfl
theorem fnSilkRight_holds (hrun : Runs 4) : Rows.FnSilkRightSaid :=
  OpenClaim.holds_of_wide 4 Tryz.f4 rfl rfl rfl rfl rfl rfl rfl ⟨rfl, rfl, rfl, rfl, rfl⟩ rfl rfl rfl rfl rfl (by as_aux_lemma => kernel_rfl) Tryz.func4 facts
    (of_decide_eq_true (by as_aux_lemma => kernel_rfl)) (by unfold Func.isWrapper; first | (rw [if_pos (by decide +kernel)]; kernel_rfl) | (rw [if_neg (by decide +kernel)]; exact ⟨rfl, rfl⟩))
    (fun os started H enc _ => lifted hrun os started H enc)
theorem fnSilkRight_card (hrun : Runs 4) : Rows.FnSilkRightCardSaid :=
  Claim7.holds_tied_plain_at .later [] [.sentinel] true (true, "5507fe35f8e4eca28a84b6b943fdc0683f4c0dbd655af5cae0e11e5dd97c8962") false
    (fnSilkRight_holds hrun) (fun _ h => by cases h) (by kernel_rfl) (fun _ h => by cases h) fnSilkRight_row_tie rfl ⟨rfl, rfl⟩ (by kernel_rfl) rfl
    (fun f fn hf hfn => by
      obtain rfl : f = 4 := Option.some.inj ((show Tryz.prog.funcNamed "pub-carronade/laws.FnSilkRight" = some 4 by kernel_rfl).symm.trans hf) |>.symm
      obtain rfl : fn = Tryz.f4 := (Option.some.inj (Tryz.func4.symm.trans hfn)).symm
      exact ⟨by kernel_rfl, fun j t ht => by
        rw [Tryz.params4] at ht
        have hm : t ∈ [22] := by simpa using Array.mem_of_getElem? ht
        have hall : ([22].all fun u => !Tryz.prog.wantsStandIn u) = true := by kernel_rfl
        exact (show Tryz.prog.wantsStandIn t = false by simpa using List.all_eq_true.1 hall t hm)⟩)
    (by kernel_rfl)
end Go.Proofs.YtojdfjohmicopaaGreatDoor
namespace Go.SX
open Go Go.Proofs.YtojdfjohmicopaaGreatDoor
def itF (q : It) : Fi := ⟨q.1, q.2.1, q.2.2.1, q.2.2.2⟩
theorem runs_of (h : ∀ l : List Fi, FnS 4 [.c (.irs 4 (l.map Fi.row))] [] fun v l' => v = .c (.b true) ∧ l' = []) : Runs 4 := by
  intro W v hv
  have main : ∀ (l : List Fi) (I : Nat → Prop), (∀ b, I b → b < W.heap.size) → Den ⟨fun _=>none, I, W⟩ (.irs 4 (l.map Fi.row)) v →
      Calls Proofs.Tryz.prog 4 #[v] W fun e W' => e = .returned (.bool true) ∧ W'.os = W.os ∧ W'.output = W.output ∧ ∀ b, b < W.heap.size → W'.heap[b]? = W.heap[b]? := by
    intro l I hI hd
    obtain ⟨v', l', ⟨rfl, rfl⟩, hx⟩ := h l
    have hm : ∀ nm, mkS [] nm = none := fun nm => by first | rfl | (cases nm <;> rfl)
    have hs : Hs ⟨W, fun _=>False, I, []⟩ (mkS []) 0 ⟨fun _=>none, I, W⟩ :=
      { blk := fun nm x hx => by (rw [hm] at hx; cases hx), inj := fun nm _ _ _ _ h => absurd (hm nm) h, sep := fun nm _ _ h => absurd (hm nm) h, bd := fun nm x hx => by (rw [hm] at hx; cases hx), fr := fun _ _ _ => rfl, sz := Nat.le_refl _, imm := fun b hb => ⟨hI b hb, .inl hb⟩, out := ⟨rfl, rfl⟩, gl := fun _ h => by cases h }
    refine (hx.run _ _ [v] hs rfl fun i v1 u h1 h2 => ?_).mono fun e W' ⟨u, X', he, hw, hs', _, hd'⟩ => ?_
    · cases i with
      | succ i => simp at h1
      | zero => cases h1; cases h2; exact ⟨.c hd, fun nm hn => by cases hn with | c hn => exact hn.elim⟩
    · subst he hw
      cases hd' with | c hd' =>
      cases hd'
      exact ⟨rfl, hs'.out.1, hs'.out.2, fun b hb => hs'.fr b hb id⟩
  rcases hv with rfl | ⟨b, off, len, cap, I, rfl, hlc, hb, hI⟩
  · exact main [] (fun _=>False) (fun _ h => h.elim) .irs0
  · have hl : ((List.range len).map fun i => itF (I i)).length = len := by simp
    refine main ((List.range len).map fun i => itF (I i)) (fun x => x = b) (fun x hx => hx ▸ hb) ?_
    have hrow : ∀ j (cs : List C), (((List.range len).map fun i => itF (I i)).map Fi.row)[j]? = some cs → j < len ∧ cs = (itF (I j)).row := fun j cs hj => by
      rw [List.map_map, List.getElem?_map, Option.map_eq_some_iff] at hj
      obtain ⟨i, hi, rfl⟩ := hj
      obtain ⟨h1, rfl⟩ := List.getElem?_eq_some_iff.1 hi
      simp at h1
      exact ⟨h1, by simp⟩
    have key := Den.irs (X := ⟨fun _=>none, fun x => x = b, W⟩) (sz := 4) (rs := ((List.range len).map fun i => itF (I i)).map Fi.row) (bl := b) (off := off) (cap := cap)
      (fun j i => match i with | 0 => .string (I j).1 | 1 => .bool (I j).2.1 | 2 => .int .i64 (I j).2.2.1 | _ => .int .i64 (I j).2.2.2) rfl (by simpa using hlc) (fun j cs hj => by rw [(hrow j cs hj).2]; rfl)
      (fun j cs i c hj hi => by
        obtain ⟨h1, rfl⟩ := hrow j cs hj
        have hc := hI j h1
        unfold ItAt at hc
        simp only [add_some] at hc
        match i, hi with
        | 0, _ => simpa using hc.1
        | 1, _ => simpa [Nat.add_assoc] using hc.2.1
        | 2, _ => simpa [Nat.add_assoc] using hc.2.2.1
        | 3, _ => simpa [Nat.add_assoc] using hc.2.2.2
        | i + 4, hi => cases hi)
      (fun j cs i c hj hi => by
        obtain ⟨h1, rfl⟩ := hrow j cs hj
        match i, hi with
        | 0, hi => cases hi; exact fun _ h => h.elim
        | 1, hi => cases hi; exact fun _ h => h.elim
        | 2, hi => cases hi; exact fun _ h => h.elim
        | 3, hi => cases hi; exact fun _ h => h.elim
        | i + 4, hi => cases hi)
      (fun j cs i c hj hi => by
        obtain ⟨h1, rfl⟩ := hrow j cs hj
        match i, hi with
        | 0, hi => cases hi; exact .s
        | 1, hi => cases hi; exact .b
        | 2, hi => cases hi; exact .i
        | 3, hi => cases hi; exact .i
        | i + 4, hi => cases hi)
    rw [List.length_map, hl] at key
    exact key
theorem runs : Runs 4 := runs_of f4w
end Go.SX
namespace Go.Proofs.YtojdfjohmicopaaGreatDoor
theorem fnSilkRight_card_holds : Rows.FnSilkRightCardSaid := fnSilkRight_card Go.SX.runs
#print axioms fnSilkRight_card_holds
end Go.Proofs.YtojdfjohmicopaaGreatDoor
