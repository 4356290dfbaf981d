/- A part of the proof: the SILK decoder of the given program, walked by an executor that is proved sound. No statement of the program is proved in this text. -/
import Derived.Test.YtojdfjohmicopaaGreatDoorL23
import Derived.Test.YtojdfjohmicopaaGreatDoorL38
set_option linter.all false
set_option maxRecDepth 100000
namespace Go.SX
open Go
theorem idle39 : Idle 39 3 := by
  intro args w hs
  obtain ⟨l⟩ := args
  match l, hs with
  | [p, q, r], _ =>
  refine callsD_of_wpS (fn := Proofs.Tryz.f39) rfl rfl fun c₀ cs hu => ?_
  apply wpS_seq
  apply wpS_region
  simp [wpOpsS, go_sem, recoverD, hu, Exit.thenS, Proofs.Tryz.f39, Region.wanted]
  refine wpS_cond (t := false) (by simp [Act.eval]) ?_
  refine wpS_of_wp (wp_skip ?_)
  cases c₀
  simp_all [bodyPostS, results, Exit.thenS]
theorem enter39 (args : Array Value) (w : World) : (callFunc 39 args).run P w = .ok (.enter 39 args) w := by
  have : P.funcs[39]? = some Proofs.Tryz.f39 := rfl
  simp [callFunc, this, Proofs.Tryz.f39]
theorem idle52 : Idle 52 2 := by
  intro args w hs
  obtain ⟨l⟩ := args
  match l, hs with
  | [p, q], _ =>
  refine callsD_of_wpS (fn := Proofs.Tryz.f52) rfl rfl fun c₀ cs hu => ?_
  apply wpS_seq
  apply wpS_region
  simp [wpOpsS, go_sem, recoverD, hu, Exit.thenS, Proofs.Tryz.f52, Region.wanted]
  refine wpS_cond (t := false) (by simp [Act.eval]) ?_
  refine wpS_of_wp (wp_skip ?_)
  cases c₀
  simp_all [bodyPostS, results, Exit.thenS]
theorem enter52 (args : Array Value) (w : World) : (callFunc 52 args).run P w = .ok (.enter 52 args) w := by
  have : P.funcs[52]? = some Proofs.Tryz.f52 := rfl
  simp [callFunc, this, Proofs.Tryz.f52]
@[reducible] def R24 : List C := [.i .i64 3, .i .u32 1000, .i .u32 777, .i .u32 0, .i .i64 0, .nsl]
theorem f24a : FnS 24 [.c (.sl 0 0 1 1)] [some (.st R24)] fun v l' => v = .c (.osl 1 1) ∧ l' = [none, some (.rs true 6 [R24])] := by
  refine FnS.wpR (b := 1) Proofs.Tryz.f24 rfl rfl rfl rfl rfl rfl ?_
  refine WpN.seq (WpN.vc ?_)
  conv=>whnf
  refine WpN.seq (WpN.vc ?_)
  conv=>whnf
  refine WpN.seq (WpN.vc ?_)
  conv=>whnf
  refine WpS.rounds (WpS.round (VC_ok ?_))
  conv=>whnf
  repeat' first|(refine Lt (by decide) ?_;conv=>whnf)|(refine Lf (by decide) ?_;conv=>whnf)|fail
  refine And.intro (by omega) ?_
  conv=>whnf
  refine And.intro ⟨trivial, by decide⟩ ?_
  conv=>whnf
  refine WpS.round (VC_ok ?_)
  conv=>whnf
  repeat' first|(refine Lt (by decide) ?_;conv=>whnf)|(refine Lf (by decide) ?_;conv=>whnf)|fail
  refine ⟨rfl, ?_⟩
  refine WpN.vc ?_
  conv=>whnf
  exact ⟨[(1, 3)], .c (.osl 1 1), [none, some (.rs true 6 [R24])], rfl, by kernel_rfl, (by repeat' (first | exact trivial | refine And.intro ?_ ?_ | kernel_rfl)), rfl, rfl⟩
theorem f24 : FnS 24 [.c (.sl 0 0 1 1)] [some (.st R24)] fun v l' => v = .c (.irs 6 [R24]) ∧ l' = [none] := by
  refine FnS.behind f24a ?_
  rintro v l' ⟨rfl, rfl⟩
  exact ⟨_, _, ⟨rfl, rfl⟩, (RelM.frz0 (b := 1) (nx := 2) (c := .osl 1 1) (c' := .irs 6 [R24]) (φ := 1 = 1) rfl rfl (by decide)).to [none] (by repeat' (first | exact trivial | refine And.intro ?_ ?_ | kernel_rfl)) rfl rfl (Nat.le_refl _)⟩
theorem OpX.slice0 {t el : Nat} {x : Operand} (hd : (ty t).d = .slice el) (he : (ty el).sz ≠ 0) {o : Oper} (ho : o.op = .slice t x none (some (.const (.int .i64 0))) none) {e : Nat → Option V} {st : Nat → Option B} {nx : Nat} (hx : rd e x = some (.c .nsl)) : OpX o e st nx (.c .nsl) st nx :=
  .of_ym fun H X a hs hk => by
    obtain ⟨h1, _⟩ := hk x (by simp [ho, Op.operands]) _ hx
    cases h1 with | c h1 =>
    generalize hu : a.eval x = u at h1
    cases h1
    refine ⟨.value (.slice none 0 0), .slice none 0 0, X, ?_, .inl rfl, hs, .refl _ _, Nat.le_refl _, .c .nsl, fun nm h => by cases h with | c h => exact h.elim⟩
    have h0 : a.eval (.const (.int .i64 0)) = .int .i64 0 := rfl
    simp [execOp, ho, hu, h0, Instr.sliceAt, run_underlying (ty_slice hd), Instr.slice, Instr.sliceBounds, Instr.sliceBound, asIntOf, ty_sz (ty_pos (t := el) (by omega))]
def strOf (xs : List Int) : ByteArray := xs.foldl (fun r n => r.push (UInt8.ofNat n.toNat)) ByteArray.empty
theorem OpX.toStr {s d el : Nat} {x : Operand} (hs' : (ty s).d = .slice el) (he : (ty el).d = .int .u8) (hd : (ty d).d = .str) {o : Oper} (ho : o.op = .convert s d x) {e : Nat → Option V} {st : Nat → Option B} {nx : Nat} {c0 : C} {ys : List Int} {φ : Prop} (hx : rd e x = some (.c c0))
    (hc0 : ∀ X u, Den X c0 u → ∃ c, Den X c u ∧ srcI c st = some (.u8, ys, φ)) (hφ : φ) : OpX o e st nx (.c (.s (strOf ys))) st nx :=
  .of_ym fun H X a hs hk => by
    obtain ⟨h1, _⟩ := hk x (by simp [ho, Op.operands]) _ hx
    cases h1 with | c h1 =>
    obtain ⟨c, h1, h⟩ := hc0 _ _ h1
    refine ⟨.value (.string (strOf ys)), .string (strOf ys), X, ?_, .inl rfl, hs, .refl _ _, Nat.le_refl _, .c .s, fun nm h => by cases h with | c h => exact h.elim⟩
    have hc : (convert s d (a.eval x)).run P X.w = .ok (.string (strOf ys)) X.w := by
      rcases srcI_ok hs h1 h hφ with ⟨h2, h3⟩ | ⟨ad, cap, h2, h3⟩
      · rw [h2, run_convert_bytes_string X.w s d el none 0 0 (ty_slice hs') (ty_int he) (ty_str hd)]
        subst h3
        rfl
      · rw [h2, run_convert_bytes_string X.w s d el (some ad) _ cap (ty_slice hs') (ty_int he) (ty_str hd)]
        refine run_bytesToString X.w ad ys.length cap ys ?_
        have := run_loadCells_list (P := P) (w := X.w) ad (ys.map (Value.int .u8)) h3
        rwa [List.length_map] at this
    simp [execOp, ho, hc]
theorem Den.osl_sl {X : Ctx} {nm n : Nat} {u : Value} (h : Den X (.osl nm n) u) : ∃ c, Den X (.sl nm 0 n c) u := by
  cases h with
  | osl h hl => exact ⟨_, .sl h⟩
  | osl0 h => exact ⟨0, .sl0 h⟩
theorem OpX.copyO {o : Oper} {e : Nat → Option V} {st : Nat → Option B} {nx t : Nat} {x y : Operand} {cd : C} {nm2 n2 : Nat} {v : V} {st' : Nat → Option B} {nx' : Nat}
    (ho : o.op = .call { callee := .builtin .copy, args := #[x, y], argTypes := #[t, t] }) (hx : rd e x = some (.c cd)) (hy : rd e y = some (.c (.osl nm2 n2))) (h : ∀ c2, (copyM t cd (.sl nm2 0 n2 c2) st nx).Is v st' nx') : OpX o e st nx v st' nx' :=
  .of_ym fun H X a hs hk => by
    obtain ⟨h1, h2⟩ := hk x (by simp [ho, Op.operands, Call.operands]) _ hx
    obtain ⟨h3, h4⟩ := hk y (by simp [ho, Op.operands, Call.operands]) _ hy
    cases h1 with | c h1 => cases h3 with | c h3 =>
    obtain ⟨c2, h3⟩ := h3.osl_sl
    obtain ⟨r, X', k1, k2, k3, k4, k5, k6⟩ := (h c2).sat (copyM_ok o.type hs h1 h3)
    refine ⟨.value r, r, X', ?_, .inl rfl, k2, k3, k4, k5, k6⟩
    simp [execOp, ho, resolve, invoke, builtin, k1]
@[reducible] def enc (a b : C) (w ne r v re ex nb : Int) : List C := [a, b, .i .u64 w, .i .u64 ne, .i .u32 r, .i .u32 v, .i .i64 re, .i .i64 ex, .i .u64 nb]
theorem l30_999 : FnS 30 [.c (.i .u32 999)] [] fun v l' => v = .c (.i .i64 10) ∧ l' = [] := by
  refine FnS.wpR (b := 0) Proofs.Tryz.f30 rfl rfl rfl rfl rfl rfl ?_
  repeat' (first
      | (refine ⟨fun _=>?_, fun h => absurd h (by decide)⟩
         conv=>whnf)
      | (refine ⟨fun h => absurd h (by decide), fun _=>?_⟩
         conv=>whnf)
      | (refine WpN.seq (WpN.vc ?_)
         conv=>whnf)
      | (refine WpN.vc ?_
         conv=>whnf)
      | (refine WpS.rounds (WpS.round (VC_ok ?_))
         conv=>whnf)
      | (refine WpS.round (VC_ok ?_)
         conv=>whnf)
      | (refine And.intro (by first | rfl | decide) ?_
         conv=>whnf)
      | (refine .inl ⟨by decide +kernel, ?_⟩
         conv=>whnf)
      | fail)
  exact ⟨[], .c (.i .i64 10), [], by kernel_rfl, by kernel_rfl, trivial, rfl, rfl⟩
theorem l30_8589934 : FnS 30 [.c (.i .u32 8589934)] [] fun v l' => v = .c (.i .i64 24) ∧ l' = [] := by
  refine FnS.wpR (b := 0) Proofs.Tryz.f30 rfl rfl rfl rfl rfl rfl ?_
  repeat' (first
      | (refine ⟨fun _=>?_, fun h => absurd h (by decide)⟩
         conv=>whnf)
      | (refine ⟨fun h => absurd h (by decide), fun _=>?_⟩
         conv=>whnf)
      | (refine WpN.seq (WpN.vc ?_)
         conv=>whnf)
      | (refine WpN.vc ?_
         conv=>whnf)
      | (refine WpS.rounds (WpS.round (VC_ok ?_))
         conv=>whnf)
      | (refine WpS.round (VC_ok ?_)
         conv=>whnf)
      | (refine And.intro (by first | rfl | decide) ?_
         conv=>whnf)
      | (refine .inl ⟨by decide +kernel, ?_⟩
         conv=>whnf)
      | fail)
  exact ⟨[], .c (.i .i64 24), [], by kernel_rfl, by kernel_rfl, trivial, rfl, rfl⟩
theorem f45a : FnS 45 [.c (.p 0 0), .c (.i .u32 1000), .c (.i .u32 777)] [some (.st (enc .nsl .nsl 0 0 2147483648 0 (-1) 0 33))] fun v l' => v = .tu [] ∧ l' = [some (.st (enc .nsl .nsl 1 2 8589934 1666447344 (-1) 0 35))] := by
  refine FnS.wpR (b := 1) Proofs.Tryz.f45 rfl rfl rfl rfl rfl rfl ?_
  repeat' (first
      | (refine ⟨fun _=>?_, fun h => absurd h (by decide)⟩
         conv=>whnf)
      | (refine ⟨fun h => absurd h (by decide), fun _=>?_⟩
         conv=>whnf)
      | (refine WpN.seq (WpN.vc ?_)
         conv=>whnf)
      | (refine WpN.vc ?_
         conv=>whnf)
      | (refine WpS.rounds (WpS.round (VC_ok ?_))
         conv=>whnf)
      | (refine WpS.round (VC_ok ?_)
         conv=>whnf)
      | (refine And.intro (by first | rfl | decide) ?_
         conv=>whnf)
      | (refine .inl ⟨by decide +kernel, ?_⟩
         conv=>whnf)
      | refine CallQ.inlineN Proofs.Tryz.f41 rfl rfl rfl rfl rfl ?_
      | refine CallQ.inlineN Proofs.Tryz.f74 rfl rfl rfl rfl rfl ?_
      | refine CallQ.inlineN Proofs.Tryz.f46 rfl rfl rfl rfl rfl ?_
      | refine CallQ.inlineN Proofs.Tryz.f75 rfl rfl rfl rfl rfl ?_
      | (refine CallQ.use [] l30_999 rfl rfl trivial ?_
         rintro v l' ⟨rfl, rfl⟩
         conv=>whnf)
      | fail)
  exact ⟨[], .tu [], [some (.st (enc .nsl .nsl 1 2 8589934 1666447344 (-1) 0 35))], rfl, by kernel_rfl, (by repeat' (first | exact trivial | refine And.intro ?_ ?_ | kernel_rfl)), rfl, rfl⟩
abbrev E2 : List C := enc (.osl 4 2) .nsl 1 2 8589934 1666447344 0 0 35
theorem f51a : FnS 51 [.c (.p 0 0)] [some (.st (enc .nsl .nsl 1 2 8589934 1666447344 (-1) 0 35))] fun v l' => v = .c (.sl 1 0 2 2) ∧ l' = [none, some (.ar false .u8 [199, 1])] := by
  refine FnS.wpR (b := 1) Proofs.Tryz.f51 rfl rfl rfl rfl rfl rfl ?_
  repeat' (first
      | (refine ⟨fun _=>?_, fun h => absurd h (by decide)⟩
         conv=>whnf)
      | (refine ⟨fun h => absurd h (by decide), fun _=>?_⟩
         conv=>whnf)
      | (refine WpN.seq (WpN.vc ?_)
         conv=>whnf)
      | (refine WpN.vc ?_
         conv=>whnf)
      | (refine WpS.rounds (WpS.round (VC_ok ?_))
         conv=>whnf)
      | (refine WpS.round (VC_ok ?_)
         conv=>whnf)
      | (refine And.intro (by first | rfl | decide) ?_
         conv=>whnf)
      | (refine .inl ⟨by decide +kernel, ?_⟩
         conv=>whnf)
      | refine CallQ.inlineN Proofs.Tryz.f77 rfl rfl rfl rfl rfl ?_
      | refine CallQ.inlineN Proofs.Tryz.f78 rfl rfl rfl rfl rfl ?_
      | refine CallQ.inlineN Proofs.Tryz.f80 rfl rfl rfl rfl rfl ?_
      | refine CallQ.inlineN Proofs.Tryz.f79 rfl rfl rfl rfl rfl ?_
      | refine CallQ.inlineN Proofs.Tryz.f75 rfl rfl rfl rfl rfl ?_
      | (refine CallQ.use [] l30_8589934 rfl rfl trivial ?_
         rintro v l' ⟨rfl, rfl⟩
         conv=>whnf)
      | fail)
  refine .inr (WpS.draw [0, 0, 0, 1, 0, 0, 0, 0, 1, 0, 0, 0, 0, 2, 2, 0, 2, 0] (fun st2 => st2 0 = some (.st E2)) (by kernel_rfl) ?_)
  conv=>whnf
  refine ⟨.c (.osl 4 2), ⟨rfl, fun st2 h2 => ⟨_, h2, .inl rfl⟩⟩, ?_⟩
  conv=>whnf
  refine ⟨.c .nsl, ⟨rfl, fun st2 h2 => ⟨_, h2, .inl rfl⟩⟩, ?_⟩
  conv=>whnf
  repeat' (first
      | (refine ⟨fun _=>?_, fun h => absurd h (by decide)⟩
         conv=>whnf)
      | (refine ⟨fun h => absurd h (by decide), fun _=>?_⟩
         conv=>whnf)
      | (refine WpN.seq (WpN.vc ?_)
         conv=>whnf)
      | (refine WpN.vc ?_
         conv=>whnf)
      | (refine WpS.rounds (WpS.round (VC_ok ?_))
         conv=>whnf)
      | (refine WpS.round (VC_ok ?_)
         conv=>whnf)
      | (refine And.intro (by first | rfl | decide) ?_
         conv=>whnf)
      | (refine .inl ⟨by decide +kernel, ?_⟩
         conv=>whnf)
      | refine CallQ.inlineN Proofs.Tryz.f77 rfl rfl rfl rfl rfl ?_
      | refine CallQ.inlineN Proofs.Tryz.f78 rfl rfl rfl rfl rfl ?_
      | refine CallQ.inlineN Proofs.Tryz.f80 rfl rfl rfl rfl rfl ?_
      | refine CallQ.inlineN Proofs.Tryz.f79 rfl rfl rfl rfl rfl ?_
      | refine CallQ.inlineN Proofs.Tryz.f75 rfl rfl rfl rfl rfl ?_
      | (refine CallQ.use [] l30_8589934 rfl rfl trivial ?_
         rintro v l' ⟨rfl, rfl⟩
         conv=>whnf)
      | fail)
  refine OpQ.mk _ _ _ (fun o ho => OpX.copyO (t := 49) (cd := .sl 5 0 2 2) (nm2 := 4) (n2 := 2) (v := .c (.i .i64 2)) (st' := upd _ 5 (.ar false .u8 [199, 0])) (nx' := _) ho rfl rfl (fun c2 => .inr ⟨_, rfl, by decide⟩)) ?_
  conv=>whnf
  repeat' (first
      | (refine ⟨fun _=>?_, fun h => absurd h (by decide)⟩
         conv=>whnf)
      | (refine ⟨fun h => absurd h (by decide), fun _=>?_⟩
         conv=>whnf)
      | (refine WpN.seq (WpN.vc ?_)
         conv=>whnf)
      | (refine WpN.vc ?_
         conv=>whnf)
      | (refine WpS.rounds (WpS.round (VC_ok ?_))
         conv=>whnf)
      | (refine WpS.round (VC_ok ?_)
         conv=>whnf)
      | (refine And.intro (by first | rfl | decide) ?_
         conv=>whnf)
      | (refine .inl ⟨by decide +kernel, ?_⟩
         conv=>whnf)
      | refine CallQ.inlineN Proofs.Tryz.f77 rfl rfl rfl rfl rfl ?_
      | refine CallQ.inlineN Proofs.Tryz.f78 rfl rfl rfl rfl rfl ?_
      | refine CallQ.inlineN Proofs.Tryz.f80 rfl rfl rfl rfl rfl ?_
      | refine CallQ.inlineN Proofs.Tryz.f79 rfl rfl rfl rfl rfl ?_
      | refine CallQ.inlineN Proofs.Tryz.f75 rfl rfl rfl rfl rfl ?_
      | (refine CallQ.use [] l30_8589934 rfl rfl trivial ?_
         rintro v l' ⟨rfl, rfl⟩
         conv=>whnf)
      | fail)
  refine .inr (WpS.draw [0, 0, 0, 1, 0, 0, 0, 1, 2, 0, 0, 0, 0] (fun st2 => st2 0 = some (.st E2)) (by kernel_rfl) ?_)
  conv=>whnf
  refine ⟨.c (.i .u64 1), ⟨rfl, fun st2 h2 => ⟨_, h2, .inl rfl⟩⟩, ?_⟩
  conv=>whnf
  refine ⟨.c (.i .u64 2), ⟨rfl, fun st2 h2 => ⟨_, h2, .inl rfl⟩⟩, ?_⟩
  conv=>whnf
  repeat' (first
      | (refine ⟨fun _=>?_, fun h => absurd h (by decide)⟩
         conv=>whnf)
      | (refine ⟨fun h => absurd h (by decide), fun _=>?_⟩
         conv=>whnf)
      | (refine WpN.seq (WpN.vc ?_)
         conv=>whnf)
      | (refine WpN.vc ?_
         conv=>whnf)
      | (refine WpS.rounds (WpS.round (VC_ok ?_))
         conv=>whnf)
      | (refine WpS.round (VC_ok ?_)
         conv=>whnf)
      | (refine And.intro (by first | rfl | decide) ?_
         conv=>whnf)
      | (refine .inl ⟨by decide +kernel, ?_⟩
         conv=>whnf)
      | refine CallQ.inlineN Proofs.Tryz.f77 rfl rfl rfl rfl rfl ?_
      | refine CallQ.inlineN Proofs.Tryz.f78 rfl rfl rfl rfl rfl ?_
      | refine CallQ.inlineN Proofs.Tryz.f80 rfl rfl rfl rfl rfl ?_
      | refine CallQ.inlineN Proofs.Tryz.f79 rfl rfl rfl rfl rfl ?_
      | refine CallQ.inlineN Proofs.Tryz.f75 rfl rfl rfl rfl rfl ?_
      | (refine CallQ.use [] l30_8589934 rfl rfl trivial ?_
         rintro v l' ⟨rfl, rfl⟩
         conv=>whnf)
      | fail)
  exact ⟨[(1, 5)], .c (.sl 1 0 2 2), [none, some (.ar false .u8 [199, 1])], rfl, by kernel_rfl, (by repeat' (first | exact trivial | refine And.intro ?_ ?_ | kernel_rfl)), rfl, rfl⟩
abbrev E1 : List C := enc .nsl .nsl 1 2 8589934 1666447344 (-1) 0 35
theorem f48a : FnS 48 [.c (.p 0 0)] [some (.st E1)] fun v l' => v = .c (.i .u32 8589934) ∧ l' = [some (.st E1)] := by
  refine FnS.wpR (b := 1) Proofs.Tryz.f48 rfl rfl rfl rfl rfl rfl ?_
  repeat' (first
      | (refine ⟨fun _=>?_, fun h => absurd h (by decide)⟩
         conv=>whnf)
      | (refine ⟨fun h => absurd h (by decide), fun _=>?_⟩
         conv=>whnf)
      | (refine WpN.seq (WpN.vc ?_)
         conv=>whnf)
      | (refine WpN.vc ?_
         conv=>whnf)
      | (refine WpS.rounds (WpS.round (VC_ok ?_))
         conv=>whnf)
      | (refine WpS.round (VC_ok ?_)
         conv=>whnf)
      | (refine And.intro (by first | rfl | decide) ?_
         conv=>whnf)
      | (refine .inl ⟨by decide +kernel, ?_⟩
         conv=>whnf)
      | fail)
  exact ⟨[], .c (.i .u32 8589934), [some (.st E1)], rfl, by kernel_rfl, (by repeat' (first | exact trivial | refine And.intro ?_ ?_ | kernel_rfl)), rfl, rfl⟩
theorem f49a : FnS 49 [.c (.p 0 0)] [some (.st E1)] fun v l' => v = .c (.i .u64 11) ∧ l' = [some (.st E1)] := by
  refine FnS.wpR (b := 1) Proofs.Tryz.f49 rfl rfl rfl rfl rfl rfl ?_
  repeat' (first
      | (refine ⟨fun _=>?_, fun h => absurd h (by decide)⟩
         conv=>whnf)
      | (refine ⟨fun h => absurd h (by decide), fun _=>?_⟩
         conv=>whnf)
      | (refine WpN.seq (WpN.vc ?_)
         conv=>whnf)
      | (refine WpN.vc ?_
         conv=>whnf)
      | (refine WpS.rounds (WpS.round (VC_ok ?_))
         conv=>whnf)
      | (refine WpS.round (VC_ok ?_)
         conv=>whnf)
      | (refine And.intro (by first | rfl | decide) ?_
         conv=>whnf)
      | (refine .inl ⟨by decide +kernel, ?_⟩
         conv=>whnf)
      | refine CallQ.inlineN Proofs.Tryz.f77 rfl rfl rfl rfl rfl ?_
      | refine CallQ.inlineN Proofs.Tryz.f78 rfl rfl rfl rfl rfl ?_
      | refine CallQ.inlineN Proofs.Tryz.f80 rfl rfl rfl rfl rfl ?_
      | refine CallQ.inlineN Proofs.Tryz.f79 rfl rfl rfl rfl rfl ?_
      | refine CallQ.inlineN Proofs.Tryz.f75 rfl rfl rfl rfl rfl ?_
      | (refine CallQ.use [] l30_8589934 rfl rfl trivial ?_
         rintro v l' ⟨rfl, rfl⟩
         conv=>whnf)
      | fail)
  exact ⟨[], .c (.i .u64 11), [some (.st E1)], rfl, by kernel_rfl, (by repeat' (first | exact trivial | refine And.intro ?_ ?_ | kernel_rfl)), rfl, rfl⟩
theorem f50a : FnS 50 [.c (.p 0 0)] [some (.st E1)] fun v l' => v = .c (.i .u64 88) ∧ l' = [some (.st E1)] := by
  refine FnS.wpR (b := 1) Proofs.Tryz.f50 rfl rfl rfl rfl rfl rfl ?_
  repeat' (first
      | (refine ⟨fun _=>?_, fun h => absurd h (by decide)⟩
         conv=>whnf)
      | (refine ⟨fun h => absurd h (by decide), fun _=>?_⟩
         conv=>whnf)
      | (refine WpN.seq (WpN.vc ?_)
         conv=>whnf)
      | (refine WpN.vc ?_
         conv=>whnf)
      | (refine WpS.rounds (WpS.round (VC_ok ?_))
         conv=>whnf)
      | (refine WpS.round (VC_ok ?_)
         conv=>whnf)
      | (refine And.intro (by first | rfl | decide) ?_
         conv=>whnf)
      | (refine .inl ⟨by decide +kernel, ?_⟩
         conv=>whnf)
      | refine CallQ.inlineN Proofs.Tryz.f77 rfl rfl rfl rfl rfl ?_
      | refine CallQ.inlineN Proofs.Tryz.f78 rfl rfl rfl rfl rfl ?_
      | refine CallQ.inlineN Proofs.Tryz.f80 rfl rfl rfl rfl rfl ?_
      | refine CallQ.inlineN Proofs.Tryz.f79 rfl rfl rfl rfl rfl ?_
      | refine CallQ.inlineN Proofs.Tryz.f75 rfl rfl rfl rfl rfl ?_
      | (refine CallQ.use [] l30_8589934 rfl rfl trivial ?_
         rintro v l' ⟨rfl, rfl⟩
         conv=>whnf)
      | fail)
  exact ⟨[], .c (.i .u64 88), [some (.st E1)], rfl, by kernel_rfl, (by repeat' (first | exact trivial | refine And.intro ?_ ?_ | kernel_rfl)), rfl, rfl⟩
@[reducible] def S25 : List C := [.i .i64 0, .b true, .i .u32 8589934, .i .u32 11, .i .u32 88, .i .i64 0]
theorem f25a : FnS 25 [.c (.irs 6 [R24])] [] fun v l' => v = .tu [.c (.s (strOf [199, 1])), .c (.osl 0 1), .c (.i .i64 0)] ∧ l' = [some (.rs true 6 [S25])] := by
  refine FnS.wpD (b := 0) (n := 80) Proofs.Tryz.f25 rfl rfl rfl rfl rfl rfl idle39 enter39 rfl (by decide) ?_
  refine WpN.vc ?_
  conv=>whnf
  refine ⟨rfl, ?_⟩
  refine WpN.seq (WpN.vc ?_)
  conv=>whnf
  refine WpN.seq (WpN.vc ?_)
  conv=>whnf
  refine CallQ.inlineN Proofs.Tryz.f40 rfl rfl rfl rfl rfl ?_
  repeat' (first
      | (refine ⟨fun _=>?_, fun h => absurd h (by decide)⟩
         conv=>whnf)
      | (refine ⟨fun h => absurd h (by decide), fun _=>?_⟩
         conv=>whnf)
      | (refine WpN.seq (WpN.vc ?_)
         conv=>whnf)
      | (refine WpN.vc ?_
         conv=>whnf)
      | (refine WpS.rounds (WpS.round (VC_ok ?_))
         conv=>whnf)
      | (refine WpS.round (VC_ok ?_)
         conv=>whnf)
      | (refine And.intro (by first | rfl | decide) ?_
         conv=>whnf)
      | (refine .inl ⟨by decide +kernel, ?_⟩
         conv=>whnf)
      | (refine OpQ.mk _ _ _ (fun o ho => OpX.slice0 (el := 5) rfl (by decide) ho rfl) ?_
         conv=>whnf)
      | fail)
  refine CallQ.use [3] f45a rfl rfl ⟨rfl, trivial⟩ ?_
  rintro v l' ⟨rfl, rfl⟩
  conv=>whnf
  repeat' (first
      | (refine ⟨fun _=>?_, fun h => absurd h (by decide)⟩
         conv=>whnf)
      | (refine ⟨fun h => absurd h (by decide), fun _=>?_⟩
         conv=>whnf)
      | (refine WpN.seq (WpN.vc ?_)
         conv=>whnf)
      | (refine WpN.vc ?_
         conv=>whnf)
      | (refine WpS.rounds (WpS.round (VC_ok ?_))
         conv=>whnf)
      | (refine WpS.round (VC_ok ?_)
         conv=>whnf)
      | (refine And.intro (by first | rfl | decide) ?_
         conv=>whnf)
      | (refine .inl ⟨by decide +kernel, ?_⟩
         conv=>whnf)
      | fail)
  refine .inr (WpS.draw [1, 2, 2, 0, 2, 0, 0, 2, 3, 3] (fun st2 => st2 1 = some (.st [.nsl])) (by kernel_rfl) ?_)
  conv=>whnf
  refine ⟨.c .nsl, ⟨rfl, fun st2 h2 => ⟨_, h2, .inl rfl⟩⟩, ?_⟩
  conv=>whnf
  refine ⟨rfl, ?_⟩
  refine CallQ.use [3] f48a rfl rfl ⟨rfl, trivial⟩ ?_
  rintro v l' ⟨rfl, rfl⟩
  refine ⟨rfl, ?_⟩
  conv=>whnf
  refine ⟨rfl, ?_⟩
  refine CallQ.use [3] f49a rfl rfl ⟨rfl, trivial⟩ ?_
  rintro v l' ⟨rfl, rfl⟩
  refine ⟨rfl, ?_⟩
  conv=>whnf
  refine ⟨rfl, ?_⟩
  refine CallQ.use [3] f50a rfl rfl ⟨rfl, trivial⟩ ?_
  rintro v l' ⟨rfl, rfl⟩
  refine ⟨rfl, ?_⟩
  conv=>whnf
  repeat' (first
      | (refine ⟨fun _=>?_, fun h => absurd h (by decide)⟩
         conv=>whnf)
      | (refine ⟨fun h => absurd h (by decide), fun _=>?_⟩
         conv=>whnf)
      | (refine WpN.seq (WpN.vc ?_)
         conv=>whnf)
      | (refine WpN.vc ?_
         conv=>whnf)
      | (refine WpS.rounds (WpS.round (VC_ok ?_))
         conv=>whnf)
      | (refine WpS.round (VC_ok ?_)
         conv=>whnf)
      | (refine And.intro (by first | rfl | decide) ?_
         conv=>whnf)
      | (refine .inl ⟨by decide +kernel, ?_⟩
         conv=>whnf)
      | fail)
  refine .inr (WpS.draw [2, 2, 1, 2, 2, 2] (fun st2 => st2 1 = some (.st [.osl 6 1])) (by kernel_rfl) ?_)
  conv=>whnf
  refine ⟨rfl, ?_⟩
  refine CallQ.use [3] f51a rfl rfl ⟨rfl, trivial⟩ ?_
  rintro v l' ⟨rfl, rfl⟩
  refine ⟨rfl, ?_⟩
  conv=>whnf
  refine ⟨rfl, ?_⟩
  refine OpQ.mk _ _ _ (fun o ho => OpX.toStr (el := 5) (c0 := .sl 7 0 2 2) (ys := [199, 1]) (φ := 0 + 2 ≤ 2) rfl rfl rfl ho rfl (fun X u h => ⟨_, h, rfl⟩) (by decide)) ?_
  refine ⟨rfl, ?_⟩
  conv=>whnf
  refine ⟨.c (.osl 6 1), ⟨rfl, fun st2 h2 => ⟨_, h2, .inl rfl⟩⟩, ?_⟩
  conv=>whnf
  repeat' (first
      | (refine ⟨fun _=>?_, fun h => absurd h (by decide)⟩
         conv=>whnf)
      | (refine ⟨fun h => absurd h (by decide), fun _=>?_⟩
         conv=>whnf)
      | (refine WpN.seq (WpN.vc ?_)
         conv=>whnf)
      | (refine WpN.vc ?_
         conv=>whnf)
      | (refine WpS.rounds (WpS.round (VC_ok ?_))
         conv=>whnf)
      | (refine WpS.round (VC_ok ?_)
         conv=>whnf)
      | (refine And.intro (by first | rfl | decide) ?_
         conv=>whnf)
      | (refine .inl ⟨by decide +kernel, ?_⟩
         conv=>whnf)
      | fail)
  exact ⟨[(0, 6)], .tu [.c (.s (strOf [199, 1])), .c (.osl 0 1), .c (.i .i64 0)], [some (.rs true 6 [S25])], rfl, by kernel_rfl, (by repeat' (first | exact trivial | refine And.intro ?_ ?_ | kernel_rfl)), rfl, rfl⟩
@[reducible] def dcd (b r n s h : Int) : List C := [.is .u8 [199, 1], .i .u64 b, .i .u64 r, .i .u64 n, .i .u32 s, .i .u32 h]
theorem f87y (n s h : Int) : FnS 87 [.c (.p 0 0)] [some (.st (dcd 15 0 (n) (s) (h)))] fun v l' => v = .c (.i .u32 1) ∧ l' = [some (.st (dcd 16 0 (n) (s) (h)))] := by
  refine FnS.wpR (b := 1) Proofs.Tryz.f87 rfl rfl rfl rfl rfl rfl ?_
  repeat' (first
      | (refine ⟨fun _=>?_, fun h => absurd h (by decide)⟩
         conv=>whnf)
      | (refine ⟨fun h => absurd h (by decide), fun _=>?_⟩
         conv=>whnf)
      | (refine WpN.seq (WpN.vc ?_)
         conv=>whnf)
      | (refine WpN.vc ?_
         conv=>whnf)
      | (refine WpS.rounds (WpS.round (VC_ok ?_))
         conv=>whnf)
      | (refine WpS.round (VC_ok ?_)
         conv=>whnf)
      | (refine And.intro (by first | rfl | decide) ?_
         conv=>whnf)
      | (refine .inl ⟨by decide +kernel, ?_⟩
         conv=>whnf)
      | fail)
  exact ⟨[], .c (.i .u32 1), [some (.st (dcd 16 0 (n) (s) (h)))], by kernel_rfl, by kernel_rfl, (by repeat' (first | exact trivial | refine And.intro ?_ ?_ | kernel_rfl)), rfl, rfl⟩
theorem f87z (n s h : Int) : FnS 87 [.c (.p 0 0)] [some (.st (dcd 16 0 (n) (s) (h)))] fun v l' => v = .c (.i .u32 0) ∧ l' = [some (.st (dcd 16 0 (n) (s) (h)))] := by
  refine FnS.wpR (b := 1) Proofs.Tryz.f87 rfl rfl rfl rfl rfl rfl ?_
  repeat' (first
      | (refine ⟨fun _=>?_, fun h => absurd h (by decide)⟩
         conv=>whnf)
      | (refine ⟨fun h => absurd h (by decide), fun _=>?_⟩
         conv=>whnf)
      | (refine WpN.seq (WpN.vc ?_)
         conv=>whnf)
      | (refine WpN.vc ?_
         conv=>whnf)
      | (refine WpS.rounds (WpS.round (VC_ok ?_))
         conv=>whnf)
      | (refine WpS.round (VC_ok ?_)
         conv=>whnf)
      | (refine And.intro (by first | rfl | decide) ?_
         conv=>whnf)
      | (refine .inl ⟨by decide +kernel, ?_⟩
         conv=>whnf)
      | fail)
  exact ⟨[], .c (.i .u32 0), [some (.st (dcd 16 0 (n) (s) (h)))], by kernel_rfl, by kernel_rfl, (by repeat' (first | exact trivial | refine And.intro ?_ ?_ | kernel_rfl)), rfl, rfl⟩
theorem f63a (n s h : Int) : FnS 63 [.c (.p 0 0), .c (.i .i64 7)] [some (.st (dcd 0 0 (n) (s) (h)))] fun v l' => v = .c (.i .u32 99) ∧ l' = [some (.st (dcd 7 0 (n) (s) (h)))] := by
  refine FnS.wpR (b := 1) Proofs.Tryz.f63 rfl rfl rfl rfl rfl rfl ?_
  repeat' (first
      | (refine ⟨fun _=>?_, fun h => absurd h (by decide)⟩
         conv=>whnf)
      | (refine ⟨fun h => absurd h (by decide), fun _=>?_⟩
         conv=>whnf)
      | (refine WpN.seq (WpN.vc ?_)
         conv=>whnf)
      | (refine WpN.vc ?_
         conv=>whnf)
      | (refine WpS.rounds (WpS.round (VC_ok ?_))
         conv=>whnf)
      | (refine WpS.round (VC_ok ?_)
         conv=>whnf)
      | (refine And.intro (by first | rfl | decide) ?_
         conv=>whnf)
      | (refine .inl ⟨by decide +kernel, ?_⟩
         conv=>whnf)
      | fail)
  exact ⟨[], .c (.i .u32 99), [some (.st (dcd 7 0 (n) (s) (h)))], by kernel_rfl, by kernel_rfl, (by repeat' (first | exact trivial | refine And.intro ?_ ?_ | kernel_rfl)), rfl, rfl⟩
theorem f63b (n s h : Int) : FnS 63 [.c (.p 0 0), .c (.i .i64 8)] [some (.st (dcd 7 0 (n) (s) (h)))] fun v l' => v = .c (.i .u32 128) ∧ l' = [some (.st (dcd 15 0 (n) (s) (h)))] := by
  refine FnS.wpR (b := 1) Proofs.Tryz.f63 rfl rfl rfl rfl rfl rfl ?_
  repeat' (first
      | (refine ⟨fun _=>?_, fun h => absurd h (by decide)⟩
         conv=>whnf)
      | (refine ⟨fun h => absurd h (by decide), fun _=>?_⟩
         conv=>whnf)
      | (refine WpN.seq (WpN.vc ?_)
         conv=>whnf)
      | (refine WpN.vc ?_
         conv=>whnf)
      | (refine WpS.rounds (WpS.round (VC_ok ?_))
         conv=>whnf)
      | (refine WpS.round (VC_ok ?_)
         conv=>whnf)
      | (refine And.intro (by first | rfl | decide) ?_
         conv=>whnf)
      | (refine .inl ⟨by decide +kernel, ?_⟩
         conv=>whnf)
      | fail)
  exact ⟨[], .c (.i .u32 128), [some (.st (dcd 15 0 (n) (s) (h)))], by kernel_rfl, by kernel_rfl, (by repeat' (first | exact trivial | refine And.intro ?_ ?_ | kernel_rfl)), rfl, rfl⟩
theorem f63c (n s h : Int) : FnS 63 [.c (.p 0 0), .c (.i .i64 8)] [some (.st (dcd 15 0 (n) (s) (h)))] fun v l' => v = .c (.i .u32 128) ∧ l' = [some (.st (dcd 16 0 (n) (s) (h)))] := by
  refine FnS.wpR (b := 1) Proofs.Tryz.f63 rfl rfl rfl rfl rfl rfl ?_
  repeat' (first
      | (refine ⟨fun _=>?_, fun h => absurd h (by decide)⟩
         conv=>whnf)
      | (refine ⟨fun h => absurd h (by decide), fun _=>?_⟩
         conv=>whnf)
      | (refine WpN.seq (WpN.vc ?_)
         conv=>whnf)
      | (refine WpN.vc ?_
         conv=>whnf)
      | (refine WpS.rounds (WpS.round (VC_ok ?_))
         conv=>whnf)
      | (refine WpS.round (VC_ok ?_)
         conv=>whnf)
      | (refine And.intro (by first | rfl | decide) ?_
         conv=>whnf)
      | (refine .inl ⟨by decide +kernel, ?_⟩
         conv=>whnf)
      | (refine CallQ.use [0] (f87y _ _ _) rfl rfl ⟨rfl, trivial⟩ ?_
         rintro v l' ⟨rfl, rfl⟩
         conv=>whnf)
      | (refine CallQ.use [0] (f87z _ _ _) rfl rfl ⟨rfl, trivial⟩ ?_
         rintro v l' ⟨rfl, rfl⟩
         conv=>whnf)
      | fail)
  exact ⟨[], .c (.i .u32 128), [some (.st (dcd 16 0 (n) (s) (h)))], by kernel_rfl, by kernel_rfl, (by repeat' (first | exact trivial | refine And.intro ?_ ?_ | kernel_rfl)), rfl, rfl⟩
theorem f63d (n s h : Int) : FnS 63 [.c (.p 0 0), .c (.i .i64 8)] [some (.st (dcd 16 0 (n) (s) (h)))] fun v l' => v = .c (.i .u32 0) ∧ l' = [some (.st (dcd 16 0 (n) (s) (h)))] := by
  refine FnS.wpR (b := 1) Proofs.Tryz.f63 rfl rfl rfl rfl rfl rfl ?_
  repeat' (first
      | (refine ⟨fun _=>?_, fun h => absurd h (by decide)⟩
         conv=>whnf)
      | (refine ⟨fun h => absurd h (by decide), fun _=>?_⟩
         conv=>whnf)
      | (refine WpN.seq (WpN.vc ?_)
         conv=>whnf)
      | (refine WpN.vc ?_
         conv=>whnf)
      | (refine WpS.rounds (WpS.round (VC_ok ?_))
         conv=>whnf)
      | (refine WpS.round (VC_ok ?_)
         conv=>whnf)
      | (refine And.intro (by first | rfl | decide) ?_
         conv=>whnf)
      | (refine .inl ⟨by decide +kernel, ?_⟩
         conv=>whnf)
      | (refine CallQ.use [0] (f87z _ _ _) rfl rfl ⟨rfl, trivial⟩ ?_
         rintro v l' ⟨rfl, rfl⟩
         conv=>whnf)
      | fail)
  exact ⟨[], .c (.i .u32 0), [some (.st (dcd 16 0 (n) (s) (h)))], by kernel_rfl, by kernel_rfl, (by repeat' (first | exact trivial | refine And.intro ?_ ?_ | kernel_rfl)), rfl, rfl⟩
end Go.SX
