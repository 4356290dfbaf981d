/- A part of the proof: the SILK decoder of the given program, walked by an executor that is proved sound. No statement of the program is proved in this text. -/
import Derived.Test.YtojdfjohmicopaaGreatDoorL37
import Derived.Test.YtojdfjohmicopaaGreatDoorL38
import Derived.Test.YtojdfjohmicopaaGreatDoorL40
set_option linter.all false
set_option maxRecDepth 100000
namespace Go.SX
open Go
theorem size_app (a b : ByteArray) : (a ++ b).size = a.size + b.size := by simp
theorem f20 (ys : List Bool) (hl : ys.length ≤ 1000) : FnS 20 [.c (.ibs ys)] [] fun v l' => ∃ s : ByteArray, v = .c (.s s) ∧ s.size ≤ ys.length + 2 ∧ l' = [] := by
  refine FnS.wpR (b := 0) Proofs.Tryz.f20 rfl rfl rfl rfl rfl rfl ?_
  refine WpN.seq (WpN.vc ?_)
  conv=>whnf
  refine WpN.seq (WpN.vc ?_)
  conv=>whnf
  refine WpN.seq (WpN.vc ?_)
  conv=>whnf
  refine WpS.loop (ι := Nat × ByteArray) (fun x => mkSt [(0, .c (.ibs ys)), (3, .c (.s x.2)), (6, .c (.ibs ys)), (7, .c (.i .i64 ys.length)), (8, .c (.i .i64 x.1))] [] 20) (fun x => x.1 ≤ ys.length ∧ x.2.size ≤ x.1 + 1) (fun x => ys.length - x.1) (0, ⟨#[91]⟩) ⟨Nat.zero_le _, by decide⟩ (Ren.relOf [] (by kernel_rfl) (by repeat constructor) (by repeat' (first | exact trivial | refine And.intro ?_ ?_ | kernel_rfl))) ?_
  rintro ⟨j, s⟩ ⟨hj, hs⟩
  dsimp only at hj hs ⊢
  refine VC_ok ?_
  conv=>whnf
  refine ⟨fun hc => ?_, fun hc => ?_⟩
  · have hc : j < ys.length := by have := of_decide_eq_true hc; omega
    conv=>whnf
    refine And.intro (by omega) ?_
    conv=>whnf
    conv=>whnf
    refine ⟨fun _=>?_, fun _=>?_⟩
    all_goals
      conv=>whnf
      refine And.intro (by show s.size + 1 ≤ _; omega) ?_
      conv=>whnf
      rw [i64_nat j (by omega)]
      refine ⟨(j + 1, _), ⟨by dsimp only; omega, ?_⟩, by dsimp only; omega, (Ren.relOf [] (by kernel_rfl) (by repeat constructor) (by repeat' (first | exact trivial | refine And.intro ?_ ?_ | kernel_rfl)))⟩
      dsimp only
      rw [size_app]
      show s.size + 1 ≤ _
      omega
  · have hc : j = ys.length := by have := of_decide_eq_false hc; omega
    conv=>whnf
    refine ⟨rfl, ?_⟩
    conv=>whnf
    refine WpN.seq (WpN.vc ?_)
    conv=>whnf
    refine And.intro (by show s.size + 1 ≤ _; omega) ?_
    conv=>whnf
    refine WpN.vc ?_
    conv=>whnf
    exact ⟨[], _, [], rfl, by kernel_rfl, by trivial, _, rfl, by rw [size_app]; show s.size + 1 ≤ _; omega, rfl⟩
theorem f20b (ys : List Bool) (hl : ys.length ≤ 1000) : FnS 20 [.c (.osl 0 ys.length)] [some (.bl true ys)] fun v l' => ∃ s : ByteArray, v = .c (.s s) ∧ s.size ≤ ys.length + 2 ∧ l' = [some (.bl true ys)] := by
  refine FnS.wpR (b := 1) Proofs.Tryz.f20 rfl rfl rfl rfl rfl rfl ?_
  refine WpN.seq (WpN.vc ?_)
  conv=>whnf
  refine WpN.seq (WpN.vc ?_)
  conv=>whnf
  refine WpN.seq (WpN.vc ?_)
  conv=>whnf
  refine WpS.loop (ι := Nat × ByteArray) (fun x => mkSt [(0, .c (.osl 0 ys.length)), (3, .c (.s x.2)), (6, .c (.osl 0 ys.length)), (7, .c (.i .i64 ys.length)), (8, .c (.i .i64 x.1))] [some (.bl true ys)] 20) (fun x => x.1 ≤ ys.length ∧ x.2.size ≤ x.1 + 1) (fun x => ys.length - x.1) (0, ⟨#[91]⟩) ⟨Nat.zero_le _, by decide⟩ (Ren.relOf [] (by kernel_rfl) (by repeat constructor) (by repeat' (first | exact trivial | refine And.intro ?_ ?_ | kernel_rfl))) ?_
  rintro ⟨j, s⟩ ⟨hj, hs⟩
  dsimp only at hj hs ⊢
  refine VC_ok ?_
  conv=>whnf
  refine ⟨fun hc => ?_, fun hc => ?_⟩
  · have hc : j < ys.length := by have := of_decide_eq_true hc; omega
    conv=>whnf
    refine And.intro (by omega) ?_
    conv=>whnf
    refine And.intro (by show 0 + _ < ys.length; omega) ?_
    conv=>whnf
    refine ⟨fun _=>?_, fun _=>?_⟩
    all_goals
      conv=>whnf
      refine And.intro (by show s.size + 1 ≤ _; omega) ?_
      conv=>whnf
      rw [i64_nat j (by omega)]
      refine ⟨(j + 1, _), ⟨by dsimp only; omega, ?_⟩, by dsimp only; omega, (Ren.relOf [] (by kernel_rfl) (by repeat constructor) (by repeat' (first | exact trivial | refine And.intro ?_ ?_ | kernel_rfl)))⟩
      dsimp only
      rw [size_app]
      show s.size + 1 ≤ _
      omega
  · have hc : j = ys.length := by have := of_decide_eq_false hc; omega
    conv=>whnf
    refine ⟨rfl, ?_⟩
    conv=>whnf
    refine WpN.seq (WpN.vc ?_)
    conv=>whnf
    refine And.intro (by show s.size + 1 ≤ _; omega) ?_
    conv=>whnf
    refine WpN.vc ?_
    conv=>whnf
    exact ⟨[], _, [some (.bl true ys)], rfl, by kernel_rfl, by repeat' (first | exact trivial | refine And.intro ?_ ?_ | kernel_rfl), _, rfl, by rw [size_app]; show s.size + 1 ≤ _; omega, rfl⟩
theorem f21 (hG : GL = GLP) (xs : List Int) (hl : xs.length ≤ 1000) (hx : ∀ x ∈ xs, I64 x) : FnS 21 [.c (.is .i64 xs)] [] fun v l' => ∃ s : ByteArray, v = .c (.s s) ∧ s.size ≤ 22 * xs.length + 2 ∧ l' = [] := by
  refine FnS.wpR (b := 0) Proofs.Tryz.f21 rfl rfl rfl rfl rfl rfl ?_
  refine WpN.seq (WpN.vc ?_)
  conv=>whnf
  refine WpN.seq (WpN.vc ?_)
  conv=>whnf
  refine WpN.seq (WpN.vc ?_)
  conv=>whnf
  refine WpS.loop (ι := Nat × ByteArray) (fun x => mkSt [(0, .c (.is .i64 xs)), (3, .c (.s x.2)), (6, .c (.is .i64 xs)), (7, .c (.i .i64 xs.length)), (8, .c (.i .i64 x.1))] [] 33) (fun x => x.1 ≤ xs.length ∧ x.2.size ≤ 22 * x.1 + 1) (fun x => xs.length - x.1) (0, ⟨#[91]⟩) ⟨Nat.zero_le _, by decide⟩ (Ren.relOf [] (by kernel_rfl) (by repeat constructor) (by repeat' (first | exact trivial | refine And.intro ?_ ?_ | kernel_rfl))) ?_
  rintro ⟨j, s⟩ ⟨hj, hs⟩
  dsimp only at hj hs ⊢
  refine VC_ok ?_
  conv=>whnf
  refine ⟨fun hc => ?_, fun hc => ?_⟩
  · have hc : j < xs.length := by have := of_decide_eq_true hc; omega
    have hxj : I64 (xs.getD j 0) := by
      rw [List.getD_eq_getElem?_getD, List.getElem?_eq_getElem hc]
      exact hx _ (List.getElem_mem hc)
    conv=>whnf
    refine And.intro (by omega) ?_
    conv=>whnf
    conv=>whnf
    have fin : ∀ (t : ByteArray), t.size ≤ 21 → ∃ y : Nat × ByteArray, y = (j + 1, s ++ (t ++ ⟨#[32]⟩)) ∧ y.1 ≤ xs.length ∧ y.2.size ≤ 22 * y.1 + 1 ∧ xs.length - y.1 < xs.length - j := fun t ht => ⟨_, rfl, by dsimp only; omega, by dsimp only; rw [size_app, size_app]; show s.size + (t.size + 1) ≤ _; omega, by dsimp only; omega⟩
    refine ⟨fun h1 => ?_, fun h1 => ?_⟩
    all_goals
      conv=>whnf
      repeat' first|(refine Lt (by decide) ?_;conv=>whnf)|(refine Lf (by decide) ?_;conv=>whnf)|fail
    all_goals first
      | (refine ⟨fun h2 => ?_, fun _=>?_⟩
         · exfalso
           have h1 := of_decide_eq_true h1
           have h2 := of_decide_eq_true h2
           rw [Int.toNat_natCast] at h1 h2
           rw [IntWalk.u64_in _ (by have := hxj.2; omega)] at h1
           have := hxj.2
           omega
         conv=>whnf)
      | skip
    all_goals
      repeat' first|(refine Lt (by decide) ?_;conv=>whnf)|(refine Lf (by decide) ?_;conv=>whnf)|fail
      have hxk : I64 (xs.getD (Int.toNat (j : Int)) 0) := by rw [Int.toNat_natCast]; exact hxj
      refine CallQ.use [] (f38 hG _ hxk.1 hxk.2) rfl rfl trivial ?_
      rintro v l' ⟨t, rfl, ht, rfl⟩
      conv=>whnf
      refine And.intro (by show t.size + 1 ≤ _; omega) ?_
      conv=>whnf
      refine And.intro (by rw [size_app]; show s.size + (t.size + 1) ≤ _; omega) ?_
      conv=>whnf
      rw [i64_nat j (by omega)]
      obtain ⟨y, rfl, h3, h4, h5⟩ := fin t ht
      exact ⟨_, ⟨h3, h4⟩, h5, (Ren.relOf [] (by kernel_rfl) (by repeat constructor) (by repeat' (first | exact trivial | refine And.intro ?_ ?_ | kernel_rfl)))⟩
  · have hc : j = xs.length := by have := of_decide_eq_false hc; omega
    conv=>whnf
    refine ⟨rfl, ?_⟩
    conv=>whnf
    refine WpN.seq (WpN.vc ?_)
    conv=>whnf
    refine And.intro (by show s.size + 1 ≤ _; omega) ?_
    conv=>whnf
    refine WpN.vc ?_
    conv=>whnf
    exact ⟨[], _, [], rfl, by kernel_rfl, by trivial, _, rfl, by rw [size_app]; show s.size + 1 ≤ _; omega, rfl⟩
theorem f21b (hG : GL = GLP) (xs : List Int) (hl : xs.length ≤ 1000) (hx : ∀ x ∈ xs, I64 x) : FnS 21 [.c (.osl 0 xs.length)] [some (.ar true .i64 xs)] fun v l' => ∃ s : ByteArray, v = .c (.s s) ∧ s.size ≤ 22 * xs.length + 2 ∧ l' = [some (.ar true .i64 xs)] := by
  refine FnS.wpR (b := 1) Proofs.Tryz.f21 rfl rfl rfl rfl rfl rfl ?_
  refine WpN.seq (WpN.vc ?_)
  conv=>whnf
  refine WpN.seq (WpN.vc ?_)
  conv=>whnf
  refine WpN.seq (WpN.vc ?_)
  conv=>whnf
  refine WpS.loop (ι := Nat × ByteArray) (fun x => mkSt [(0, .c (.osl 0 xs.length)), (3, .c (.s x.2)), (6, .c (.osl 0 xs.length)), (7, .c (.i .i64 xs.length)), (8, .c (.i .i64 x.1))] [some (.ar true .i64 xs)] 33) (fun x => x.1 ≤ xs.length ∧ x.2.size ≤ 22 * x.1 + 1) (fun x => xs.length - x.1) (0, ⟨#[91]⟩) ⟨Nat.zero_le _, by decide⟩ (Ren.relOf [] (by kernel_rfl) (by repeat constructor) (by repeat' (first | exact trivial | refine And.intro ?_ ?_ | kernel_rfl))) ?_
  rintro ⟨j, s⟩ ⟨hj, hs⟩
  dsimp only at hj hs ⊢
  refine VC_ok ?_
  conv=>whnf
  refine ⟨fun hc => ?_, fun hc => ?_⟩
  · have hc : j < xs.length := by have := of_decide_eq_true hc; omega
    have hxj : I64 (xs.getD j 0) := by
      rw [List.getD_eq_getElem?_getD, List.getElem?_eq_getElem hc]
      exact hx _ (List.getElem_mem hc)
    conv=>whnf
    refine And.intro (by omega) ?_
    conv=>whnf
    refine And.intro (by show 0 + _ < xs.length; omega) ?_
    conv=>whnf
    have fin : ∀ (t : ByteArray), t.size ≤ 21 → ∃ y : Nat × ByteArray, y = (j + 1, s ++ (t ++ ⟨#[32]⟩)) ∧ y.1 ≤ xs.length ∧ y.2.size ≤ 22 * y.1 + 1 ∧ xs.length - y.1 < xs.length - j := fun t ht => ⟨_, rfl, by dsimp only; omega, by dsimp only; rw [size_app, size_app]; show s.size + (t.size + 1) ≤ _; omega, by dsimp only; omega⟩
    refine ⟨fun h1 => ?_, fun h1 => ?_⟩
    all_goals
      conv=>whnf
      repeat' first|(refine Lt (by decide) ?_;conv=>whnf)|(refine Lf (by decide) ?_;conv=>whnf)|fail
    all_goals first
      | (refine ⟨fun h2 => ?_, fun _=>?_⟩
         · exfalso
           have h1 := of_decide_eq_true h1
           have h2 := of_decide_eq_true h2
           rw [zero_nat] at h1 h2
           rw [IntWalk.u64_in _ (by have := hxj.2; omega)] at h1
           have := hxj.2
           omega
         conv=>whnf)
      | skip
    all_goals
      repeat' first|(refine Lt (by decide) ?_;conv=>whnf)|(refine Lf (by decide) ?_;conv=>whnf)|fail
      have hxk : I64 (xs.getD (0 + Int.toNat (j : Int)) 0) := by rw [zero_nat]; exact hxj
      refine CallQ.use [] (f38 hG _ hxk.1 hxk.2) rfl rfl trivial ?_
      rintro v l' ⟨t, rfl, ht, rfl⟩
      conv=>whnf
      refine And.intro (by show t.size + 1 ≤ _; omega) ?_
      conv=>whnf
      refine And.intro (by rw [size_app]; show s.size + (t.size + 1) ≤ _; omega) ?_
      conv=>whnf
      rw [i64_nat j (by omega)]
      obtain ⟨y, rfl, h3, h4, h5⟩ := fin t ht
      exact ⟨_, ⟨h3, h4⟩, h5, (Ren.relOf [] (by kernel_rfl) (by repeat constructor) (by repeat' (first | exact trivial | refine And.intro ?_ ?_ | kernel_rfl)))⟩
  · have hc : j = xs.length := by have := of_decide_eq_false hc; omega
    conv=>whnf
    refine ⟨rfl, ?_⟩
    conv=>whnf
    refine WpN.seq (WpN.vc ?_)
    conv=>whnf
    refine And.intro (by show s.size + 1 ≤ _; omega) ?_
    conv=>whnf
    refine WpN.vc ?_
    conv=>whnf
    exact ⟨[], _, [some (.ar true .i64 xs)], rfl, by kernel_rfl, by repeat' (first | exact trivial | refine And.intro ?_ ?_ | kernel_rfl), _, rfl, by rw [size_app]; show s.size + 1 ≤ _; omega, rfl⟩
theorem f22 (hG : GL = GLP) (xs : List Int) (hl : xs.length ≤ 1000) (hx : ∀ x ∈ xs, I64 x) : FnS 22 [.c (.is .i64 xs)] [] fun v l' => ∃ s : ByteArray, v = .c (.s s) ∧ s.size ≤ 22 * xs.length + 2 ∧ l' = [] := by
  refine FnS.wpR (b := 0) Proofs.Tryz.f22 rfl rfl rfl rfl rfl rfl ?_
  refine WpN.seq (WpN.vc ?_)
  conv=>whnf
  refine WpN.seq (WpN.vc ?_)
  conv=>whnf
  refine WpN.seq (WpN.vc ?_)
  conv=>whnf
  refine WpS.loop (ι := Nat × ByteArray) (fun x => mkSt [(0, .c (.is .i64 xs)), (3, .c (.s x.2)), (6, .c (.is .i64 xs)), (7, .c (.i .i64 xs.length)), (8, .c (.i .i64 x.1))] [] 33) (fun x => x.1 ≤ xs.length ∧ x.2.size ≤ 22 * x.1 + 1) (fun x => xs.length - x.1) (0, ⟨#[91]⟩) ⟨Nat.zero_le _, by decide⟩ (Ren.relOf [] (by kernel_rfl) (by repeat constructor) (by repeat' (first | exact trivial | refine And.intro ?_ ?_ | kernel_rfl))) ?_
  rintro ⟨j, s⟩ ⟨hj, hs⟩
  dsimp only at hj hs ⊢
  refine VC_ok ?_
  conv=>whnf
  refine ⟨fun hc => ?_, fun hc => ?_⟩
  · have hc : j < xs.length := by have := of_decide_eq_true hc; omega
    have hxj : I64 (xs.getD j 0) := by
      rw [List.getD_eq_getElem?_getD, List.getElem?_eq_getElem hc]
      exact hx _ (List.getElem_mem hc)
    conv=>whnf
    refine And.intro (by omega) ?_
    conv=>whnf
    conv=>whnf
    have fin : ∀ (t : ByteArray), t.size ≤ 21 → ∃ y : Nat × ByteArray, y = (j + 1, s ++ (t ++ ⟨#[32]⟩)) ∧ y.1 ≤ xs.length ∧ y.2.size ≤ 22 * y.1 + 1 ∧ xs.length - y.1 < xs.length - j := fun t ht => ⟨_, rfl, by dsimp only; omega, by dsimp only; rw [size_app, size_app]; show s.size + (t.size + 1) ≤ _; omega, by dsimp only; omega⟩
    refine ⟨fun h1 => ?_, fun h1 => ?_⟩
    all_goals
      conv=>whnf
      repeat' first|(refine Lt (by decide) ?_;conv=>whnf)|(refine Lf (by decide) ?_;conv=>whnf)|fail
    all_goals first
      | (refine ⟨fun h2 => ?_, fun _=>?_⟩
         · exfalso
           have h1 := of_decide_eq_true h1
           have h2 := of_decide_eq_true h2
           rw [Int.toNat_natCast] at h1 h2
           rw [IntWalk.u64_in _ (by have := hxj.2; omega)] at h1
           have := hxj.2
           omega
         conv=>whnf)
      | skip
    all_goals
      repeat' first|(refine Lt (by decide) ?_;conv=>whnf)|(refine Lf (by decide) ?_;conv=>whnf)|fail
      have hxk : I64 (xs.getD (Int.toNat (j : Int)) 0) := by rw [Int.toNat_natCast]; exact hxj
      refine CallQ.use [] (f38 hG _ hxk.1 hxk.2) rfl rfl trivial ?_
      rintro v l' ⟨t, rfl, ht, rfl⟩
      conv=>whnf
      refine And.intro (by show t.size + 1 ≤ _; omega) ?_
      conv=>whnf
      refine And.intro (by rw [size_app]; show s.size + (t.size + 1) ≤ _; omega) ?_
      conv=>whnf
      rw [i64_nat j (by omega)]
      obtain ⟨y, rfl, h3, h4, h5⟩ := fin t ht
      exact ⟨_, ⟨h3, h4⟩, h5, (Ren.relOf [] (by kernel_rfl) (by repeat constructor) (by repeat' (first | exact trivial | refine And.intro ?_ ?_ | kernel_rfl)))⟩
  · have hc : j = xs.length := by have := of_decide_eq_false hc; omega
    conv=>whnf
    refine ⟨rfl, ?_⟩
    conv=>whnf
    refine WpN.seq (WpN.vc ?_)
    conv=>whnf
    refine And.intro (by show s.size + 1 ≤ _; omega) ?_
    conv=>whnf
    refine WpN.vc ?_
    conv=>whnf
    exact ⟨[], _, [], rfl, by kernel_rfl, by trivial, _, rfl, by rw [size_app]; show s.size + 1 ≤ _; omega, rfl⟩
theorem f22b (hG : GL = GLP) (xs : List Int) (hl : xs.length ≤ 1000) (hx : ∀ x ∈ xs, I64 x) : FnS 22 [.c (.osl 0 xs.length)] [some (.ar true .i64 xs)] fun v l' => ∃ s : ByteArray, v = .c (.s s) ∧ s.size ≤ 22 * xs.length + 2 ∧ l' = [some (.ar true .i64 xs)] := by
  refine FnS.wpR (b := 1) Proofs.Tryz.f22 rfl rfl rfl rfl rfl rfl ?_
  refine WpN.seq (WpN.vc ?_)
  conv=>whnf
  refine WpN.seq (WpN.vc ?_)
  conv=>whnf
  refine WpN.seq (WpN.vc ?_)
  conv=>whnf
  refine WpS.loop (ι := Nat × ByteArray) (fun x => mkSt [(0, .c (.osl 0 xs.length)), (3, .c (.s x.2)), (6, .c (.osl 0 xs.length)), (7, .c (.i .i64 xs.length)), (8, .c (.i .i64 x.1))] [some (.ar true .i64 xs)] 33) (fun x => x.1 ≤ xs.length ∧ x.2.size ≤ 22 * x.1 + 1) (fun x => xs.length - x.1) (0, ⟨#[91]⟩) ⟨Nat.zero_le _, by decide⟩ (Ren.relOf [] (by kernel_rfl) (by repeat constructor) (by repeat' (first | exact trivial | refine And.intro ?_ ?_ | kernel_rfl))) ?_
  rintro ⟨j, s⟩ ⟨hj, hs⟩
  dsimp only at hj hs ⊢
  refine VC_ok ?_
  conv=>whnf
  refine ⟨fun hc => ?_, fun hc => ?_⟩
  · have hc : j < xs.length := by have := of_decide_eq_true hc; omega
    have hxj : I64 (xs.getD j 0) := by
      rw [List.getD_eq_getElem?_getD, List.getElem?_eq_getElem hc]
      exact hx _ (List.getElem_mem hc)
    conv=>whnf
    refine And.intro (by omega) ?_
    conv=>whnf
    refine And.intro (by show 0 + _ < xs.length; omega) ?_
    conv=>whnf
    have fin : ∀ (t : ByteArray), t.size ≤ 21 → ∃ y : Nat × ByteArray, y = (j + 1, s ++ (t ++ ⟨#[32]⟩)) ∧ y.1 ≤ xs.length ∧ y.2.size ≤ 22 * y.1 + 1 ∧ xs.length - y.1 < xs.length - j := fun t ht => ⟨_, rfl, by dsimp only; omega, by dsimp only; rw [size_app, size_app]; show s.size + (t.size + 1) ≤ _; omega, by dsimp only; omega⟩
    refine ⟨fun h1 => ?_, fun h1 => ?_⟩
    all_goals
      conv=>whnf
      repeat' first|(refine Lt (by decide) ?_;conv=>whnf)|(refine Lf (by decide) ?_;conv=>whnf)|fail
    all_goals first
      | (refine ⟨fun h2 => ?_, fun _=>?_⟩
         · exfalso
           have h1 := of_decide_eq_true h1
           have h2 := of_decide_eq_true h2
           rw [zero_nat] at h1 h2
           rw [IntWalk.u64_in _ (by have := hxj.2; omega)] at h1
           have := hxj.2
           omega
         conv=>whnf)
      | skip
    all_goals
      repeat' first|(refine Lt (by decide) ?_;conv=>whnf)|(refine Lf (by decide) ?_;conv=>whnf)|fail
      have hxk : I64 (xs.getD (0 + Int.toNat (j : Int)) 0) := by rw [zero_nat]; exact hxj
      refine CallQ.use [] (f38 hG _ hxk.1 hxk.2) rfl rfl trivial ?_
      rintro v l' ⟨t, rfl, ht, rfl⟩
      conv=>whnf
      refine And.intro (by show t.size + 1 ≤ _; omega) ?_
      conv=>whnf
      refine And.intro (by rw [size_app]; show s.size + (t.size + 1) ≤ _; omega) ?_
      conv=>whnf
      rw [i64_nat j (by omega)]
      obtain ⟨y, rfl, h3, h4, h5⟩ := fin t ht
      exact ⟨_, ⟨h3, h4⟩, h5, (Ren.relOf [] (by kernel_rfl) (by repeat constructor) (by repeat' (first | exact trivial | refine And.intro ?_ ?_ | kernel_rfl)))⟩
  · have hc : j = xs.length := by have := of_decide_eq_false hc; omega
    conv=>whnf
    refine ⟨rfl, ?_⟩
    conv=>whnf
    refine WpN.seq (WpN.vc ?_)
    conv=>whnf
    refine And.intro (by show s.size + 1 ≤ _; omega) ?_
    conv=>whnf
    refine WpN.vc ?_
    conv=>whnf
    exact ⟨[], _, [some (.ar true .i64 xs)], rfl, by kernel_rfl, by repeat' (first | exact trivial | refine And.intro ?_ ?_ | kernel_rfl), _, rfl, by rw [size_app]; show s.size + 1 ≤ _; omega, rfl⟩
theorem f23 (hG : GL = GLP) (xss : List (List Int)) (hl : xss.length ≤ 1000) (hx : ∀ xs ∈ xss, xs.length ≤ 20 ∧ ∀ x ∈ xs, I64 x) : FnS 23 [.c (.iss .i64 xss)] [] fun v l' => ∃ s : ByteArray, v = .c (.s s) ∧ s.size ≤ 450 * xss.length + 2 ∧ l' = [] := by
  refine FnS.wpR (b := 0) Proofs.Tryz.f23 rfl rfl rfl rfl rfl rfl ?_
  refine WpN.seq (WpN.vc ?_)
  conv=>whnf
  refine WpN.seq (WpN.vc ?_)
  conv=>whnf
  refine WpN.seq (WpN.vc ?_)
  conv=>whnf
  refine WpS.loop (ι := Nat × ByteArray) (fun x => mkSt [(0, .c (.iss .i64 xss)), (3, .c (.s x.2)), (6, .c (.iss .i64 xss)), (7, .c (.i .i64 xss.length)), (8, .c (.i .i64 x.1))] [] 19) (fun x => x.1 ≤ xss.length ∧ x.2.size ≤ 450 * x.1 + 1) (fun x => xss.length - x.1) (0, ⟨#[91]⟩) ⟨Nat.zero_le _, by decide⟩ (Ren.relOf [] (by kernel_rfl) (by repeat constructor) (by repeat' (first | exact trivial | refine And.intro ?_ ?_ | kernel_rfl))) ?_
  rintro ⟨j, s⟩ ⟨hj, hs⟩
  dsimp only at hj hs ⊢
  refine VC_ok ?_
  conv=>whnf
  refine ⟨fun hc => ?_, fun hc => ?_⟩
  · have hc : j < xss.length := by have := of_decide_eq_true hc; omega
    have hxj : (xss.getD (Int.toNat (j : Int)) []).length ≤ 20 ∧ ∀ x ∈ xss.getD (Int.toNat (j : Int)) [], I64 x := by
      rw [Int.toNat_natCast, List.getD_eq_getElem?_getD, List.getElem?_eq_getElem hc]
      exact hx _ (List.getElem_mem hc)
    conv=>whnf
    refine And.intro (by omega) ?_
    conv=>whnf
    refine CallQ.use [] (f21 hG _ (by omega) hxj.2) rfl rfl trivial ?_
    rintro v l' ⟨t, rfl, ht, rfl⟩
    conv=>whnf
    refine And.intro (by omega) ?_
    conv=>whnf
    rw [i64_nat j (by omega)]
    refine ⟨(j + 1, _), ⟨by dsimp only; omega, ?_⟩, by dsimp only; omega, (Ren.relOf [] (by kernel_rfl) (by repeat constructor) (by repeat' (first | exact trivial | refine And.intro ?_ ?_ | kernel_rfl)))⟩
    dsimp only
    rw [size_app]
    omega
  · have hc : j = xss.length := by have := of_decide_eq_false hc; omega
    conv=>whnf
    refine ⟨rfl, ?_⟩
    conv=>whnf
    refine WpN.seq (WpN.vc ?_)
    conv=>whnf
    refine And.intro (by show s.size + 1 ≤ _; omega) ?_
    conv=>whnf
    refine WpN.vc ?_
    conv=>whnf
    exact ⟨[], _, [], rfl, by kernel_rfl, by trivial, _, rfl, by rw [size_app]; show s.size + 1 ≤ _; omega, rfl⟩
theorem takeG {α : Type} {xs : List α} {d : α} {j : Nat} (h : j < xs.length) : xs.take j ++ [xs.getD j d] = xs.take (j + 1) := by
  rw [List.take_add_one, List.getD_eq_getElem?_getD, List.getElem?_eq_getElem h]
  rfl
theorem f9a (T : List (List C)) (hT : ∀ t ∈ T, TdOk t) (hn : T.length ≤ 1000) : FnS 9 [.c (.irs 7 T)] [] fun v l' => v = .c (.osl 0 T.length) ∧ l' = [some (.rs true 7 T)] := by
  refine FnS.wpR (b := 0) Proofs.Tryz.f9 rfl rfl rfl rfl rfl rfl ?_
  refine WpN.seq (WpN.vc ?_)
  conv=>whnf
  refine WpN.seq (WpN.vc ?_)
  conv=>whnf
  refine WpN.weaken (s := mkSt [(0, .c (.irs 7 T)), (3, .c (.osl 0 0))] [some (.rs true 7 [])] 48) (Rel.trans (Rel.nilE (t := 3) (.rs true 7 []) rfl rfl (fun m h => by cases h)) (Ren.relOf [] (by kernel_rfl) (by repeat constructor) (by repeat' (first | exact trivial | refine And.intro ?_ ?_ | kernel_rfl)))) rfl ?_
  refine WpN.seq (WpN.vc ?_)
  conv=>whnf
  refine WpS.loop (ι := Nat) (fun i => mkSt [(3, .c (.osl 0 i)), (9, .c (.irs 7 T)), (10, .c (.i .i64 T.length)), (11, .c (.i .i64 i))] [some (.rs true 7 (T.take i))] 48) (fun i => i ≤ T.length) (fun i => T.length - i) 0 (Nat.zero_le _) (Ren.relOf [] (by kernel_rfl) (by repeat constructor) (by repeat' (first | exact trivial | refine And.intro ?_ ?_ | kernel_rfl))) ?_
  intro i hi
  refine WpN.toS (WpN.seq (WpN.vc ?_))
  conv=>whnf
  refine WpN.seq (WpN.vc ?_)
  conv=>whnf
  refine ⟨fun hc => ?_, fun hc => ?_⟩
  · have hc : i < T.length := by have := of_decide_eq_true hc; omega
    have hmap := takeG (d := ([] : List C)) hc
    obtain ⟨va, sv, ag, sa, fs, rg, tl, ht, _, _, _, _, hfl, hF⟩ := getD_in (d := ([] : List C)) hT hc
    rw [ht] at hmap
    conv=>whnf
    refine WpN.seq (WpN.block (WpN.seq (WpN.vc ?_)))
    conv=>whnf
    refine And.intro (by omega) ?_
    rw [Int.toNat_natCast, ht]
    conv=>whnf
    refine And.intro rfl ?_
    conv=>whnf
    refine WpN.seq (WpN.vc ?_)
    conv=>whnf
    refine WpN.weaken (s := ⟨mkE [(3, .c (.osl 0 i)), (5, .c (.p 1 0)), (6, .c (.p 2 0)), (9, .c (.irs 7 T)), (10, .c (.i .i64 T.length)), (11, .c (.i .i64 i))], _, 4, 48⟩) (Rel.trans (Rel.nilO (nm := 2) (i := 4) (y := .rs true 24 []) rfl rfl rfl (fun m h => by cases h)) (Rel.lay (k := 4) [] (E := [(3, .c (.osl 0 i)), (5, .c (.p 1 0)), (6, .c (.p 2 0)), (9, .c (.irs 7 T)), (10, .c (.i .i64 T.length)), (11, .c (.i .i64 i))]) (l := [(0, .rs true 7 (T.take i)), (1, .st (tdC va sv ag sa fs rg tl)), (2, .st [.ibs va, .ibs sv, .ibs ag, .ibs sa, .osl 3 0, .i .u32 rg, .i .i64 tl]), (3, .rs true 24 [])]) (by kernel_rfl) (by repeat constructor) (by repeat' (first | exact trivial | refine And.intro ?_ ?_ | kernel_rfl)))) rfl ?_
    refine WpN.seq (WpN.vc ?_)
    conv=>whnf
    refine WpS.loop (ι := Nat) (fun j => mkSt [(3, .c (.osl 0 i)), (6, .c (.p 2 0)), (9, .c (.irs 7 T)), (10, .c (.i .i64 T.length)), (11, .c (.i .i64 i)), (29, .c (.irs 24 fs)), (30, .c (.i .i64 fs.length)), (31, .c (.i .i64 j))] [some (.rs true 7 (T.take i)), some (.st (tdC va sv ag sa fs rg tl)), some (.st [.ibs va, .ibs sv, .ibs ag, .ibs sa, .osl 3 j, .i .u32 rg, .i .i64 tl]), some (.rs true 24 (fs.take j))] 48) (fun j => j ≤ fs.length) (fun j => fs.length - j) 0 (Nat.zero_le _) (Ren.relOf [] (by kernel_rfl) (by repeat constructor) (by repeat' (first | exact trivial | refine And.intro ?_ ?_ | kernel_rfl))) ?_
    intro j hj
    refine VC_ok ?_
    conv=>whnf
    refine ⟨fun hc => ?_, fun hc => ?_⟩
    · have hc : j < fs.length := by have := of_decide_eq_true hc; omega
      have hmap := takeG (d := ([] : List C)) hc
      obtain ⟨b1, b2, b3, b4, w0, w1, k, o, gs, i1, rs, ns, ms, w, fl, mx, lg, ts, sc, sd, rl, ps, ls, es, hy, _⟩ := getD_in (d := ([] : List C)) hF hc
      have hyy : fs.getD j [] = frN b1 b2 b3 b4 w0 w1 k o gs i1 rs ns ms w fl mx lg ts sc sd rl ps ls es := hy
      rw [hyy] at hmap
      conv=>whnf
      refine And.intro (by omega) ?_
      rw [Int.toNat_natCast, hyy]
      conv=>whnf
      refine And.intro rfl ?_
      conv=>whnf
      refine And.intro ⟨trivial, by simp; omega, by simp; omega⟩ ?_
      conv=>whnf
      have hmap' : fs.take j ++ [[.b b1, .b b2, .b b3, .b b4, .i .i64 w0, .i .i64 w1, .i .i64 k, .i .i64 o, .is .i64 gs, .i .i64 i1, .is .i64 rs, .is .i64 ns, .is .i64 ms, .i .i64 w, .iss .i64 fl, .i .i64 mx, .is .i64 lg, .iss .i64 ts, .i .i64 sc, .i .i64 sd, .i .i64 rl, .is .i64 ps, .is .i64 ls, .is .i64 es]] = fs.take (j + 1) := hmap
      rw [hmap', addN (by omega), show (fs.take (j + 1)).length = j + 1 by simp; omega]
      exact ⟨j + 1, by omega, by omega, (Ren.relOf [(3, 6)] (by kernel_rfl) (by repeat constructor) (by repeat' (first | exact trivial | refine And.intro ?_ ?_ | kernel_rfl)))⟩
    · have hc : j = fs.length := by have := of_decide_eq_false hc; omega
      subst hc
      rw [List.take_length]
      conv=>whnf
      refine ⟨rfl, ?_⟩
      conv=>whnf
      refine WpN.vc ?_
      conv=>whnf
      refine And.intro ⟨rfl, by simp; omega, by simp; omega⟩ ?_
      conv=>whnf
      refine WpN.vc ?_
      conv=>whnf
      have hmap' : T.take i ++ [[.ibs va, .ibs sv, .ibs ag, .ibs sa, .irs (23 + 1) fs, .i .u32 rg, .i .i64 tl]] = T.take (i + 1) := hmap
      rw [hmap', addN (by omega), show (T.take (i + 1)).length = i + 1 by simp; omega]
      exact ⟨i + 1, by omega, by omega, (Ren.relOf [(0, 5)] (by kernel_rfl) (by repeat constructor) (by repeat' (first | exact trivial | refine And.intro ?_ ?_ | kernel_rfl)))⟩
  · have hc : i = T.length := by have := of_decide_eq_false hc; omega
    subst hc
    rw [List.take_length]
    conv=>whnf
    refine ⟨rfl, ?_⟩
    refine WpN.seq (WpN.vc ?_)
    conv=>whnf
    refine WpN.vc ?_
    conv=>whnf
    exact ⟨[], .c (.osl 0 T.length), [some (.rs true 7 T)], rfl, by kernel_rfl, (by repeat' (first | exact trivial | refine And.intro ?_ ?_ | kernel_rfl)), rfl, rfl⟩
theorem f9 (T : List (List C)) (hT : ∀ t ∈ T, TdOk t) (hn : T.length ≤ 1000) : FnS 9 [.c (.irs 7 T)] [] fun v l' => v = .c (.irs 7 T) ∧ l' = [] := by
  refine FnS.behind (f9a T hT hn) ?_
  rintro v l' ⟨rfl, rfl⟩
  exact ⟨_, _, ⟨rfl, rfl⟩, (RelM.frz0 (b := 0) (nx := 1) (c := .osl 0 T.length) (c' := .irs 7 T) (st := mkS [some (.rs true 7 T)]) (φ := T.length = T.length) rfl rfl (by decide)).to [] trivial rfl rfl (Nat.le_refl _)⟩
theorem OpX.frz {o : Oper} {e : Nat → Option V} {st : Nat → Option B} {nx : Nat} {c c' : C} {st1 st2 : Nat → Option B} {nx1 : Nat} {φ : Prop} (h : OpX o e st nx (.c c) st1 nx1) (hf : frzC c st1 = .cond φ c' st2) (hφ : φ) (hsub : ∀ nm, nm < nx → st2 nm = st nm) : OpX o e st nx (.c c') st nx := by
  intro H X a K Q hs hk hK
  refine h H X a K Q hs hk fun X1 u g1 s1 hle hd hb => ?_
  cases hd with | c hd =>
  have hz := frzC_ok g1 hd
  rw [hf] at hz
  obtain ⟨⟨X2, z, hd2⟩, hno, _⟩ := hz hφ
  have h2 : ∀ nm x, st nm = some x → st2 nm = some x := fun nm x hx => by rw [hsub nm (hs.bd nm x hx).1]; exact hx
  have hne : ∀ nm, st nm ≠ none → st2 nm ≠ none := fun nm hx => by
    obtain ⟨y, hy⟩ := Option.ne_none_iff_exists'.1 hx
    rw [h2 nm y hy]; simp
  have g2 : Hs H st nx X2 := { blk := fun nm x hx => z.hs.blk nm x (h2 nm x hx), inj := fun n1 n2 b c c' h1 h3 => z.hs.inj n1 n2 b c c' (hne n1 h1) (hne n2 h3), sep := fun n1 b c h1 => z.hs.sep n1 b c (hne n1 h1), bd := hs.bd, fr := z.hs.fr, sz := z.hs.sz, imm := z.hs.imm, out := z.hs.out, gl := z.hs.gl }
  have := hK X2 u g2 (s1.trans z.step hle) (Nat.le_refl _) (.c hd2) fun nm hn => by cases hn with | c hn => exact (hno nm hn).elim
  rwa [z.w] at this
def closeB (t len : Nat) (ps : Array (Nat × Operand)) (ρ : Operand → Option V) : Option C :=
  match (ty t).d with
  | .slice e => match inRow 0 ps.toList with
    | some xs => match Nat.beq xs.length len, rds ρ xs with
      | true, some vs => match rowB e vs, (ty e).d, (ty e).z, Nat.ble (len * (ty e).sz) 16777216 with
        | some (.ar _ k l), .int _, _ :: _, true => bif Nat.beq len l.length then some (.is k l) else none
        | some (.bl _ l), .bool, _ :: _, true => bif Nat.beq len l.length then some (.ibs l) else none
        | _, _, _, _ => none
      | _, _ => none
    | none => none
  | _ => none
theorem closeB_ok {o : Oper} {e : Nat → Option V} {t len : Nat} {ps : Array (Nat × Operand)} {c : C} (ho : o.op = .buildSlice t len ps) (h : closeB t len ps (rd e) = some c) (st : Nat → Option B) (nx : Nat) : OpX o e st nx (.c c) st nx := by
  unfold closeB at h
  split at h
  · rename_i el hd
    split at h
    · rename_i xs hin
      split at h
      · rename_i vs hlen hvs
        have up : ∀ b : B, ∀ nm, nm < nx → del (upd st nx b) nx nm = st nm := fun b nm hn => by rw [del_other _ (Nat.ne_of_lt hn), upd_other _ _ (Nat.ne_of_lt hn)]
        split at h
        · rename_i q k l _ c0 r0 hb hi hz hble
          cases hq : Nat.beq len l.length with
          | false => rw [hq] at h; cases h
          | true =>
            rw [hq] at h
            cases h
            have hm : memV o.op (rd e) st nx = .ok (.c (.osl nx len)) (upd st nx (.ar q k l)) (nx + 1) := by
              rw [ho]; simp only [memV, hd, hin, hlen, hvs, hb, hz, hble, rowV, hi]
            refine OpX.frz (.of_mem (.inl hm)) (φ := len = l.length) (st2 := del (upd st nx (.ar q k l)) nx) ?_ (Nat.eq_of_beq_eq_true hq) (up _)
            simp only [frzC, upd_same]
        · rename_i q l c0 r0 hb hi hz hble
          cases hq : Nat.beq len l.length with
          | false => rw [hq] at h; cases h
          | true =>
            rw [hq] at h
            cases h
            have hm : memV o.op (rd e) st nx = .ok (.c (.osl nx len)) (upd st nx (.bl q l)) (nx + 1) := by
              rw [ho]; simp only [memV, hd, hin, hlen, hvs, hb, hz, hble, rowV, hi]
            refine OpX.frz (.of_mem (.inl hm)) (φ := len = l.length) (st2 := del (upd st nx (.bl q l)) nx) ?_ (Nat.eq_of_beq_eq_true hq) (up _)
            simp only [frzC, upd_same]
        · cases h
      · cases h
    · cases h
  · cases h
def classW (M : (Nat → Option B) → Prop) (k : Nat) (op : Op) (e : Nat → Option V) (st : Nat → Option B) (nx : Nat) (K : V → (Nat → Option B) → Nat → Prop) : Prop :=
  match k, op with
  | 0, .buildSlice t len ps => match closeB t len ps (rd e) with
    | some c => K (.c c) st nx
    | none => False
  | k, op => classV M k op e st nx K
theorem classW_ok {M : (Nat → Option B) → Prop} {k : Nat} {o : Oper} {e : Nat → Option V} {st : Nat → Option B} {nx : Nat} {K : V → (Nat → Option B) → Nat → Prop} (h : classW M k o.op e st nx K) :
    ∃ v st' nx', StpV M k o e st nx v st' nx' ∧ K v st' nx' := by
  unfold classW at h
  split at h
  · rename_i t len ps ho
    split at h
    · rename_i c hc
      exact ⟨.c c, st, nx, ⟨fun st nx => closeB_ok ho hc st nx, rfl, rfl⟩, h⟩
    · exact h.elim
  · exact classV_ok h
def VMw (M : (Nat → Option B) → Prop) (n : Nat) (l : List Oper) : List Nat → List Oper → (Nat → Option V) → (Nat → Option B) → Nat → ((Nat → Option V) → (Nat → Option B) → Nat → Prop) → Prop
  | _, [], e, st, nx, K => K e st nx
  | [], _ :: _, _, _, _, _ => False
  | k :: cs, ⟨d, op, _, _, _, g⟩ :: r, e, st, nx, K => guardV l g e st nx (fun e => classW M k op e st nx) fun e F => dstV n d e F fun e st nx => VMw M n l cs r e st nx K
theorem VMw_ok {M : (Nat → Option B) → Prop} {ops : Array Oper} {n : Nat} {cl : Nat → Nat} : ∀ {cs : List Nat} {l : List Oper} {k : Nat} {e : Nat → Option V} {st : Nat → Option B} {nx : Nat} {K : (Nat → Option V) → (Nat → Option B) → Nat → Prop},
    (∀ j, l[j]? = ops[k + j]?) → (∀ i, cl (k + i) = clF cs i) → VMw M n ops.toList cs l e st nx K → ∃ e' st' nx', K e' st' nx' ∧ Chain M cl ops (List.range' k l.length) ⟨e, st, nx, n⟩ ⟨e', st', nx', n⟩
  | _, [], k, e, st, nx, K, _, _, h => ⟨e, st, nx, (by unfold VMw at h; exact h), .nil⟩
  | [], _ :: _, k, e, st, nx, K, _, _, h => h.elim
  | c :: cs, ⟨d, op, ty, ps, af, g⟩ :: r, k, e, st, nx, K, hl, hcl, h => by
    have hl' : ∀ j, r[j]? = ops[k + 1 + j]? := fun j => by have := hl (j + 1); simp at this; rw [this]; congr 1; omega
    have ho : ops[k]? = some ⟨d, op, ty, ps, af, g⟩ := by have := hl 0; simpa using this.symm
    have hcl' : ∀ i, cl (k + 1 + i) = clF cs i := fun i => by have := hcl (i + 1); rw [show k + 1 + i = k + (i + 1) by omega, this]; rfl
    have hk : cl k = c := hcl 0
    unfold VMw at h
    obtain ⟨hd, v, st1, nx1, h1, _, h2⟩ := VO_ok (M := M) (k := cl k) (ty := ty) (ps := ps) (af := af) (J := fun _=>True) trivial (fun K hK => by
      obtain ⟨v, st', nx', k1, k2⟩ := classW_ok (o := ⟨d, op, ty, ps, af, g⟩) hK
      exact ⟨v, st', nx', by rw [hk]; exact k1, trivial, k2⟩) h
    obtain ⟨e', st', nx', k1, k2⟩ := VMw_ok (ops := ops) (cl := cl) hl' hcl' h2
    exact ⟨e', st', nx', k1, .cons ho hd h1 k2⟩
theorem WpS.drawW {b id n nx : Nat} {ops : Array Oper} {e : Nat → Option V} {st : Nat → Option B} {Q : Exit → S → Prop} (cs : List Nat) (M : (Nat → Option B) → Prop) (hok : okDraw (clF cs) ops = true)
    (h : VMw M n ops.toList cs ops.toList e st nx fun e st nx => Q .normal ⟨e, st, nx, n⟩) : WpS b (.region id ops true) ⟨e, st, nx, n⟩ Q := by
  obtain ⟨e', st', nx', h1, h2⟩ := VMw_ok (M := M) (ops := ops) (cl := clF cs) (k := 0) (fun j => by simp) (fun i => by simp) h
  refine ⟨.normal, ⟨e', st', nx', n⟩, h1, fun H X a hb g => wp_region_any (by rfl) ?_⟩
  obtain ⟨k1, k2⟩ := g.toHs.world { X.w with drawn := X.w.drawn + 1 } rfl
  have g' := g.step k1 k2 (Nat.le_refl _)
  have hrem : rem ops (Array.replicate ops.size false) = List.range' 0 ops.toList.length := by
    unfold rem
    rw [List.filter_eq_self.2 fun j hj => ?_, List.range_eq_range', Array.length_toList]
    simp only [List.mem_range] at hj
    simp [hj]
  refine por (M := M) (s' := ⟨e', st', nx', n⟩) hok ops.size _ _ a _ (fun j o _ hj => by rw [getD_replicate_false'] at hj; cases hj) (by simp) g' (by rw [hrem]; exact h2) (by rw [hrem]; simp) fun X' a' m1 m2 m3 => ?_
  exact ⟨rfl, X', rfl, m1, (k2.trans m2 (Nat.le_refl _)).low hb, Nat.le_trans hb m3⟩
end Go.SX
