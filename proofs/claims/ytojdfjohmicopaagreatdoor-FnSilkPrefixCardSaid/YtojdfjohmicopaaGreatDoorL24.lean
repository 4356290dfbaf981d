/- A part of the proof: the SILK decoder of the given program, walked by an executor that is proved sound. No statement of the program is proved in this text. -/
import Derived.Test.YtojdfjohmicopaaGreatDoorL19
import Derived.Test.YtojdfjohmicopaaGreatDoorL22
import Derived.Test.YtojdfjohmicopaaGreatDoorL23
set_option linter.all false
set_option maxRecDepth 100000
namespace Go.SX
open Go
theorem bits_none : (Extern.findNext Proofs.Tryz.f317).isNone = true ∧ (Extern.findNext Proofs.Tryz.f316).isNone = true ∧ (Extern.findNext Proofs.Tryz.f312).isNone = true ∧ (Extern.findNext Proofs.Tryz.f274).isNone = true := by decide +kernel
def exB (x : Nat) : Int := IntKind.i64.wrap (0 + IntKind.i64.wrap (IntKind.i64.wrap (IntKind.i64.wrap (bits .and .u64 ((x : Int).fdiv (2 ^ min (Int.toNat 52) IntKind.u64.bits)) 2047) - 1023) + 1))
def frB (x : Nat) : Nat := (bits .or .u64 (bits .andNot .u64 (x : Int) 9218868437227405312) 4602678819172646912).toNat
def sv : Sem Value → Option Nat
  | .pure (.float .f64 x) => some x
  | _ => none
theorem sv_run {m : Sem Value} {x : Nat} (h : sv m = some x) (w : World) : m.run P w = .ok (.float .f64 x) w := by
  unfold sv at h
  split at h
  · cases h; rfl
  · cases h
def resB (y : Nat) : Option Int := (sv (Extern.MathFloor.toIntegral "math.archFloor" .down #[.float .f64 y])).bind fun l => floatToIntVal .f64 l .i64
def resOk (y : Nat) : Bool := match resB y with
  | some r => decide (16 ≤ r ∧ r < 30)
  | none => false
def log2B (x : Nat) : Option Nat := if FloatKind.f64.format.order (frB x) 4602678819172646912 == some .eq then some (floatOfInt .f64 (IntKind.i64.wrap (exB x - 1)))
  else (sv (Extern.MathLog.archLog #[.float .f64 (frB x)])).bind fun g => (floatBits .mul .f64 g 4609176140021203710).bind fun m => floatBits .add .f64 m (floatOfInt .f64 (exB x))
structure FlOk (x : Nat) : Prop where
  a : (bits .andNot .u64 (x : Int) 9223372036854775808).toNat = x
  z : (FloatKind.f64.format.order x 0 == some .eq) = false
  i : (FloatKind.f64.format.order x 9218868437227405311 == some .gt) = false
  n : (FloatKind.f64.format.order x x != some .eq) = false
  l : (FloatKind.f64.format.order x 4503599627370496 == some .lt) = false
theorem f307 {x : Nat} (h : FlOk x) : FnS 307 [.c (fl x)] [] fun v l' => v = .c (fl x) ∧ l' = [] := by
  refine FnS.run (b := 0) Proofs.Tryz.f307 rfl rfl rfl rfl rfl rfl ?_
  conv=>whnf
  refine OpQ.mk _ _ _ (fun o ho => OpX.ext (c := .i .u64 x) ho rfl rfl rfl (fn := Proofs.Tryz.f317) rfl rfl rfl bits_none.1 (ex := Extern.MathFloatBits.float64bits) rfl fun w => rfl) ?_
  conv=>whnf
  refine OpQ.mk _ _ _ (fun o ho => OpX.ext (c := fl x) ho rfl rfl rfl (fn := Proofs.Tryz.f316) rfl rfl rfl bits_none.2.1 (ex := Extern.MathFloatBits.float64frombits) rfl fun w => by show Result.ok (Value.float .f64 (bits .andNot .u64 (x : Int) 9223372036854775808).toNat) w = _; rw [h.a]) ?_
  conv=>whnf
  exact ⟨[], rfl, trivial, rfl, rfl⟩
theorem f293 {x : Nat} (h : FlOk x) : FnS 293 [.c (fl x)] [] fun v l' => v = .c (.b false) ∧ l' = [] := by
  refine FnS.run (b := 0) Proofs.Tryz.f293 rfl rfl rfl rfl rfl rfl ?_
  conv=>whnf
  refine OpQ.mk _ _ _ (fun o ho => OpX.bin (r := .bool false) (c := .b false) ho rfl rfl rfl rfl rfl (fun w => by rw [binOp_float_cmp_neq, h.n]; rfl)) ?_
  conv=>whnf
  exact ⟨[], rfl, trivial, rfl, rfl⟩
theorem f294 {x : Nat} (h : FlOk x) : FnS 294 [.c (fl x), .c (.i .i64 0)] [] fun v l' => v = .c (.b false) ∧ l' = [] := by
  refine FnS.run (b := 0) Proofs.Tryz.f294 rfl rfl rfl rfl rfl rfl ?_
  conv=>whnf
  repeat' (first
      | (refine ⟨fun _=>?_, fun h => absurd h (by decide)⟩
         conv=>whnf)
      | (refine ⟨fun h => absurd h (by decide), fun _=>?_⟩
         conv=>whnf)
      | (refine And.intro (by first | rfl | decide) ?_
         conv=>whnf)
      | fail)
  refine CallQ.use [] (f307 h) rfl rfl trivial ?_
  rintro v l' ⟨rfl, rfl⟩
  conv=>whnf
  refine OpQ.mk _ _ _ (fun o ho => OpX.bin (r := .bool false) (c := .b false) ho rfl rfl rfl rfl rfl (fun w => by rw [binOp_float_cmp_gtr, h.i]; rfl)) ?_
  conv=>whnf
  exact ⟨[], rfl, trivial, rfl, rfl⟩
theorem f320 {x : Nat} (h : FlOk x) : FnS 320 [.c (fl x)] [] fun v l' => v = .tu [.c (fl x), .c (.i .i64 0)] ∧ l' = [] := by
  refine FnS.run (b := 0) Proofs.Tryz.f320 rfl rfl rfl rfl rfl rfl ?_
  conv=>whnf
  refine CallQ.use [] (f307 h) rfl rfl trivial ?_
  rintro v l' ⟨rfl, rfl⟩
  conv=>whnf
  refine OpQ.mk _ _ _ (fun o ho => OpX.bin (r := .bool false) (c := .b false) ho rfl rfl rfl rfl rfl (fun w => by rw [binOp_float_cmp_lss, h.l]; rfl)) ?_
  conv=>whnf
  repeat' (first
      | (refine ⟨fun _=>?_, fun h => absurd h (by decide)⟩
         conv=>whnf)
      | (refine ⟨fun h => absurd h (by decide), fun _=>?_⟩
         conv=>whnf)
      | (refine And.intro (by first | rfl | decide) ?_
         conv=>whnf)
      | fail)
  exact ⟨[], rfl, trivial, rfl, rfl⟩
theorem f311 {x : Nat} (h : FlOk x) : FnS 311 [.c (fl x)] [] fun v l' => v = .tu [.c (fl (frB x)), .c (.i .i64 (exB x))] ∧ l' = [] := by
  refine FnS.run (b := 0) Proofs.Tryz.f311 rfl rfl rfl rfl rfl rfl ?_
  conv=>whnf
  refine OpQ.mk _ _ _ (fun o ho => OpX.bin (r := .bool false) (c := .b false) ho rfl rfl rfl rfl rfl (fun w => by rw [binOp_float_cmp_eql, h.z]; rfl)) ?_
  conv=>whnf
  repeat' (first
      | (refine ⟨fun _=>?_, fun h => absurd h (by decide)⟩
         conv=>whnf)
      | (refine ⟨fun h => absurd h (by decide), fun _=>?_⟩
         conv=>whnf)
      | (refine And.intro (by first | rfl | decide) ?_
         conv=>whnf)
      | fail)
  refine CallQ.use [] (f294 h) rfl rfl trivial ?_
  rintro v l' ⟨rfl, rfl⟩
  conv=>whnf
  repeat' (first
      | (refine ⟨fun _=>?_, fun h => absurd h (by decide)⟩
         conv=>whnf)
      | (refine ⟨fun h => absurd h (by decide), fun _=>?_⟩
         conv=>whnf)
      | (refine And.intro (by first | rfl | decide) ?_
         conv=>whnf)
      | fail)
  refine CallQ.use [] (f293 h) rfl rfl trivial ?_
  rintro v l' ⟨rfl, rfl⟩
  conv=>whnf
  repeat' (first
      | (refine ⟨fun _=>?_, fun h => absurd h (by decide)⟩
         conv=>whnf)
      | (refine ⟨fun h => absurd h (by decide), fun _=>?_⟩
         conv=>whnf)
      | (refine And.intro (by first | rfl | decide) ?_
         conv=>whnf)
      | fail)
  refine CallQ.use [] (f320 h) rfl rfl trivial ?_
  rintro v l' ⟨rfl, rfl⟩
  conv=>whnf
  refine OpQ.mk _ _ _ (fun o ho => OpX.ext (c := .i .u64 x) ho rfl rfl rfl (fn := Proofs.Tryz.f317) rfl rfl rfl bits_none.1 (ex := Extern.MathFloatBits.float64bits) rfl fun w => rfl) ?_
  conv=>whnf
  repeat' (first
      | (refine ⟨fun _=>?_, fun h => absurd h (by decide)⟩
         conv=>whnf)
      | (refine ⟨fun h => absurd h (by decide), fun _=>?_⟩
         conv=>whnf)
      | (refine And.intro (by first | rfl | decide) ?_
         conv=>whnf)
      | fail)
  refine OpQ.mk _ _ _ (fun o ho => OpX.ext (c := fl (frB x)) ho rfl rfl rfl (fn := Proofs.Tryz.f316) rfl rfl rfl bits_none.2.1 (ex := Extern.MathFloatBits.float64frombits) rfl fun w => rfl) ?_
  conv=>whnf
  exact ⟨[], rfl, trivial, rfl, rfl⟩
theorem f296 {x : Nat} (h : FlOk x) : FnS 296 [.c (fl x)] [] fun v l' => v = .tu [.c (fl (frB x)), .c (.i .i64 (exB x))] ∧ l' = [] := by
  refine FnS.run (b := 0) Proofs.Tryz.f296 rfl rfl rfl rfl rfl rfl ?_
  conv=>whnf
  repeat' (first
      | (refine ⟨fun _=>?_, fun h => absurd h (by decide)⟩
         conv=>whnf)
      | (refine ⟨fun h => absurd h (by decide), fun _=>?_⟩
         conv=>whnf)
      | (refine And.intro (by first | rfl | decide) ?_
         conv=>whnf)
      | fail)
  refine CallQ.use [] (f311 h) rfl rfl trivial ?_
  rintro v l' ⟨rfl, rfl⟩
  conv=>whnf
  repeat' (first
      | (refine ⟨fun _=>?_, fun h => absurd h (by decide)⟩
         conv=>whnf)
      | (refine ⟨fun h => absurd h (by decide), fun _=>?_⟩
         conv=>whnf)
      | (refine And.intro (by first | rfl | decide) ?_
         conv=>whnf)
      | fail)
  exact ⟨[], rfl, trivial, rfl, rfl⟩
theorem f297 {x g : Nat} (h : sv (Extern.MathLog.archLog #[.float .f64 x]) = some g) : FnS 297 [.c (fl x)] [] fun v l' => v = .c (fl g) ∧ l' = [] := by
  refine FnS.run (b := 0) Proofs.Tryz.f297 rfl rfl rfl rfl rfl rfl ?_
  conv=>whnf
  repeat' (first
      | (refine ⟨fun _=>?_, fun h => absurd h (by decide)⟩
         conv=>whnf)
      | (refine ⟨fun h => absurd h (by decide), fun _=>?_⟩
         conv=>whnf)
      | (refine And.intro (by first | rfl | decide) ?_
         conv=>whnf)
      | fail)
  refine OpQ.mk _ _ _ (fun o ho => OpX.ext (c := fl g) ho rfl rfl rfl (fn := Proofs.Tryz.f312) rfl rfl rfl bits_none.2.2.1 (ex := Extern.MathLog.archLog) rfl fun w => sv_run h w) ?_
  conv=>whnf
  exact ⟨[], rfl, trivial, rfl, rfl⟩
theorem f277 {x y : Nat} (h : FlOk x) (hy : log2B x = some y) : FnS 277 [.c (fl x)] [] fun v l' => v = .c (fl y) ∧ l' = [] := by
  refine FnS.run (b := 0) Proofs.Tryz.f277 rfl rfl rfl rfl rfl rfl ?_
  conv=>whnf
  refine CallQ.use [] (f296 h) rfl rfl trivial ?_
  rintro v l' ⟨rfl, rfl⟩
  conv=>whnf
  repeat' (first
      | (refine ⟨fun _=>?_, fun h => absurd h (by decide)⟩
         conv=>whnf)
      | (refine ⟨fun h => absurd h (by decide), fun _=>?_⟩
         conv=>whnf)
      | (refine And.intro (by first | rfl | decide) ?_
         conv=>whnf)
      | fail)
  unfold log2B at hy
  cases hb : FloatKind.f64.format.order (frB x) 4602678819172646912 == some .eq
  · rw [hb] at hy
    obtain ⟨g, h1, hy⟩ := Option.bind_eq_some_iff.1 hy
    obtain ⟨m, h2, h3⟩ := Option.bind_eq_some_iff.1 hy
    refine OpQ.mk _ _ _ (fun o ho => OpX.bin (r := .bool false) (c := .b false) ho rfl rfl rfl rfl rfl (fun w => by rw [binOp_float_cmp_eql, hb]; rfl)) ?_
    conv=>whnf
    repeat' (first
      | (refine ⟨fun _=>?_, fun h => absurd h (by decide)⟩
         conv=>whnf)
      | (refine ⟨fun h => absurd h (by decide), fun _=>?_⟩
         conv=>whnf)
      | (refine And.intro (by first | rfl | decide) ?_
         conv=>whnf)
      | fail)
    refine CallQ.use [] (f297 h1) rfl rfl trivial ?_
    rintro v l' ⟨rfl, rfl⟩
    conv=>whnf
    refine OpQ.mk _ _ _ (fun o ho => OpX.bin (c := fl m) ho rfl rfl rfl rfl rfl (fun w => run_float_arith w .mul _ .f64 g _ m h2)) ?_
    conv=>whnf
    repeat' (first
      | (refine ⟨fun _=>?_, fun h => absurd h (by decide)⟩
         conv=>whnf)
      | (refine ⟨fun h => absurd h (by decide), fun _=>?_⟩
         conv=>whnf)
      | (refine And.intro (by first | rfl | decide) ?_
         conv=>whnf)
      | fail)
    refine OpQ.mk _ _ _ (fun o ho => OpX.conv (c := fl (floatOfInt .f64 (exB x))) ho rfl rfl rfl (fun w => run_convert_int_float w 3 231 .i64 .f64 _ (by decide +kernel) (by rfl))) ?_
    conv=>whnf
    refine OpQ.mk _ _ _ (fun o ho => OpX.bin (c := fl y) ho rfl rfl rfl rfl rfl (fun w => run_float_arith w .add _ .f64 m _ y h3)) ?_
    conv=>whnf
    exact ⟨[], rfl, trivial, rfl, rfl⟩
  · rw [hb] at hy
    refine OpQ.mk _ _ _ (fun o ho => OpX.bin (r := .bool true) (c := .b true) ho rfl rfl rfl rfl rfl (fun w => by rw [binOp_float_cmp_eql, hb]; rfl)) ?_
    conv=>whnf
    repeat' (first
      | (refine ⟨fun _=>?_, fun h => absurd h (by decide)⟩
         conv=>whnf)
      | (refine ⟨fun h => absurd h (by decide), fun _=>?_⟩
         conv=>whnf)
      | (refine And.intro (by first | rfl | decide) ?_
         conv=>whnf)
      | fail)
    refine OpQ.mk _ _ _ (fun o ho => OpX.conv (c := fl y) ho rfl rfl rfl (fun w => by cases hy; exact run_convert_int_float w 3 231 .i64 .f64 _ (by decide +kernel) (by rfl))) ?_
    conv=>whnf
    exact ⟨[], rfl, trivial, rfl, rfl⟩
theorem f202 {x y : Nat} (h : FlOk x) (hy : log2B x = some y) : FnS 202 [.c (fl x)] [] fun v l' => v = .c (fl y) ∧ l' = [] := by
  refine FnS.run (b := 0) Proofs.Tryz.f202 rfl rfl rfl rfl rfl rfl ?_
  conv=>whnf
  repeat' (first
      | (refine ⟨fun _=>?_, fun h => absurd h (by decide)⟩
         conv=>whnf)
      | (refine ⟨fun h => absurd h (by decide), fun _=>?_⟩
         conv=>whnf)
      | (refine And.intro (by first | rfl | decide) ?_
         conv=>whnf)
      | fail)
  refine CallQ.use [] (f277 h hy) rfl rfl trivial ?_
  rintro v l' ⟨rfl, rfl⟩
  conv=>whnf
  exact ⟨[], rfl, trivial, rfl, rfl⟩
theorem f201 {x g : Nat} (h : sv (Extern.MathFloor.toIntegral "math.archFloor" .down #[.float .f64 x]) = some g) : FnS 201 [.c (fl x)] [] fun v l' => v = .c (fl g) ∧ l' = [] := by
  refine FnS.run (b := 0) Proofs.Tryz.f201 rfl rfl rfl rfl rfl rfl ?_
  conv=>whnf
  repeat' (first
      | (refine ⟨fun _=>?_, fun h => absurd h (by decide)⟩
         conv=>whnf)
      | (refine ⟨fun h => absurd h (by decide), fun _=>?_⟩
         conv=>whnf)
      | (refine And.intro (by first | rfl | decide) ?_
         conv=>whnf)
      | fail)
  refine OpQ.mk _ _ _ (fun o ho => OpX.ext (c := fl g) ho rfl rfl rfl (fn := Proofs.Tryz.f274) rfl rfl rfl bits_none.2.2.2 (ex := (Extern.MathFloor.toIntegral "math.archFloor" .down)) rfl fun w => sv_run h w) ?_
  conv=>whnf
  exact ⟨[], rfl, trivial, rfl, rfl⟩
def flB (x : Nat) : Bool := Nat.beq (bits .andNot .u64 (x : Int) 9223372036854775808).toNat x && !(FloatKind.f64.format.order x 0 == some .eq) && !(FloatKind.f64.format.order x 9218868437227405311 == some .gt) && !(FloatKind.f64.format.order x x != some .eq) && !(FloatKind.f64.format.order x 4503599627370496 == some .lt)
theorem flB_ok {x : Nat} (h : flB x = true) : FlOk x := by
  simp only [flB, Bool.and_eq_true, Bool.not_eq_true'] at h
  obtain ⟨⟨⟨⟨h1, h2⟩, h3⟩, h4⟩, h5⟩ := h
  exact ⟨Nat.eq_of_beq_eq_true h1, h2, h3, h4, h5⟩
def ilogOk (n : Int) : Bool := decide (0 < n) && flB (floatOfInt .f64 n) && (match log2B (floatOfInt .f64 n) with | some y => resOk y | none => false)
theorem sl_ok : SL.all (fun s => ilogOk (s * 65536)) = true := by decide +kernel
theorem f162 (s : Int) (hs : s ∈ SL) : FnS 162 [.c (.i .i64 (s * 65536))] [] fun v l' => ∃ r : Int, v = .c (.i .i64 r) ∧ (17 ≤ r ∧ r < 31) ∧ l' = [] := by
  have h := List.all_eq_true.1 sl_ok s hs
  simp only [ilogOk, Bool.and_eq_true, decide_eq_true_eq] at h
  obtain ⟨⟨h0, h1⟩, h2⟩ := h
  have h1 := flB_ok h1
  cases hy : log2B (floatOfInt .f64 (s * 65536)) with
  | none => rw [hy] at h2; cases h2
  | some y =>
  rw [hy] at h2
  have h2 : resOk y = true := h2
  unfold resOk at h2
  cases hr : resB y with
  | none => rw [hr] at h2; cases h2
  | some r =>
  rw [hr] at h2
  have h3 := of_decide_eq_true h2
  obtain ⟨g, h4, h5⟩ := Option.bind_eq_some_iff.1 hr
  refine FnS.run (b := 0) Proofs.Tryz.f162 rfl rfl rfl rfl rfl rfl ?_
  conv=>whnf
  refine ⟨fun h => absurd (of_decide_eq_true h) (by omega), fun _=>?_⟩
  conv=>whnf
  repeat' (first
      | (refine ⟨fun _=>?_, fun h => absurd h (by decide)⟩
         conv=>whnf)
      | (refine ⟨fun h => absurd h (by decide), fun _=>?_⟩
         conv=>whnf)
      | (refine And.intro (by first | rfl | decide) ?_
         conv=>whnf)
      | fail)
  refine OpQ.mk _ _ _ (fun o ho => OpX.conv (c := fl (floatOfInt .f64 (s * 65536))) ho rfl rfl rfl (fun w => run_convert_int_float w 3 231 .i64 .f64 _ (by decide +kernel) (by rfl))) ?_
  conv=>whnf
  refine CallQ.use [] (f202 h1 hy) rfl rfl trivial ?_
  rintro v l' ⟨rfl, rfl⟩
  conv=>whnf
  refine CallQ.use [] (f201 h4) rfl rfl trivial ?_
  rintro v l' ⟨rfl, rfl⟩
  conv=>whnf
  refine OpQ.mk _ _ _ (fun o ho => OpX.conv (c := .i .i64 r) ho rfl rfl rfl (fun w => run_convert_float_int w 231 3 .f64 .i64 _ r (by decide +kernel) (by rfl) h5)) ?_
  conv=>whnf
  exact ⟨[], rfl, trivial, ⟨_, rfl, by rw [IntWalk.i64_in _ (by omega)]; omega, rfl⟩⟩
theorem f110 (sd : Bool) (a : Nat) (q : Nat × Nat) (D : Dec) (Z : Nat → Buf) (bw : Int) (I1 d : Nat) (hd : (bw = 3 ∧ d = 16) ∨ ((bw = 1 ∨ bw = 2) ∧ d = 10)) (hI : I1 < 32) (hres : d ≤ (Z 11).cap) :
    FnS 110 [.c (.p 0 0), .c (.i .i64 d), .c (.i .u8 bw), .c (.sl 11 0 d (Z 11).cap), .c (.i .u32 I1)] (lay [(0, .st (cells sd [] a q D Z)), (11, .ar false .i16 (Z 11).xs), (12, .ar false .i16 (Z 12).xs), (13, .ar false .u64 (Z 13).xs), (14, .ar false .i16 (Z 14).xs)] 38) fun v l' => ∃ (Ba Bb Bc : Buf),
      v = .c (.sl 38 0 d Ba.cap) ∧ l' = lay [(0, .st (cells sd [(12, 38), (13, 39), (14, 40)] a q D (setZ (setZ (setZ Z 12 Ba) 13 Bb) 14 Bc))), (11, .ar false .i16 (Z 11).xs), (38, .ar false .i16 Ba.xs), (39, .ar false .u64 Bb.xs), (40, .ar false .i16 Bc.xs)] 41 ∧ d ≤ Ba.cap ∧ Rg d Ba.xs := by
  have hd16 : 10 ≤ d ∧ d ≤ 16 := by omega
  have h11 := (Z 11).ok
  refine FnS.wpR (b := 38) Proofs.Tryz.f110 rfl rfl rfl rfl rfl rfl ?_
  refine WpN.seq (WpN.vc ?_)
  conv=>whnf
  refine WpN.seq (WpN.vc ?_)
  conv=>whnf
  refine rz153 (m := 37) (j := 12) (n := (d : Int)) _ rfl rfl (fun c => rfl) (by decide) rfl (Z 12).ok (by decide) (by omega) fun Ba hBa _ => ?_
  rw [Int.toNat_natCast] at hBa ⊢
  have hBao := Ba.ok
  conv=>whnf
  refine WpN.seq (WpN.vc ?_)
  conv=>whnf
  refine rz159 (m := 38) (j := 13) (n := (d : Int)) _ rfl rfl (fun c => rfl) (by decide) rfl (Z 13).ok (by decide) (by omega) fun Bb hBb _ => ?_
  rw [Int.toNat_natCast] at hBb ⊢
  have hBbo := Bb.ok
  conv=>whnf
  refine WpN.seq (WpN.vc ?_)
  conv=>whnf
  refine rz153 (m := 39) (j := 14) (n := (d : Int)) _ rfl rfl (fun c => rfl) (by decide) rfl (Z 14).ok (by decide) (by omega) fun Bc hBc _ => ?_
  rw [Int.toNat_natCast] at hBc ⊢
  have hBco := Bc.ok
  conv=>whnf
  refine WpN.seq (WpN.vc ?_)
  conv=>whnf
  refine CallQ.use [] t160 rfl rfl trivial ?_
  rintro v l' ⟨rfl, rfl⟩
  conv=>whnf
  refine WpN.cut (ι := List (List Int)) (fun cb => [(0, .c (.p 0 0)), (1, .c (.i .i64 d)), (3, .c (.sl 11 0 d (Z 11).cap)), (4, .c (.i .u32 I1)), (10, .c (.sl 38 0 d Ba.cap)), (11, .c (.sl 39 0 d Bb.cap)), (12, .c (.sl 40 0 d Bc.cap)), (13, .c (.iss .u64 cb))])
    (fun _=>lay [(0, .st (cells sd [(12, 38), (13, 39), (14, 40)] a q D (setZ (setZ (setZ Z 12 Ba) 13 Bb) 14 Bc))), (11, .ar false .i16 (Z 11).xs), (38, .ar false .i16 Ba.xs), (39, .ar false .u64 Bb.xs), (40, .ar false .i16 Bc.xs)] 41)
    (fun cb => cb.length = 32 ∧ ∀ i : Nat, i < 32 → (cb.getD i []).length = d ∧ ∀ k : Nat, k < d → cbOk (cb.getD i []) d k = true) (WpN.vc ?_) ?_
  · conv=>whnf
    refine ⟨fun h3 => ?_, fun h3 => ?_⟩
    · have h3 : bw = 3 := by simpa using h3
      have hd : d = 16 := by omega
      subst hd
      conv=>whnf
      refine CallQ.use [] t161 rfl rfl trivial ?_
      rintro v l' ⟨rfl, rfl⟩
      conv=>whnf
      exact ⟨T161, t161_ok, Rel.lay [] (by cases sd <;> kernel_rfl) (by repeat constructor) (by cases sd <;> repeat constructor)⟩
    · have h3 : bw ≠ 3 := by simpa using h3
      have hd : d = 10 := by omega
      subst hd
      conv=>whnf
      exact ⟨T160, t160_ok, Rel.lay [] (by cases sd <;> kernel_rfl) (by repeat constructor) (by cases sd <;> repeat constructor)⟩
  rintro cb ⟨hcb, hcr⟩
  obtain ⟨hrl, hrk⟩ := hcr I1 hI
  generalize hrow : cb.getD I1 [] = row at hrl hrk
  refine WpN.cut (ι := List Int × List Int × List Int) (fun x => [(10, .c (.sl 38 0 d Ba.cap))])
    (fun x => lay [(0, .st (cells sd [(12, 38), (13, 39), (14, 40)] a q D (setZ (setZ (setZ Z 12 Ba) 13 Bb) 14 Bc))), (11, .ar false .i16 (Z 11).xs), (38, .ar false .i16 x.1), (39, .ar false .u64 x.2.1), (40, .ar false .i16 x.2.2)] 41)
    (fun x => (x.1.length = Ba.xs.length ∧ x.2.1.length = Bb.xs.length ∧ x.2.2.length = Bc.xs.length) ∧ Rg d x.1) (WpN.vc ?_) ?_
  · conv=>whnf
    refine WpS.loop (ι := Int × List Int × List Int × List Int) (fun x => mkSt [(0, .c (.p 0 0)), (1, .c (.i .i64 d)), (3, .c (.sl 11 0 d (Z 11).cap)), (4, .c (.i .u32 I1)), (10, .c (.sl 38 0 d Ba.cap)), (11, .c (.sl 39 0 d Bb.cap)), (12, .c (.sl 40 0 d Bc.cap)), (13, .c (.iss .u64 cb)), (39, .c (.i .i64 d)), (40, .c (.i .i64 x.1))]
      (lay [(0, .st (cells sd [(12, 38), (13, 39), (14, 40)] a q D (setZ (setZ (setZ Z 12 Ba) 13 Bb) 14 Bc))), (11, .ar false .i16 (Z 11).xs), (38, .ar false .i16 x.2.1), (39, .ar false .u64 x.2.2.1), (40, .ar false .i16 x.2.2.2)] 41) 154)
      (fun x => (0 ≤ x.1 ∧ x.1 ≤ d) ∧ x.2.1.length = Ba.xs.length ∧ x.2.2.1.length = Bb.xs.length ∧ x.2.2.2.length = Bc.xs.length ∧ (∀ i : Nat, (i : Int) < x.1 → -32768 ≤ x.2.1.getD i 0 ∧ x.2.1.getD i 0 ≤ 32767)) (fun x => (d - x.1).toNat) (0, Ba.xs, Bb.xs, Bc.xs) ⟨⟨Int.le_refl 0, by dsimp only; omega⟩, rfl, rfl, rfl, fun i hi => by dsimp only at hi; omega⟩
      (Rel.lay [] (by cases sd <;> kernel_rfl) (by repeat constructor) (by cases sd <;> repeat constructor)) ?_
    rintro ⟨k, xs, ys, zs⟩ ⟨hk, hxl, hyl, hzl, hrg⟩
    dsimp only at hk hxl hyl hzl hrg ⊢
    refine WpN.toS (WpN.seq (WpN.vc ?_))
    conv=>whnf
    refine WpN.seq (WpN.vc ?_)
    conv=>whnf
    refine ⟨fun hc => ?_, fun hc => ?_⟩
    · have hc := of_decide_eq_true hc
      obtain ⟨j, rfl⟩ := Int.eq_ofNat_of_zero_le hk.1
      have hj : j < d := by omega
      have e1 : IntKind.i64.wrap ((j : Int) + 1) = j + 1 := IntWalk.i64_in _ (by omega)
      have hok := hrk j hj
      simp only [cbOk, Bool.and_eq_true, decide_eq_true_eq, List.contains_iff_mem] at hok
      obtain ⟨⟨⟨⟨o1, o2⟩, o3⟩, o4⟩, o5⟩ := hok
      have o6 := SL_in _ o5
      have erow : cb.getD (Int.toNat (I1 : Int)) [] = row := hrow
      conv=>whnf
      refine WpN.seq (WpN.block (WpN.seq (WpN.vc ?_)))
      conv=>whnf
      refine WpN.seq (WpN.vc ?_)
      conv=>whnf
      refine WpN.cut (ι := Int) (fun p => [(0, .c (.p 0 0)), (1, .c (.i .i64 d)), (3, .c (.sl 11 0 d (Z 11).cap)), (4, .c (.i .u32 I1)), (10, .c (.sl 38 0 d Ba.cap)), (11, .c (.sl 39 0 d Bb.cap)), (12, .c (.sl 40 0 d Bc.cap)), (13, .c (.iss .u64 cb)), (39, .c (.i .i64 d)), (40, .c (.i .i64 j)), (14, .c (.i .i64 j)), (15, .c (.i .u64 p)), (16, .c (.i .u64 256))])
        (fun _=>lay [(0, .st (cells sd [(12, 38), (13, 39), (14, 40)] a q D (setZ (setZ (setZ Z 12 Ba) 13 Bb) 14 Bc))), (11, .ar false .i16 (Z 11).xs), (38, .ar false .i16 xs), (39, .ar false .u64 ys), (40, .ar false .i16 zs)] 41) (fun p => p = cbP row j) (WpN.vc ?_) ?_
      · conv=>whnf
        refine ⟨fun h0 => ?_, fun h0 => ?_⟩
        · have h0 : (j : Int) ≠ 0 := by simpa using h0
          obtain ⟨j, rfl⟩ : ∃ i, j = i + 1 := ⟨j - 1, by omega⟩
          have e2 : IntKind.i64.wrap (((j + 1 : Nat) : Int) - 1) = j := by rw [IntWalk.i64_in _ (by omega)]; omega
          conv=>whnf
          refine ⟨by rw [hcb]; omega, ?_⟩
          rw [erow]
          conv=>whnf
          refine ⟨by rw [e2, hrl]; omega, ?_⟩
          rw [e2]
          conv=>whnf
          exact ⟨cbP row (j + 1), rfl, Rel.lay [] (by cases sd <;> kernel_rfl) (by repeat constructor) (by cases sd <;> repeat constructor)⟩
        · have h0 : (j : Int) = 0 := by simpa using h0
          obtain rfl : j = 0 := by omega
          conv=>whnf
          exact ⟨cbP row 0, rfl, Rel.lay [] (by cases sd <;> kernel_rfl) (by repeat constructor) (by cases sd <;> repeat constructor)⟩
      rintro _ rfl
      refine WpN.cut (ι := Int) (fun n => [(0, .c (.p 0 0)), (1, .c (.i .i64 d)), (3, .c (.sl 11 0 d (Z 11).cap)), (4, .c (.i .u32 I1)), (10, .c (.sl 38 0 d Ba.cap)), (11, .c (.sl 39 0 d Bb.cap)), (12, .c (.sl 40 0 d Bc.cap)), (13, .c (.iss .u64 cb)), (39, .c (.i .i64 d)), (40, .c (.i .i64 j)), (14, .c (.i .i64 j)), (15, .c (.i .u64 (cbP row j))), (16, .c (.i .u64 n))])
        (fun _=>lay [(0, .st (cells sd [(12, 38), (13, 39), (14, 40)] a q D (setZ (setZ (setZ Z 12 Ba) 13 Bb) 14 Bc))), (11, .ar false .i16 (Z 11).xs), (38, .ar false .i16 xs), (39, .ar false .u64 ys), (40, .ar false .i16 zs)] 41) (fun n => n = cbN row d j) (WpN.vc ?_) ?_
      · conv=>whnf
        rw [e1]
        refine ⟨fun h0 => ?_, fun h0 => ?_⟩
        · have h0 : (j : Int) + 1 ≠ d := by simpa using h0
          conv=>whnf
          refine ⟨by rw [hcb]; omega, ?_⟩
          rw [erow]
          conv=>whnf
          rw [e1]
          refine ⟨by rw [hrl]; omega, ?_⟩
          conv=>whnf
          exact ⟨_, by unfold cbN; rw [if_neg (by omega)], Rel.lay [] (by cases sd <;> kernel_rfl) (by repeat constructor) (by cases sd <;> repeat constructor)⟩
        · have h0 : (j : Int) + 1 = d := by simpa using h0
          conv=>whnf
          exact ⟨256, by unfold cbN; rw [if_pos (by omega)], Rel.lay [] (by cases sd <;> kernel_rfl) (by repeat constructor) (by cases sd <;> repeat constructor)⟩
      rintro _ rfl
      refine WpN.seq (WpN.vc ?_)
      conv=>whnf
      refine .inl ⟨by kernel_rfl, ?_⟩
      conv=>whnf
      have ej : (row.getD (Int.toNat (j : Int)) 0) = row.getD j 0 := rfl
      have o7 : 0 ≤ cbP row j := o1
      have q1 : IntKind.u64.wrap (row.getD (Int.toNat (j : Int)) 0 - cbP row j) = row.getD j 0 - cbP row j := IntWalk.u64_in _ (by omega)
      have q2 : IntKind.u64.wrap (cbN row d j - row.getD (Int.toNat (j : Int)) 0) = cbN row d j - row.getD j 0 := IntWalk.u64_in _ (by omega)
      refine ⟨by rw [hcb]; omega, ?_⟩
      rw [erow]
      conv=>whnf
      refine ⟨by rw [hrl]; omega, ?_⟩
      conv=>whnf
      refine ⟨by rw [q1]; omega, ?_⟩
      conv=>whnf
      refine ⟨by rw [hcb]; omega, ?_⟩
      rw [erow]
      conv=>whnf
      refine ⟨by rw [hrl]; omega, ?_⟩
      conv=>whnf
      refine ⟨by rw [q2]; omega, ?_⟩
      rw [q1, q2]
      have q3 : IntKind.u64.wrap (Int.tdiv 1024 (row.getD j 0 - cbP row j)) = 1024 / (row.getD j 0 - cbP row j) := by
        rw [Int.tdiv_eq_ediv_of_nonneg (by decide)]
        have := Int.ediv_le_self (b := row.getD j 0 - cbP row j) (a := 1024) (by decide)
        have h0 : 0 ≤ 1024 / (row.getD j 0 - cbP row j) := Int.ediv_nonneg (by decide) (by omega)
        exact IntWalk.u64_in _ (by omega)
      have q4 : IntKind.u64.wrap (Int.tdiv 1024 (cbN row d j - row.getD j 0)) = 1024 / (cbN row d j - row.getD j 0) := by
        rw [Int.tdiv_eq_ediv_of_nonneg (by decide)]
        have := Int.ediv_le_self (b := cbN row d j - row.getD j 0) (a := 1024) (by decide)
        have h0 : 0 ≤ 1024 / (cbN row d j - row.getD j 0) := Int.ediv_nonneg (by decide) (by omega)
        exact IntWalk.u64_in _ (by omega)
      rw [q3, q4]
      conv=>whnf
      generalize 1024 / (row.getD j 0 - cbP row j) + 1024 / (cbN row d j - row.getD j 0) = sm at o5 o6
      have q5 : IntKind.u64.wrap sm = sm := IntWalk.u64_in _ (by omega)
      rw [q5]
      have q6 : (2 : Int) ^ min (Int.toNat 16) IntKind.u64.bits = 65536 := by decide
      have q7 : IntKind.u64.wrap (sm * 65536) = sm * 65536 := IntWalk.u64_in _ (by omega)
      have q8 : IntKind.i64.wrap (sm * 65536) = sm * 65536 := IntWalk.i64_in _ (by omega)
      refine ⟨by decide, ?_⟩
      rw [q6, q7]
      conv=>whnf
      refine ⟨by omega, ?_⟩
      conv=>whnf
      refine ⟨by omega, ?_⟩
      conv=>whnf
      have hyl2 : 0 + Int.toNat (j : Int) < (ys.set (0 + Int.toNat (j : Int)) (sm * 65536)).length := by rw [List.length_set]; omega
      refine WpN.seq (WpN.vc ?_)
      conv=>whnf
      refine ⟨by omega, ?_⟩
      conv=>whnf
      refine ⟨hyl2, ?_⟩
      rw [getD_set_self (by omega)]
      conv=>whnf
      rw [q8]
      refine CallQ.use [] (f162 _ o5) rfl rfl trivial ?_
      rintro v l' ⟨r, rfl, hr, rfl⟩
      have r1 : IntKind.i64.wrap (r - 8) = r - 8 := IntWalk.i64_in _ (by omega)
      obtain ⟨rn, rfl⟩ : ∃ n : Nat, r = n + 17 := ⟨(r - 17).toNat, by omega⟩
      obtain ⟨w1, w2⟩ := w_all rn (by omega)
      conv=>whnf
      refine WpN.seq (WpN.vc ?_)
      conv=>whnf
      refine ⟨by omega, ?_⟩
      conv=>whnf
      refine ⟨hyl2, ?_⟩
      rw [getD_set_self (by omega)]
      conv=>whnf
      refine ⟨by rw [r1]; omega, ?_⟩
      rw [r1]
      generalize (sm * 65536).fdiv _ = fx
      conv=>whnf
      have f1 := and_mask .u64 fx 127 (by decide) (by decide)
      generalize bits .and .u64 fx 127 = f at f1
      have f2 : IntKind.i64.wrap f = f := IntWalk.i64_in _ (by omega)
      rw [f2]
      obtain ⟨fn, rfl⟩ := Int.eq_ofNat_of_zero_le f1.1
      have w3 := w2 fn (by omega)
      refine WpN.seq (WpN.vc ?_)
      conv=>whnf
      have hyl3 : (ys.set (0 + Int.toNat (j : Int)) (sm * 65536)).length = Bb.xs.length := by rw [List.length_set]; exact hyl
      generalize ys.set (0 + Int.toNat (j : Int)) (sm * 65536) = ys2 at hyl2 hyl3
      refine WpN.cut (ι := Int) (fun Y => [(0, .c (.p 0 0)), (1, .c (.i .i64 d)), (3, .c (.sl 11 0 d (Z 11).cap)), (4, .c (.i .u32 I1)), (10, .c (.sl 38 0 d Ba.cap)), (11, .c (.sl 39 0 d Bb.cap)), (12, .c (.sl 40 0 d Bc.cap)), (13, .c (.iss .u64 cb)), (39, .c (.i .i64 d)), (40, .c (.i .i64 j)), (14, .c (.i .i64 j)), (17, .c (.i .i64 (rn + 17))), (18, .c (.i .i64 fn)), (19, .c (.i .i64 Y))])
        (fun _=>lay [(0, .st (cells sd [(12, 38), (13, 39), (14, 40)] a q D (setZ (setZ (setZ Z 12 Ba) 13 Bb) 14 Bc))), (11, .ar false .i16 (Z 11).xs), (38, .ar false .i16 xs), (39, .ar false .u64 ys2), (40, .ar false .i16 zs)] 41) (fun Y => Y = 46214 ∨ Y = 32768) (WpN.vc ?_) ?_
      · conv=>whnf
        refine ⟨fun _=>?_, fun _=>?_⟩
        · conv=>whnf
          exact ⟨32768, .inr rfl, Rel.lay [] (by cases sd <;> kernel_rfl) (by repeat constructor) (by cases sd <;> repeat constructor)⟩
        · conv=>whnf
          exact ⟨46214, .inl rfl, Rel.lay [] (by cases sd <;> kernel_rfl) (by repeat constructor) (by cases sd <;> repeat constructor)⟩
      rintro Y hY
      have w4 : wOf Y ((rn : Int) + 17) fn ≠ 0 := by rcases hY with rfl | rfl; exact w3.1; exact w3.2
      refine WpN.vc ?_
      conv=>whnf
      refine ⟨by decide, ?_⟩
      conv=>whnf
      refine ⟨w1, ?_⟩
      conv=>whnf
      refine ⟨by decide, ?_⟩
      conv=>whnf
      refine ⟨by omega, ?_⟩
      conv=>whnf
      refine ⟨by omega, ?_⟩
      conv=>whnf
      generalize hzs : zs.set (0 + Int.toNat (j : Int)) (wOf Y ((rn : Int) + 17) fn) = zs2
      have hzl2 : zs2.length = zs.length := by rw [← hzs]; exact List.length_set
      have hzv : zs2.getD (0 + Int.toNat (j : Int)) 0 = wOf Y ((rn : Int) + 17) fn := by rw [← hzs]; exact getD_set_self (by omega)
      have hw16 : IntKind.i64.wrap (wOf Y ((rn : Int) + 17) fn) = wOf Y ((rn : Int) + 17) fn := by
        have : -32768 ≤ wOf Y ((rn : Int) + 17) fn ∧ wOf Y ((rn : Int) + 17) fn ≤ 32767 := wrap_within .i16 _
        exact IntWalk.i64_in _ (by omega)
      refine .inr (WpS.draw [0, 0, 0, 0, 0, 0, 0, 0, 0, 0, 0, 0, 0, 0, 1, 0, 0, 0, 0, 0, 1, 0, 0, 0, 0, 2, 0, 0, 3] (fun st2 => st2 11 = some (.ar false .i16 (Z 11).xs) ∧ st2 40 = some (.ar false .i16 zs2)) (by kernel_rfl) ?_)
      conv=>whnf
      refine ⟨by rw [hcb]; omega, ?_⟩
      rw [erow]
      conv=>whnf
      refine ⟨by rw [hrl]; omega, ?_⟩
      conv=>whnf
      refine ⟨by decide, ?_⟩
      conv=>whnf
      refine ⟨by omega, ?_⟩
      conv=>whnf
      refine ⟨.c (.i .i16 ((Z 11).xs.getD (0 + Int.toNat (j : Int)) 0)), ⟨⟨rfl, by rw [← hzs]; rfl⟩, fun st2 h2 => ⟨_, h2.1, .inr ⟨_, rfl, by omega⟩⟩⟩, ?_⟩
      conv=>whnf
      refine ⟨by decide, ?_⟩
      conv=>whnf
      refine ⟨by omega, ?_⟩
      conv=>whnf
      refine ⟨.c (.i .i16 (zs2.getD (0 + Int.toNat (j : Int)) 0)), ⟨⟨rfl, by rw [← hzs]; rfl⟩, fun st2 h2 => ⟨_, h2.2, .inr ⟨_, rfl, by omega⟩⟩⟩, ?_⟩
      rw [hzv]
      conv=>whnf
      rw [hw16]
      refine ⟨w4, ?_⟩
      conv=>whnf
      refine ⟨⟨rfl, by rw [← hzs]; rfl⟩, ?_⟩
      refine CallQ.use [] (f143 _ _ _) rfl rfl trivial ?_
      rintro v l' ⟨rfl, rfl⟩
      generalize clampI _ _ _ = cl
      refine ⟨⟨rfl, by rw [← hzs]; rfl⟩, ?_⟩
      conv=>whnf
      refine ⟨by omega, ?_⟩
      conv=>whnf
      refine ⟨by omega, ?_⟩
      conv=>whnf
      refine ⟨rfl, ?_⟩
      conv=>whnf
      refine WpN.vc ?_
      conv=>whnf
      refine ⟨(IntKind.i64.wrap ((j : Int) + 1), xs.set (0 + Int.toNat (j : Int)) (IntKind.i16.wrap cl), ys2, zs2), ⟨by dsimp only; omega, by simpa using hxl, hyl3, by rw [hzl2]; exact hzl, ?_⟩, by dsimp only; omega, ?_⟩
      · dsimp only
        rw [e1]
        intro i hi
        have hl0 : 0 + Int.toNat (j : Int) = j := by simp
        rw [hl0, getD_set (by omega)]
        split
        · exact wrap_within .i16 cl
        · exact hrg i (by omega)
      rw [← hzs]
      exact Rel.lay [] (by cases sd <;> kernel_rfl) (by repeat constructor) (by cases sd <;> repeat constructor)
    · have hc := of_decide_eq_false hc
      conv=>whnf
      refine ⟨rfl, ?_⟩
      conv=>whnf
      exact ⟨(xs, ys, zs), ⟨⟨hxl, hyl, hzl⟩, fun i hi => hrg i (by omega)⟩, Rel.lay [] (by cases sd <;> kernel_rfl) (by repeat constructor) (by cases sd <;> repeat constructor)⟩
  rintro ⟨xs, ys, zs⟩ ⟨⟨hxl, hyl, hzl⟩, hrg⟩
  dsimp only at hxl hyl hzl hrg ⊢
  refine WpN.vc ?_
  conv=>whnf
  refine ⟨[], .c (.sl 38 0 d Ba.cap), lay [(0, .st (cells sd [(12, 38), (13, 39), (14, 40)] a q D (setZ (setZ (setZ Z 12 ⟨Ba.cap, xs, Ba.ys, by omega, Ba.okb⟩) 13 ⟨Bb.cap, ys, Bb.ys, by omega, Bb.okb⟩) 14 ⟨Bc.cap, zs, Bc.ys, by omega, Bc.okb⟩))), (11, .ar false .i16 (Z 11).xs), (38, .ar false .i16 xs), (39, .ar false .u64 ys), (40, .ar false .i16 zs)] 41, rfl, by cases sd <;> kernel_rfl, stEq_lay (by cases sd <;> repeat constructor) 41 0, ?_⟩
  exact ⟨⟨Ba.cap, xs, Ba.ys, by omega, Ba.okb⟩, ⟨Bb.cap, ys, Bb.ys, by omega, Bb.okb⟩, ⟨Bc.cap, zs, Bc.ys, by omega, Bc.okb⟩, rfl, rfl, hBa, hrg⟩
end Go.SX
