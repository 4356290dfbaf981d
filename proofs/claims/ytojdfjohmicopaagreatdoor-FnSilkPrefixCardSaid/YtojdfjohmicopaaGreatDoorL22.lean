/- A part of the proof: the SILK decoder of the given program, walked by an executor that is proved sound. No statement of the program is proved in this text. -/
import Derived.Test.YtojdfjohmicopaaGreatDoorL13
import Derived.Test.YtojdfjohmicopaaGreatDoorL21
set_option linter.all false
set_option maxRecDepth 100000
namespace Go.SX
open Go
theorem t148_ok : T148.length = 32 ∧ ∀ i : Nat, i < 32 → (T148.getD i []).length = 16 ∧ ∀ j : Nat, j < 16 → 0 ≤ (T148.getD i []).getD j 0 ∧ (T148.getD i []).getD j 0 < 16 := by decide +kernel
theorem t149_ok : T149.length = 32 ∧ ∀ i : Nat, i < 32 → (T149.getD i []).length = 10 ∧ ∀ j : Nat, j < 10 → 0 ≤ (T149.getD i []).getD j 0 ∧ (T149.getD i []).getD j 0 < 16 := by decide +kernel
theorem t151_ok : T151.length = 16 ∧ ∀ i : Nat, i < 16 → icdfOk (T151.getD i []) = true := by decide +kernel
theorem t154_ok : T154.length = 32 ∧ ∀ i : Nat, i < 32 → (T154.getD i []).length = 15 ∧ ∀ j : Nat, j < 15 → 0 ≤ (T154.getD i []).getD j 0 ∧ (T154.getD i []).getD j 0 < 2 := by decide +kernel
theorem t156_ok : T156.length = 32 ∧ ∀ i : Nat, i < 32 → (T156.getD i []).length = 9 ∧ ∀ j : Nat, j < 9 → 0 ≤ (T156.getD i []).getD j 0 ∧ (T156.getD i []).getD j 0 < 2 := by decide +kernel
theorem t155_ok : T155.length = 2 ∧ ∀ i : Nat, i < 2 → (T155.getD i []).length = 15 := by decide +kernel
theorem t157_ok : T157.length = 2 ∧ ∀ i : Nat, i < 2 → (T157.getD i []).length = 9 := by decide +kernel
theorem f109 (sd : Bool) (a : Nat) (q : Nat × Nat) (D : Dec) (Z : Nat → Buf) (bw : Int) (I1 d : Nat) (hD : D.Ok) (hd : (bw = 3 ∧ d = 16) ∨ ((bw = 1 ∨ bw = 2) ∧ d = 10)) (hI : I1 < 32) :
    FnS 109 [.c (.p 0 0), .c (.i .u8 bw), .c (.i .u32 I1)] (lay [(0, .st (cells sd [] a q D Z)), (10, .ar false .i8 (Z 10).xs), (11, .ar false .i16 (Z 11).xs)] 38) fun v l' => ∃ (D' : Dec) (Ba Bb : Buf),
      v = .tu [.c (.i .i64 d), .c (.sl 39 0 d Bb.cap)] ∧ l' = lay [(0, .st (cells sd [(10, 38), (11, 39)] a q D' (setZ (setZ Z 10 Ba) 11 Bb))), (38, .ar false .i8 Ba.xs), (39, .ar false .i16 Bb.xs)] 40 ∧ D'.Ok ∧ d ≤ Bb.cap := by
  have hd16 : d ≤ 16 := by omega
  refine FnS.wpR (b := 38) Proofs.Tryz.f109 rfl rfl rfl rfl rfl rfl ?_
  refine WpN.seq (WpN.vc ?_)
  conv=>whnf
  refine WpN.seq (WpN.vc ?_)
  conv=>whnf
  refine WpN.cut (ι := List (List Int)) (fun cb => [(0, .c (.p 0 0)), (1, .c (.i .u8 bw)), (2, .c (.i .u32 I1)), (8, .c (.iss .u64 cb))])
    (fun _=>lay [(0, .st (cells sd [] a q D Z)), (10, .ar false .i8 (Z 10).xs), (11, .ar false .i16 (Z 11).xs)] 38)
    (fun cb => cb.length = 32 ∧ ∀ i : Nat, i < 32 → (cb.getD i []).length = d ∧ ∀ j : Nat, j < d → 0 ≤ (cb.getD i []).getD j 0 ∧ (cb.getD i []).getD j 0 < 16) (WpN.vc ?_) ?_
  · conv=>whnf
    refine ⟨fun h3 => ?_, fun h3 => ?_⟩
    · have h3 : bw = 3 := by simpa using h3
      have hd : d = 16 := by omega
      subst hd
      conv=>whnf
      refine CallQ.use [] t148 rfl rfl trivial ?_
      rintro v l' ⟨rfl, rfl⟩
      conv=>whnf
      exact ⟨T148, t148_ok, Rel.lay [] (by cases sd <;> kernel_rfl) (by repeat constructor) (by cases sd <;> repeat constructor)⟩
    · have h3 : bw ≠ 3 := by simpa using h3
      have hd : d = 10 := by omega
      subst hd
      conv=>whnf
      refine CallQ.use [] t149 rfl rfl trivial ?_
      rintro v l' ⟨rfl, rfl⟩
      conv=>whnf
      exact ⟨T149, t149_ok, Rel.lay [] (by cases sd <;> kernel_rfl) (by repeat constructor) (by cases sd <;> repeat constructor)⟩
  rintro cb ⟨hcb, hcr⟩
  have hrow0 : (cb.getD (Int.toNat 0) []).length = d := (hcr 0 (by decide)).1
  refine WpN.seq (WpN.vc ?_)
  conv=>whnf
  refine .inl ⟨by kernel_rfl, ?_⟩
  conv=>whnf
  refine ⟨by rw [hcb]; decide, ?_⟩
  conv=>whnf
  rw [hrow0]
  refine rz150 (m := 37) (j := 10) (n := (d : Int)) _ rfl rfl (fun c => rfl) (by decide) rfl (Z 10).ok (by decide) (by omega) fun Ba hBa _ => ?_
  rw [Int.toNat_natCast] at hBa
  rw [Int.toNat_natCast]
  conv=>whnf
  have hBao := Ba.ok
  refine WpN.cut (ι := Dec × List Int) (fun _=>[(0, .c (.p 0 0)), (1, .c (.i .u8 bw)), (2, .c (.i .u32 I1)), (9, .c (.sl 38 0 d Ba.cap))])
    (fun x => lay [(0, .st (cells sd [(10, 38)] a q x.1 (setZ Z 10 Ba))), (11, .ar false .i16 (Z 11).xs), (38, .ar false .i8 x.2)] 39)
    (fun x => x.1.Ok ∧ x.2.length = Ba.xs.length) (WpN.vc ?_) ?_
  · conv=>whnf
    refine WpS.loop (ι := Int × Dec × List Int) (fun x => mkSt [(0, .c (.p 0 0)), (1, .c (.i .u8 bw)), (2, .c (.i .u32 I1)), (8, .c (.iss .u64 cb)), (9, .c (.sl 38 0 d Ba.cap)), (31, .c (.i .i64 d)), (32, .c (.i .i64 x.1))]
      (lay [(0, .st (cells sd [(10, 38)] a q x.2.1 (setZ Z 10 Ba))), (11, .ar false .i16 (Z 11).xs), (38, .ar false .i8 x.2.2)] 39) 176)
      (fun x => (0 ≤ x.1 ∧ x.1 ≤ d) ∧ x.2.1.Ok ∧ x.2.2.length = Ba.xs.length) (fun x => (d - x.1).toNat) (0, D, Ba.xs) ⟨⟨Int.le_refl 0, by dsimp only; omega⟩, hD, rfl⟩
      (Rel.lay [] (by cases sd <;> kernel_rfl) (by repeat constructor) (by cases sd <;> repeat constructor)) ?_
    clear hD
    rintro ⟨i, D, xs⟩ ⟨hi, hD, hxl⟩
    dsimp only at hi hD hxl ⊢
    refine WpN.toS (WpN.vc ?_)
    conv=>whnf
    refine ⟨fun hc => ?_, fun hc => ?_⟩
    · have hc := of_decide_eq_true hc
      have e1 : IntKind.i64.wrap (i + 1) = i + 1 := IntWalk.i64_in _ (by omega)
      have hent := (hcr I1 hI).2 i.toNat (by omega)
      conv=>whnf
      refine .inr (WpS.draw [0, 0, 0, 0, 0, 3, 0, 0, 0, 0, 0, 0, 0, 0, 0, 3, 0, 0, 0, 3] (fun _=>True) (by kernel_rfl) ?_)
      conv=>whnf
      refine CallQ.use [] t151 rfl rfl trivial ?_
      rintro v l' ⟨rfl, rfl⟩
      conv=>whnf
      refine ⟨by rw [hcb]; omega, ?_⟩
      conv=>whnf
      have e2 : (cb.getD (Int.toNat (I1 : Int)) []).length = d := (hcr I1 hI).1
      refine ⟨by rw [e2]; omega, ?_⟩
      conv=>whnf
      have hent' : 0 ≤ (cb.getD (Int.toNat (I1 : Int)) []).getD i.toNat 0 ∧ (cb.getD (Int.toNat (I1 : Int)) []).getD i.toNat 0 < 16 := hent
      refine ⟨by rw [t151_ok.1]; omega, ?_⟩
      conv=>whnf
      generalize (cb.getD (Int.toNat (I1 : Int)) []).getD i.toNat 0 = e at hent'
      refine CallQ.use0 (f56r _ _ _ _ _ _ (T151.getD e.toNat []) _ hD.rc (t151_ok.2 _ (by omega))) (by rfl) ?_
      rintro v b' ⟨k, b, n', s, h, rfl, hk, hr, rfl⟩
      conv=>whnf
      refine ⟨by omega, ?_⟩
      conv=>whnf
      refine ⟨by omega, ?_⟩
      generalize IntKind.i8.wrap (IntKind.i8.wrap (k : Int) - 4) = v1
      conv=>whnf
      refine ⟨rfl, ?_⟩
      conv=>whnf
      refine ⟨by omega, ?_⟩
      conv=>whnf
      have hlen : 0 + i.toNat < (xs.set (0 + i.toNat) v1).length := by rw [List.length_set]; omega
      have hxl1 : (xs.set (0 + i.toNat) v1).length = xs.length := List.length_set
      refine ⟨hlen, ?_⟩
      conv=>whnf
      refine ⟨fun _=>?_, fun _=>?_⟩
      · conv=>whnf
        refine .inr (WpS.draw [0, 0, 0, 1, 0, 0, 0, 2, 2, 0, 0, 0, 3] (fun st2 => st2 38 = some (.ar false .i8 (xs.set (0 + i.toNat) v1))) (by kernel_rfl) ?_)
        conv=>whnf
        refine ⟨by omega, ?_⟩
        conv=>whnf
        refine ⟨.c (.i .i8 ((xs.set (0 + i.toNat) v1).getD (0 + i.toNat) 0)), ⟨rfl, fun st2 h2 => ⟨_, h2, .inr ⟨_, rfl, hlen⟩⟩⟩, ?_⟩
        conv=>whnf
        refine ⟨rfl, ?_⟩
        refine CallQ.use [] t152 rfl rfl trivial ?_
        rintro v l' ⟨rfl, rfl⟩
        refine ⟨rfl, ?_⟩
        conv=>whnf
        refine ⟨rfl, ?_⟩
        refine CallQ.use0 (f56 _ _ _ _ _ _ 256 _ _ hr (by kernel_rfl)) (by rfl) ?_
        rintro v b' ⟨k2, b2, n2, s2, h2, rfl, hk2, hr2, rfl⟩
        refine ⟨rfl, ?_⟩
        conv=>whnf
        refine ⟨by omega, ?_⟩
        conv=>whnf
        refine ⟨hlen, ?_⟩
        conv=>whnf
        refine ⟨rfl, ?_⟩
        conv=>whnf
        exact ⟨(IntKind.i64.wrap (i + 1), { D with b := b2, n := n2, s := s2, h := h2 }, (xs.set (0 + i.toNat) v1).set (0 + i.toNat) (IntKind.i8.wrap ((xs.set (0 + i.toNat) v1).getD (0 + i.toNat) 0 - IntKind.i8.wrap (k2 : Int)))), ⟨by dsimp only; omega, ⟨hr2, hD.gain⟩, by simpa using hxl⟩, by dsimp only; omega, Rel.lay [] (by cases sd <;> kernel_rfl) (by repeat constructor) (by cases sd <;> repeat constructor)⟩
      · conv=>whnf
        refine ⟨by omega, ?_⟩
        conv=>whnf
        refine ⟨hlen, ?_⟩
        conv=>whnf
        refine ⟨fun _=>?_, fun _=>?_⟩
        · conv=>whnf
          refine .inr (WpS.draw [0, 0, 0, 1, 0, 0, 0, 2, 2, 0, 0, 0, 3] (fun st2 => st2 38 = some (.ar false .i8 (xs.set (0 + i.toNat) v1))) (by kernel_rfl) ?_)
          conv=>whnf
          refine ⟨by omega, ?_⟩
          conv=>whnf
          refine ⟨.c (.i .i8 ((xs.set (0 + i.toNat) v1).getD (0 + i.toNat) 0)), ⟨rfl, fun st2 h2 => ⟨_, h2, .inr ⟨_, rfl, hlen⟩⟩⟩, ?_⟩
          conv=>whnf
          refine ⟨rfl, ?_⟩
          refine CallQ.use [] t152 rfl rfl trivial ?_
          rintro v l' ⟨rfl, rfl⟩
          refine ⟨rfl, ?_⟩
          conv=>whnf
          refine ⟨rfl, ?_⟩
          refine CallQ.use0 (f56 _ _ _ _ _ _ 256 _ _ hr (by kernel_rfl)) (by rfl) ?_
          rintro v b' ⟨k2, b2, n2, s2, h2, rfl, hk2, hr2, rfl⟩
          refine ⟨rfl, ?_⟩
          conv=>whnf
          refine ⟨by omega, ?_⟩
          conv=>whnf
          refine ⟨hlen, ?_⟩
          conv=>whnf
          refine ⟨rfl, ?_⟩
          conv=>whnf
          exact ⟨(IntKind.i64.wrap (i + 1), { D with b := b2, n := n2, s := s2, h := h2 }, (xs.set (0 + i.toNat) v1).set (0 + i.toNat) (IntKind.i8.wrap ((xs.set (0 + i.toNat) v1).getD (0 + i.toNat) 0 + IntKind.i8.wrap (k2 : Int)))), ⟨by dsimp only; omega, ⟨hr2, hD.gain⟩, by simpa using hxl⟩, by dsimp only; omega, Rel.lay [] (by cases sd <;> kernel_rfl) (by repeat constructor) (by cases sd <;> repeat constructor)⟩
        · conv=>whnf
          exact ⟨(IntKind.i64.wrap (i + 1), { D with b := b, n := n', s := s, h := h }, xs.set (0 + i.toNat) v1), ⟨by dsimp only; omega, ⟨hr, hD.gain⟩, by simpa using hxl⟩, by dsimp only; omega, Rel.lay [] (by cases sd <;> kernel_rfl) (by repeat constructor) (by cases sd <;> repeat constructor)⟩
    · have hc := of_decide_eq_false hc
      conv=>whnf
      refine ⟨rfl, ?_⟩
      conv=>whnf
      exact ⟨(D, xs), ⟨hD, hxl⟩, Rel.lay [] (by cases sd <;> kernel_rfl) (by repeat constructor) (by cases sd <;> repeat constructor)⟩
  clear hD
  rintro ⟨D, xs⟩ ⟨hD, hxl⟩
  dsimp only at hD hxl ⊢
  refine WpN.seq (WpN.vc ?_)
  conv=>whnf
  refine WpN.cut (ι := Int) (fun qs => [(0, .c (.p 0 0)), (1, .c (.i .u8 bw)), (2, .c (.i .u32 I1)), (9, .c (.sl 38 0 d Ba.cap)), (11, .c (.i .i64 qs))])
    (fun _=>lay [(0, .st (cells sd [(10, 38)] a q D (setZ Z 10 Ba))), (11, .ar false .i16 (Z 11).xs), (38, .ar false .i8 xs)] 39) (fun _=>True) (WpN.vc ?_) ?_
  · conv=>whnf
    refine ⟨fun _=>?_, fun _=>?_⟩
    all_goals
      conv=>whnf
      exact ⟨_, trivial, Rel.lay [] (by cases sd <;> kernel_rfl) (by repeat constructor) (by cases sd <;> repeat constructor)⟩
  rintro qs -
  refine WpN.seq (WpN.vc ?_)
  conv=>whnf
  refine rz153 (m := 38) (j := 11) (n := (d : Int)) _ rfl rfl (fun c => rfl) (by decide) rfl (Z 11).ok (by decide) (by omega) fun Bb hBb _ => ?_
  rw [Int.toNat_natCast] at hBb
  rw [Int.toNat_natCast]
  have hBbo := Bb.ok
  conv=>whnf
  refine WpN.seq (WpN.vc ?_)
  conv=>whnf
  refine WpN.cut (ι := List Int) (fun _=>[(0, .c (.p 0 0)), (6, .c (.i .i64 d)), (7, .c (.sl 39 0 d Bb.cap))])
    (fun ys => lay [(0, .st (cells sd [(10, 38), (11, 39)] a q D (setZ (setZ Z 10 Ba) 11 Bb))), (38, .ar false .i8 xs), (39, .ar false .i16 ys)] 40)
    (fun ys => ys.length = Bb.xs.length) (WpN.vc ?_) ?_
  · conv=>whnf
    refine WpS.loop (ι := Int × List Int) (fun x => mkSt [(0, .c (.p 0 0)), (1, .c (.i .u8 bw)), (2, .c (.i .u32 I1)), (9, .c (.sl 38 0 d Ba.cap)), (11, .c (.i .i64 qs)), (6, .c (.i .i64 d)), (7, .c (.sl 39 0 d Bb.cap)), (12, .c (.i .i64 x.1))]
      (lay [(0, .st (cells sd [(10, 38), (11, 39)] a q D (setZ (setZ Z 10 Ba) 11 Bb))), (38, .ar false .i8 xs), (39, .ar false .i16 x.2)] 40) 176)
      (fun x => (-1 ≤ x.1 ∧ x.1 < d) ∧ x.2.length = Bb.xs.length) (fun x => (x.1 + 1).toNat) (IntKind.i64.wrap (d - 1), Bb.xs) ⟨by dsimp only; rw [IntWalk.i64_in _ (by omega)]; omega, rfl⟩
      (Rel.lay [] (by cases sd <;> kernel_rfl) (by repeat constructor) (by cases sd <;> repeat constructor)) ?_
    rintro ⟨k, ys⟩ ⟨hk, hyl⟩
    dsimp only at hk hyl ⊢
    refine WpN.toS (WpN.seq (WpN.vc ?_))
    conv=>whnf
    refine ⟨fun hc => ?_, fun hc => ?_⟩
    · have hc := of_decide_eq_true hc
      have ek : IntKind.i64.wrap (k + 1) = k + 1 := IntWalk.i64_in _ (by omega)
      conv=>whnf
      refine WpN.seq (WpN.block (WpN.seq (WpN.vc ?_)))
      conv=>whnf
      refine WpN.cut (ι := Int) (fun f => [(0, .c (.p 0 0)), (1, .c (.i .u8 bw)), (2, .c (.i .u32 I1)), (9, .c (.sl 38 0 d Ba.cap)), (11, .c (.i .i64 qs)), (6, .c (.i .i64 d)), (7, .c (.sl 39 0 d Bb.cap)), (12, .c (.i .i64 k)), (13, .c (.i .i64 f))])
        (fun _=>lay [(0, .st (cells sd [(10, 38), (11, 39)] a q D (setZ (setZ Z 10 Ba) 11 Bb))), (38, .ar false .i8 xs), (39, .ar false .i16 ys)] 40) (fun _=>True) (WpN.vc ?_) ?_
      · conv=>whnf
        refine ⟨fun hlt => ?_, fun hlt => ?_⟩
        · have hlt := of_decide_eq_true hlt
          rw [ek] at hlt
          conv=>whnf
          refine ⟨fun h3 => ?_, fun h3 => ?_⟩
          · have hb3 : bw = 3 := by simpa using h3
            have hdd : d = 16 := by omega
            conv=>whnf
            refine CallQ.use [] t154 rfl rfl trivial ?_
            rintro v l' ⟨rfl, rfl⟩
            conv=>whnf
            refine ⟨by rw [t154_ok.1]; omega, ?_⟩
            conv=>whnf
            have e2 : (T154.getD (Int.toNat (I1 : Int)) []).length = 15 := (t154_ok.2 I1 hI).1
            refine ⟨by rw [e2]; omega, ?_⟩
            conv=>whnf
            have he : 0 ≤ (T154.getD (Int.toNat (I1 : Int)) []).getD k.toNat 0 ∧ (T154.getD (Int.toNat (I1 : Int)) []).getD k.toNat 0 < 2 := (t154_ok.2 I1 hI).2 k.toNat (by omega)
            generalize (T154.getD (Int.toNat (I1 : Int)) []).getD k.toNat 0 = e at he
            refine CallQ.use [] t155 rfl rfl trivial ?_
            rintro v l' ⟨rfl, rfl⟩
            conv=>whnf
            refine ⟨by rw [t155_ok.1]; omega, ?_⟩
            conv=>whnf
            refine ⟨by rw [t155_ok.2 _ (by omega)]; omega, ?_⟩
            conv=>whnf
            refine ⟨by rw [ek]; omega, ?_⟩
            conv=>whnf
            refine ⟨by rw [ek]; omega, ?_⟩
            conv=>whnf
            refine ⟨by decide, ?_⟩
            conv=>whnf
            exact ⟨_, trivial, Rel.lay [] (by cases sd <;> kernel_rfl) (by repeat constructor) (by cases sd <;> repeat constructor)⟩
          · have hb3 : bw ≠ 3 := by simpa using h3
            have hdd : d = 10 := by omega
            conv=>whnf
            refine CallQ.use [] t156 rfl rfl trivial ?_
            rintro v l' ⟨rfl, rfl⟩
            conv=>whnf
            refine ⟨by rw [t156_ok.1]; omega, ?_⟩
            conv=>whnf
            have e2 : (T156.getD (Int.toNat (I1 : Int)) []).length = 9 := (t156_ok.2 I1 hI).1
            refine ⟨by rw [e2]; omega, ?_⟩
            conv=>whnf
            have he : 0 ≤ (T156.getD (Int.toNat (I1 : Int)) []).getD k.toNat 0 ∧ (T156.getD (Int.toNat (I1 : Int)) []).getD k.toNat 0 < 2 := (t156_ok.2 I1 hI).2 k.toNat (by omega)
            generalize (T156.getD (Int.toNat (I1 : Int)) []).getD k.toNat 0 = e at he
            refine CallQ.use [] t157 rfl rfl trivial ?_
            rintro v l' ⟨rfl, rfl⟩
            conv=>whnf
            refine ⟨by rw [t157_ok.1]; omega, ?_⟩
            conv=>whnf
            refine ⟨by rw [t157_ok.2 _ (by omega)]; omega, ?_⟩
            conv=>whnf
            refine ⟨by rw [ek]; omega, ?_⟩
            conv=>whnf
            refine ⟨by rw [ek]; omega, ?_⟩
            conv=>whnf
            refine ⟨by decide, ?_⟩
            conv=>whnf
            exact ⟨_, trivial, Rel.lay [] (by cases sd <;> kernel_rfl) (by repeat constructor) (by cases sd <;> repeat constructor)⟩
        · conv=>whnf
          exact ⟨_, trivial, Rel.lay [] (by cases sd <;> kernel_rfl) (by repeat constructor) (by cases sd <;> repeat constructor)⟩
      · rintro f -
        refine WpN.vc ?_
        conv=>whnf
        refine .inr (WpS.draw [0, 0, 0, 1, 0, 0, 0, 0, 0, 1, 0, 2, 0, 0, 0, 0, 0, 0] (fun st2 => st2 38 = some (.ar false .i8 xs)) (by kernel_rfl) ?_)
        conv=>whnf
        refine ⟨by omega, ?_⟩
        conv=>whnf
        refine ⟨.c (.i .i8 (xs.getD (0 + k.toNat) 0)), ⟨rfl, fun st2 h2 => ⟨_, h2, .inr ⟨_, rfl, by omega⟩⟩⟩, ?_⟩
        conv=>whnf
        refine ⟨by decide, ?_⟩
        conv=>whnf
        refine ⟨by omega, ?_⟩
        conv=>whnf
        refine ⟨.c (.i .i8 (xs.getD (0 + k.toNat) 0)), ⟨rfl, fun st2 h2 => ⟨_, h2, .inr ⟨_, rfl, by omega⟩⟩⟩, ?_⟩
        conv=>whnf
        refine ⟨rfl, ?_⟩
        refine CallQ.use [] (f158 _) rfl rfl trivial ?_
        rintro v l' ⟨rfl, rfl⟩
        refine ⟨rfl, ?_⟩
        conv=>whnf
        refine ⟨by decide, ?_⟩
        conv=>whnf
        refine ⟨rfl, ?_⟩
        conv=>whnf
        repeat (refine ⟨by first | decide | omega, ?_⟩; conv=>whnf)
        refine WpN.vc ?_
        conv=>whnf
        have ek' : IntKind.i64.wrap (k - 1) = k - 1 := IntWalk.i64_in _ (by omega)
        exact ⟨(IntKind.i64.wrap (k - 1), ys.set (0 + k.toNat) (IntKind.i16.wrap (IntKind.i64.wrap (f + _)))), ⟨by dsimp only; omega, by simpa using hyl⟩, by dsimp only; omega, Rel.lay [] (by cases sd <;> kernel_rfl) (by repeat constructor) (by cases sd <;> repeat constructor)⟩
    · have hc := of_decide_eq_false hc
      conv=>whnf
      refine ⟨rfl, ?_⟩
      conv=>whnf
      exact ⟨ys, hyl, Rel.lay [] (by cases sd <;> kernel_rfl) (by repeat constructor) (by cases sd <;> repeat constructor)⟩
  rintro ys hyl
  refine WpN.vc ?_
  conv=>whnf
  refine ⟨[], .tu [.c (.i .i64 d), .c (.sl 39 0 d Bb.cap)], lay [(0, .st (cells sd [(10, 38), (11, 39)] a q D (setZ (setZ Z 10 ⟨Ba.cap, xs, Ba.ys, by omega, Ba.okb⟩) 11 ⟨Bb.cap, ys, Bb.ys, by omega, Bb.okb⟩))), (38, .ar false .i8 xs), (39, .ar false .i16 ys)] 40, rfl, by cases sd <;> kernel_rfl, stEq_lay (by cases sd <;> repeat constructor) 40 0, ?_⟩
  exact ⟨D, ⟨Ba.cap, xs, Ba.ys, by omega, Ba.okb⟩, ⟨Bb.cap, ys, Bb.ys, by omega, Bb.okb⟩, rfl, rfl, hD, hBb⟩
def SL : List Int := [53, 59, 60, 63, 64, 65, 66, 67, 68, 69, 70, 71, 72, 73, 74, 75, 76, 77, 78, 79, 80, 81, 82, 83, 84, 85, 86, 87, 88, 89, 90, 91, 92, 93, 94, 95, 96, 97, 98, 99, 100, 101, 102, 104, 106, 107, 108, 109, 110, 111, 112, 113, 114, 115, 116, 117, 118, 119, 120, 121, 124, 125, 126, 128, 129, 131, 132, 133, 134, 136, 137, 138, 139, 141, 142, 143, 144, 145, 146, 148, 149, 150, 151, 153, 155, 156, 157, 158, 159, 161, 162, 163, 164, 166, 167, 168, 169, 170, 171, 172, 173, 176, 177, 178, 179, 180, 181, 183, 184, 185, 186, 187, 188, 191, 192, 194, 195, 196, 197, 198, 199, 201, 206, 207, 210, 212, 213, 214, 215, 216, 221, 223, 224, 230, 231, 234, 238, 243, 248, 255, 257, 259, 264, 272, 274, 277, 282, 289, 298, 306, 307, 329, 334, 377, 381, 394, 401, 405, 414, 419, 426]
def cbP (r : List Int) (k : Nat) : Int := match k with | 0 => 0 | k + 1 => r.getD k 0
def cbN (r : List Int) (d k : Nat) : Int := if k + 1 = d then 256 else r.getD (k + 1) 0
def cbOk (r : List Int) (d k : Nat) : Bool :=
  decide (0 ≤ cbP r k) && decide (cbP r k < r.getD k 0) && decide (r.getD k 0 < cbN r d k) && decide (cbN r d k ≤ 256) && SL.contains (1024 / (r.getD k 0 - cbP r k) + 1024 / (cbN r d k - r.getD k 0))
theorem t160_ok : T160.length = 32 ∧ ∀ i : Nat, i < 32 → (T160.getD i []).length = 10 ∧ ∀ k : Nat, k < 10 → cbOk (T160.getD i []) 10 k = true := by decide +kernel
theorem t161_ok : T161.length = 32 ∧ ∀ i : Nat, i < 32 → (T161.getD i []).length = 16 ∧ ∀ k : Nat, k < 16 → cbOk (T161.getD i []) 16 k = true := by decide +kernel
theorem SL_in : ∀ s ∈ SL, 53 ≤ s ∧ s ≤ 426 := by decide +kernel
def wOf (Y i f : Int) : Int := IntKind.i16.wrap (IntKind.i64.wrap (Y.fdiv (2 ^ min ((IntKind.i64.wrap (32 - i)).fdiv (2 ^ min (Int.toNat 1) IntKind.i64.bits)).toNat IntKind.i64.bits) + (IntKind.i64.wrap (IntKind.i64.wrap (213 * f) * Y.fdiv (2 ^ min ((IntKind.i64.wrap (32 - i)).fdiv (2 ^ min (Int.toNat 1) IntKind.i64.bits)).toNat IntKind.i64.bits))).fdiv (2 ^ min (Int.toNat 16) IntKind.i64.bits)))
theorem w_all : ∀ i : Nat, i < 14 → (0 ≤ (IntKind.i64.wrap (32 - ((i : Int) + 17))).fdiv (2 ^ min (Int.toNat 1) IntKind.i64.bits)) ∧ ∀ f : Nat, f < 128 → wOf 46214 ((i : Int) + 17) f ≠ 0 ∧ wOf 32768 ((i : Int) + 17) f ≠ 0 := by decide +kernel
theorem getD_set_self {xs : List Int} {j : Nat} {v : Int} (h : j < xs.length) : (xs.set j v).getD j 0 = v := by simp [List.getD_eq_getElem?_getD, h]
theorem run_appS {H : Hp} {st : Nat → Option B} {nx t : Nat} {X : Ctx} {nm off len cap nm2 cap2 : Nat} {ub us : Value} {cs : List C} {c : C} {e : Nat} (ty' : TypeId) (hs : Hs H st nx X)
    (ht : (ty t).d = .slice e) (he : (ty e).sz = 1) (hb : st nm = some (.st cs)) (h2 : st nm2 = some (.st [c])) (hone : c.one = true)
    (hlt : len < cap) (hl : off + len < cs.length) (hd : Den X (.sl nm off len cap) ub) (hsr : Den X (.sl nm2 0 1 cap2) us) :
    ∃ r X', (Builtin.append_ #[t, t] ty' #[ub, us]).run P X.w = .ok r X'.w ∧ Hs H (upd st nm (.st (cs.set (off + len) c))) nx X' ∧ Step nx X X' ∧ VDen X' (.c (.sl nm off (len + 1) cap)) r := by
  have hun := ty_slice ht
  have hsz : (sizeOf e).run P X.w = .ok 1 X.w := by rw [← he]; exact ty_sz (ty_pos (by rw [he]; decide)) X.w
  cases hd with
  | sl0 => omega
  | @sl _ _ _ _ bl cp hν =>
  cases hsr with
  | @sl _ _ _ _ bl2 cp2 hν2 =>
  have hbd := hs.blk nm _ hb
  simp only [BDen, hν] at hbd
  obtain ⟨cur, tb, hh, hc⟩ := hbd
  have hbd2 := hs.blk nm2 _ h2
  simp only [BDen, hν2] at hbd2
  obtain ⟨cur2, tb2, hh2, hc2⟩ := hbd2
  obtain ⟨u, hu, hu2⟩ := hc2.cell 0 (by simp [B.size])
  cases hu2 with | @st cs' j c' u' hj hu3 =>
  simp at hj
  subst hj
  have h1 := hu3.one hone
  have hcl : cs.length ≤ cur.size := hc.le
  have hfc : (Builtin.firstCells 1 1 (.slice (some ⟨bl2, 0, none⟩) 1 cap2)).run P X.w = .ok #[u] X.w := run_firstCells_some (P := P) X.w 1 1 ⟨bl2, 0, none⟩ 1 cap2 [u] rfl fun j v hj => by
    have : j = 0 := by have := (List.getElem?_eq_some_iff.1 hj).1; simp at this; exact this
    subst this
    simp at hj; subst hj
    rw [add_some, cell_block hh2, hu]
  have hst := run_storeCells_at P bl (off + len) tb [u] 0 cur X.w hh (by simp; omega) (fun v hv => by simp at hv; rw [hv]; exact h1)
  simp only [Nat.add_zero] at hst
  have hcells : Cells X (.st (cs.set (off + len) c)) (cur.toList.take (off + len) ++ [u] ++ cur.toList.drop (off + len + 1)).toArray cp := by
    have hl2 : (cur.toList.take (off + len) ++ [u] ++ cur.toList.drop (off + len + 1)).toArray.size = cur.size := size_splice cur [u] (off + len) (by simp; omega)
    refine ⟨by rw [hl2]; simpa [B.size] using hcl, fun j hj => ?_, fun sz hsz' => by cases hsz'⟩
    have hj : j < cs.length := by simpa [B.size] using hj
    by_cases h3 : j = off + len
    · subst h3
      refine ⟨u, ?_, .st (c := c) ?_ hu3⟩
      · rw [List.getElem?_toArray, List.append_assoc, List.getElem?_append_right (by simp; omega)]
        have e1 : off + len - (List.take (off + len) cur.toList).length = 0 := by simp; omega
        rw [e1]; rfl
      · simp [hj]
    · obtain ⟨v, hv1, hv2⟩ := hc.cell j hj
      cases hv2 with | st hx hx2 =>
      refine ⟨v, ?_, .st ?_ hx2⟩
      · by_cases h4 : j < off + len
        · rw [List.getElem?_toArray, List.append_assoc, List.getElem?_append_left (by simp; omega), List.getElem?_take_of_lt h4]; simpa using hv1
        · rw [List.getElem?_toArray, List.getElem?_append_right (by simp; omega), List.getElem?_drop]
          have e1 : off + len + 1 + (j - (List.take (off + len) cur.toList ++ [u]).length) = j := by simp; omega
          rw [e1]; simpa using hv1
      · rw [List.getElem?_set_ne (Ne.symm h3)]; exact hx
  have hbn : ∀ m, (B.st (cs.set (off + len) c)).Has m → m < nx := fun m hm => by
    cases hm with | @st _ c1 _ h5 h6 =>
    rcases List.mem_or_eq_of_mem_set h5 with h7 | h7
    · exact (hs.bd nm _ hb).2 m (.st h7 h6)
    · subst h7; exact (hs.bd nm2 _ h2).2 m (.st (by simp) h6)
  obtain ⟨g1, g2⟩ := hs.setB hb hν hh hcells hbn
  refine ⟨_, ⟨X.ν, X.I, X.w.setRow bl _⟩, ?_, g1, g2, .c (.sl hν)⟩
  simp [Builtin.append_, run_underlying hun, hsz, Builtin.lenOf, hfc, add_some, hst, hlt]
  exact fun h => absurd h (by omega)
theorem OpX.of_appS {o : Oper} {e : Nat → Option V} {st : Nat → Option B} {nx t : Nat} {x y : Operand} {nm off len cap nm2 cap2 : Nat} {cs : List C} {c : C} {el : Nat}
    (ho : o.op = .call ⟨.builtin .append, #[x, y], #[t, t]⟩) (hx : rd e x = some (.c (.sl nm off len cap))) (hy : rd e y = some (.c (.sl nm2 0 1 cap2)))
    (ht : (ty t).d = .slice el) (he : (ty el).sz = 1) (hb : st nm = some (.st cs)) (h2 : st nm2 = some (.st [c])) (hone : c.one = true)
    (hlt : len < cap) (hl : off + len < cs.length) : OpX o e st nx (.c (.sl nm off (len + 1) cap)) (upd st nm (.st (cs.set (off + len) c))) nx :=
  .of_ym fun H X a hs hk => by
    obtain ⟨h3, _⟩ := hk x (by simp [ho, Op.operands, Call.operands]) _ hx
    obtain ⟨h4, _⟩ := hk y (by simp [ho, Op.operands, Call.operands]) _ hy
    cases h3 with | c h3 => cases h4 with | c h4 =>
    obtain ⟨r, X', k1, k2, k3, k5⟩ := run_appS o.type hs ht he hb h2 hone hlt hl h3 h4
    refine ⟨.value r, r, X', ?_, .inl rfl, k2, k3, Nat.le_refl _, k5, fun k hk' => ?_⟩
    · simp [execOp, ho, resolve, invoke, builtin, k1]
    · cases hk' with | c h => exact (hs.bd nm _ hb).1 |> fun q => (show nm = k from h) ▸ q
theorem Hs.retell {H : Hp} {st : Nat → Option B} {nx : Nat} {X : Ctx} (g : Hs H st nx X) {nm : Nat} {x x' : B} (hs : st nm = some x) (hc : ∀ cur c, Cells X x cur c → Cells X x' cur c) (hz : x'.size = x.size) (hb : ∀ m, x'.Has m → m < nx) :
    Hs H (upd st nm x') nx X := by
  have e0 : ∀ n1, upd st nm x' n1 ≠ none → st n1 ≠ none := fun n1 h1 => by
    by_cases he : n1 = nm
    · subst he; rw [hs]; simp
    · simpa [upd_other _ _ he] using h1
  refine { blk := fun nm' y h => ?_, inj := fun n1 n2 b c1 c2 h1 h2 => g.inj n1 n2 b c1 c2 (e0 _ h1) (e0 _ h2), sep := fun n1 b c1 h1 => g.sep n1 b c1 (e0 _ h1), bd := fun nm' y h => ?_, fr := g.fr, sz := g.sz, imm := g.imm, out := g.out, gl := g.gl }
  · by_cases he : nm' = nm
    · subst he
      simp only [upd_same, Option.some.injEq] at h
      subst h
      have := g.blk nm' x hs
      unfold BDen at this ⊢
      split at this
      · rw [hz]; exact this
      · obtain ⟨cur, ty, h1, h2⟩ := this
        exact ⟨cur, ty, h1, hc cur _ h2⟩
    · simp only [upd_other _ _ he] at h; exact g.blk nm' y h
  · by_cases he : nm' = nm
    · subst he
      simp only [upd_same, Option.some.injEq] at h
      subst h
      exact ⟨(g.bd nm' x hs).1, hb⟩
    · simp only [upd_other _ _ he] at h; exact g.bd nm' y h
theorem Rel.nil {b n nx i : Nat} {e : Nat → Option V} {st : Nat → Option B} {cs : List C} {y : B} (h0 : st 0 = some (.st cs)) (hi : cs[i]? = some .nsl) (hy : y.size = 0) (hn : ∀ m, ¬ y.Has m) :
    Rel b ⟨e, st, nx, n⟩ ⟨e, upd (upd st nx y) 0 (.st (cs.set i (.sl nx 0 0 0))), nx + 1, n⟩ := by
  intro H X a hb g
  obtain ⟨g1, s1⟩ := g.toHs.newNil (x := y) hy fun m hm => (hn m hm).elim
  have hlt := (g.bd 0 _ h0).1
  have hbd := (g.bd 0 _ h0).2
  have h00 : upd st nx y 0 = some (.st cs) := by rw [upd_other _ _ (Nat.ne_of_lt hlt)]; exact h0
  have hil : i < cs.length := (List.getElem?_eq_some_iff.1 hi).1
  have g2 := g1.retell (nm := 0) (x := .st cs) (x' := .st (cs.set i (.sl nx 0 0 0))) h00 (fun cur c hc => by
    refine ⟨by simpa [B.size] using hc.le, fun j hj => ?_, fun sz hsz => by cases hsz⟩
    have hj' : j < cs.length := by simpa [B.size] using hj
    obtain ⟨u, hu, hu2⟩ := hc.cell j hj'
    by_cases h1 : j = i
    · subst h1
      cases hu2 with | st hj2 hd =>
      rw [hi] at hj2
      cases hj2
      cases hd
      exact ⟨_, hu, .st (c := .sl nx 0 0 0) (by simp [hil]) (.sl0 (by simp [Nat.beq_refl]))⟩
    · cases hu2 with | st hj2 hd =>
      exact ⟨u, hu, .st (by rw [List.getElem?_set_ne (Ne.symm h1)]; exact hj2) hd⟩) (by simp [B.size]) (fun m hm => by
    cases hm with | @st _ c1 _ h5 h6 =>
    rcases List.mem_or_eq_of_mem_set h5 with h7 | h7
    · exact Nat.lt_succ_of_lt (hbd m (.st h7 h6))
    · subst h7; have h8 : nx = m := h6; subst h8; exact Nat.lt_succ_self _)
  refine ⟨⟨fun k => bif Nat.beq k nx then none else X.ν k, X.I, X.w⟩, rfl, { toHs := g2, dn := g.dn, n := g.n, env := fun t v hv => ?_ }, s1.low hb, Nat.le_succ_of_le hb⟩
  obtain ⟨⟨u, h1, h2⟩, h3⟩ := g.env t v hv
  exact ⟨⟨u, h1, h2.step s1 h3⟩, fun nm h => Nat.lt_succ_of_lt (h3 nm h)⟩
theorem Rel.nilAt {b n nx i nm : Nat} {e : Nat → Option V} {st : Nat → Option B} {cs : List C} {y : B} (h0 : st nm = some (.st cs)) (hi : cs[i]? = some .nsl) (hy : y.size = 0) (hn : ∀ m, ¬ y.Has m) :
    Rel b ⟨e, st, nx, n⟩ ⟨e, upd (upd st nx y) nm (.st (cs.set i (.sl nx 0 0 0))), nx + 1, n⟩ := by
  intro H X a hb g
  obtain ⟨g1, s1⟩ := g.toHs.newNil (x := y) hy fun m hm => (hn m hm).elim
  have hlt := (g.bd nm _ h0).1
  have hbd := (g.bd nm _ h0).2
  have h00 : upd st nx y nm = some (.st cs) := by rw [upd_other _ _ (Nat.ne_of_lt hlt)]; exact h0
  have hil : i < cs.length := (List.getElem?_eq_some_iff.1 hi).1
  have g2 := g1.retell (nm := nm) (x := .st cs) (x' := .st (cs.set i (.sl nx 0 0 0))) h00 (fun cur c hc => by
    refine ⟨by simpa [B.size] using hc.le, fun j hj => ?_, fun sz hsz => by cases hsz⟩
    have hj' : j < cs.length := by simpa [B.size] using hj
    obtain ⟨u, hu, hu2⟩ := hc.cell j hj'
    by_cases h1 : j = i
    · subst h1
      cases hu2 with | st hj2 hd =>
      rw [hi] at hj2
      cases hj2
      cases hd
      exact ⟨_, hu, .st (c := .sl nx 0 0 0) (by simp [hil]) (.sl0 (by simp [Nat.beq_refl]))⟩
    · cases hu2 with | st hj2 hd =>
      exact ⟨u, hu, .st (by rw [List.getElem?_set_ne (Ne.symm h1)]; exact hj2) hd⟩) (by simp [B.size]) (fun m hm => by
    cases hm with | @st _ c1 _ h5 h6 =>
    rcases List.mem_or_eq_of_mem_set h5 with h7 | h7
    · exact Nat.lt_succ_of_lt (hbd m (.st h7 h6))
    · subst h7; have h8 : nx = m := h6; subst h8; exact Nat.lt_succ_self _)
  refine ⟨⟨fun k => bif Nat.beq k nx then none else X.ν k, X.I, X.w⟩, rfl, { toHs := g2, dn := g.dn, n := g.n, env := fun t v hv => ?_ }, s1.low hb, Nat.le_succ_of_le hb⟩
  obtain ⟨⟨u, h1, h2⟩, h3⟩ := g.env t v hv
  exact ⟨⟨u, h1, h2.step s1 h3⟩, fun m h => Nat.lt_succ_of_lt (h3 m h)⟩
def isNsl : C → Bool
  | .nsl => true
  | _ => false
def nilB0 : B → Bool
  | .ar _ _ [] => true
  | .bl _ [] => true
  | .st [] => true
  | _ => false
def nilF (nm : Nat) : List (Nat × B) → List C → (Nat → Option B) → Nat → Nat → Option B
  | [], _, st, _ => st
  | (i, y) :: r, cs, st, nx => nilF nm r (cs.set i (.sl nx 0 0 0)) (upd (upd st nx y) nm (.st (cs.set i (.sl nx 0 0 0)))) (nx + 1)
def nilOk : List (Nat × B) → List C → Nat → Bool
  | [], _, _ => true
  | (i, y) :: r, cs, nx => (match cs[i]? with | some c => isNsl c | none => false) && nilB0 y && nilOk r (cs.set i (.sl nx 0 0 0)) (nx + 1)
theorem Rel.nils {b n nm : Nat} {e : Nat → Option V} : ∀ (l : List (Nat × B)) (cs : List C) (st : Nat → Option B) (nx : Nat), st nm = some (.st cs) → nilOk l cs nx = true →
    Rel b ⟨e, st, nx, n⟩ ⟨e, nilF nm l cs st nx, nx + l.length, n⟩
  | [], cs, st, nx, _, _ => by
    intro H X a hb g
    exact ⟨X, rfl, g, .refl _ _, hb⟩
  | (i, y) :: r, cs, st, nx, h0, hok => by
    simp only [nilOk, Bool.and_eq_true] at hok
    obtain ⟨⟨h1, h2⟩, h3⟩ := hok
    have hi : cs[i]? = some .nsl := by
      split at h1
      · rename_i c hc
        cases c <;> first | exact hc | cases h1
      · cases h1
    have hy : y.size = 0 := by cases y <;> first | (rename_i x; cases x <;> first | rfl | cases h2) | (rename_i x1 x2; cases x2 <;> first | rfl | cases h2) | (rename_i x1 x2 x3; cases x3 <;> first | rfl | cases h2) | cases h2
    have hn : ∀ m, ¬ y.Has m := by
      intro m hm
      cases hm with
      | st hc hh => rename_i cs' c; cases cs' with
        | nil => cases hc
        | cons _ _ => cases h2
    have := Rel.nils (b := b) (n := n) (nm := nm) (e := e) r (cs.set i (.sl nx 0 0 0)) (upd (upd st nx y) nm (.st (cs.set i (.sl nx 0 0 0)))) (nx + 1) (upd_same _ _ _) h3
    refine Rel.trans (Rel.nilAt (b := b) (e := e) (n := n) h0 hi hy hn) ?_
    have e2 : nx + ((i, y) :: r).length = nx + 1 + r.length := by simp; omega
    rw [e2]
    exact this
theorem Rel.tell {b n nx nm : Nat} {e : Nat → Option V} {st : Nat → Option B} {x x' : B} (h0 : st nm = some x) (hc : ∀ X cur c, Cells X x cur c → Cells X x' cur c) (hz : x'.size = x.size) (hb : ∀ m, ¬ x'.Has m) : Rel b ⟨e, st, nx, n⟩ ⟨e, upd st nm x', nx, n⟩ := by
  intro H X a hle g
  exact ⟨X, rfl, { toHs := g.toHs.retell h0 (hc X) hz (fun m h => (hb m h).elim), dn := g.dn, n := g.n, env := g.env }, .refl _ _, hle⟩
theorem Rel.forget {b n nx nm k : Nat} {e : Nat → Option V} {st : Nat → Option B} {cs : List C} (h0 : st nm = some (.st cs)) (hk : cs.length = k) : Rel b ⟨e, st, nx, n⟩ ⟨e, upd st nm (.un k), nx, n⟩ :=
  Rel.tell h0 (fun X cur c h => by
    subst hk
    exact ⟨h.le, fun j hj => let ⟨u, h1, _⟩ := h.cell j hj; ⟨u, h1, .un⟩, fun sz hs => by cases hs⟩) (by subst hk; rfl) (fun m h => by cases h)
theorem Rel.unforget {b n nx nm k : Nat} {e : Nat → Option V} {st : Nat → Option B} (h0 : st nm = some (.un k)) : Rel b ⟨e, st, nx, n⟩ ⟨e, upd st nm (.st (List.replicate k .any)), nx, n⟩ :=
  Rel.tell h0 (fun X cur c h => by
    have hs : (B.st (List.replicate k C.any)).size = k := by simp [B.size]
    refine ⟨by rw [hs]; exact h.le, fun j hj => ?_, fun sz hs => by cases hs⟩
    rw [hs] at hj
    obtain ⟨u, h1, _⟩ := h.cell j hj
    exact ⟨u, h1, .st (c := .any) (by simp [hj]) .any⟩) (by simp [B.size]) (fun m h => by
    cases h with | st hc hh =>
    have := List.eq_of_mem_replicate hc
    subst this
    exact hh)
theorem Rel.same {b n nx : Nat} {e : Nat → Option V} {st st' : Nat → Option B} (h : ∀ m x, st' m = some x → st m = some x) : Rel b ⟨e, st, nx, n⟩ ⟨e, st', nx, n⟩ := by
  intro H X a hle g
  have hne : ∀ m, st' m ≠ none → st m ≠ none := fun m hm => by
    obtain ⟨y, hy⟩ := Option.ne_none_iff_exists'.1 hm
    rw [h m y hy]; simp
  exact ⟨X, rfl, { blk := fun m x hx => g.blk m x (h m x hx), inj := fun m m' b c c' h1 h2 => g.inj m m' b c c' (hne m h1) (hne m' h2), sep := fun m b c h1 => g.sep m b c (hne m h1), bd := fun m x hx => g.bd m x (h m x hx), fr := g.fr, sz := g.sz, imm := g.imm, out := g.out, gl := g.gl, dn := g.dn, n := g.n, env := g.env }, .refl _ _, hle⟩
theorem B.ren_id1 (x : B) : x.ren id = x := by
  cases x with
  | st cs =>
    have h2 : C.ren id = id := funext fun c => by cases c <;> rfl
    show B.st (cs.map (C.ren id)) = B.st cs
    rw [h2, List.map_id]
  | _ => rfl
theorem Rel.sameL {b n nx : Nat} {e : Nat → Option V} {st : Nat → Option B} {L : List (Option B)} (h : stEq st id 0 L) : Rel b ⟨e, st, nx, n⟩ ⟨e, mkS L, nx, n⟩ :=
  Rel.same fun m x hx => by have := mkS_eq h m x hx; rwa [B.ren_id1, Nat.zero_add] at this
theorem Rel.tellC {b n nx nm i : Nat} {e : Nat → Option V} {st : Nat → Option B} {cs : List C} {c : C} (c' : C) (h0 : st nm = some (.st cs)) (hi : cs[i]? = some c) (hd : ∀ X u, Den X c u → Den X c' u) (hn : ∀ m, ¬ c'.Has m) :
    Rel b ⟨e, st, nx, n⟩ ⟨e, upd st nm (.st (cs.set i c')), nx, n⟩ := by
  intro H X a hle g
  have hil : i < cs.length := (List.getElem?_eq_some_iff.1 hi).1
  refine ⟨X, rfl, { toHs := g.toHs.retell (nm := nm) (x := .st cs) (x' := .st (cs.set i c')) h0 (fun cur k hc => ⟨by simpa [B.size] using hc.le, fun j hj => ?_, fun sz hsz => by cases hsz⟩) (by simp [B.size]) (fun m hm => ?_), dn := g.dn, n := g.n, env := g.env }, .refl _ _, hle⟩
  · have hj' : j < cs.length := by simpa [B.size] using hj
    obtain ⟨u, hu, hu2⟩ := hc.cell j hj'
    by_cases h1 : j = i
    · subst h1
      cases hu2 with | st hj2 hd2 =>
      rw [hi] at hj2
      cases hj2
      exact ⟨_, hu, .st (c := c') (by simp [hil]) (hd _ _ hd2)⟩
    · cases hu2 with | st hj2 hd2 =>
      exact ⟨u, hu, .st (by rw [List.getElem?_set_ne (Ne.symm h1)]; exact hj2) hd2⟩
  · cases hm with | @st _ c1 _ h5 h6 =>
    rcases List.mem_or_eq_of_mem_set h5 with h7 | h7
    · exact (g.bd nm _ h0).2 m (.st h7 h6)
    · subst h7; exact (hn _ h6).elim
theorem Den.nil_is {X : Ctx} {u : Value} {k : IntKind} (h : Den X .nsl u) : Den X (.is k []) u := by cases h; exact .is0
end Go.SX
