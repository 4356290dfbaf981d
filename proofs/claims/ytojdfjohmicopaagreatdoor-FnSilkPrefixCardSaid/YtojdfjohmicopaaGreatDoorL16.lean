/- A part of the proof: the SILK decoder of the given program, walked by an executor that is proved sound. No statement of the program is proved in this text. -/
import Derived.Test.YtojdfjohmicopaaGreatDoorL15
set_option linter.all false
set_option maxRecDepth 100000
namespace Go.SX
open Go
theorem memV_load {t nm off : Nat} {x : Operand} {ρ : Operand → Option V} {st : Nat → Option B} {nx : Nat} {b : B} {v : V} (hx : ρ x = some (.c (.p nm off))) (hs : st nm = some b) (hl : loadM t off b = .ok v) :
    memV (.load t x) ρ st nx = .ok v st nx := by simp [memV, hx, hs, hl, R.toM]
theorem memV_store {t nm off : Nat} {x y : Operand} {ρ : Operand → Option V} {st : Nat → Option B} {nx : Nat} {b b' : B} {v : V} (hx : ρ x = some (.c (.p nm off))) (hy : ρ y = some v) (hs : st nm = some b) (hl : storeB t off v b = .ok b') :
    memV (.store t x y) ρ st nx = .ok (.tu []) (upd st nm b') nx := by simp [memV, hx, hy, hs, hl]
theorem C.ren_id (c : C) : c.ren id = c := by cases c <;> rfl
theorem B.ren_id (b : B) : b.ren id = b := by
  have h2 : C.ren id = id := funext C.ren_id
  cases b <;> first | rfl | (show B.st (List.map (C.ren id) _) = _; rw [h2, List.map_id])
theorem C.ren_of {α : Nat → Nat} {c : C} (h : ∀ k, c.Has k → α k = k) : c.ren α = c := by
  cases c <;> first | rfl | (simp only [C.ren]; rw [h _ rfl])
theorem map_ren_of {α : Nat → Nat} {cs : List C} (h : ∀ c ∈ cs, ∀ k, c.Has k → α k = k) : cs.map (C.ren α) = cs := by
  induction cs with
  | nil => rfl
  | cons c r ih => rw [List.map_cons, C.ren_of (h c (by simp)), ih fun c hc => h c (by simp [hc])]
theorem B.ren_of {α : Nat → Nat} {b : B} (h : ∀ k, b.Has k → α k = k) : b.ren α = b := by
  cases b with
  | st cs => show B.st _ = _; rw [map_ren_of fun c hc k hk => h k (.st hc hk)]
  | _ => rfl
theorem RelM.same {b : Nat} {v : V} {st st' : Nat → Option B} {nx nx' : Nat} (le : b ≤ nx') (hv : v.ren id = v) (has : ∀ nm, v.Has nm → nm < nx') (hnx : nx ≤ nx') (hst : ∀ m x, st' m = some x → st m = some x) : RelM b v st nx v st' nx' :=
  .of_ren (α := id) le has fun hb => ⟨fun _ _ => rfl, hv.symm, fun m x h => (by rw [B.ren_id]; exact hst m x h), fun _ _ _ _ h => h, has,
    fun m x h => ⟨Nat.lt_of_lt_of_le (hb m x (hst m x h)).1 hnx, fun k hk => Nat.lt_of_lt_of_le ((hb m x (hst m x h)).2 k hk) hnx⟩, le⟩
theorem setL_get : ∀ {cs : List C} {n : Nat} {c : C} {cs' : List C}, setL cs n c = some cs' → cs'[n]? = some c ∧ ∀ i, i ≠ n → cs'[i]? = cs[i]? := by
  intro cs n c cs' h
  obtain ⟨h1, rfl⟩ := setL_ok h
  exact ⟨by simp [h1], fun i hi => by rw [List.getElem?_set_ne (Ne.symm hi)]⟩
theorem RelM.row {st : Nat → Option B} {m j off cap n : Nat} {cs cs2 : List C} {y : B} (h0 : st 0 = some (.st cs)) (hc : cs[off]? = some (.sl j 0 cap cap)) (hset : setL cs off (.sl (m + 1) 0 cap cap) = some cs2) (hj0 : j ≠ 0)
    (hy : ∀ k, ¬ y.Has k) :
    RelM (m + 1) (.c (.sl j 0 n cap)) (upd st j y) (m + 1) (.c (.sl (m + 1) 0 n cap)) (upd (upd (del st j) 0 (.st cs2)) (m + 1) y) (m + 2) := by
  refine .of_ren (α := fun k => if k = m + 1 then j else k) (Nat.le_succ _) (fun nm h => by cases h with | c h => have : nm = m + 1 := h.symm; omega) fun hb => ?_
  have hbs : ∀ k z, st k = some z → k ≠ j → k < m + 1 ∧ ∀ i, z.Has i → i < m + 1 := fun k z hk hkj => hb k z (by rw [upd_other _ _ hkj]; exact hk)
  have hjm : j < m + 1 := (hb j y (upd_same _ _ _)).1
  have hb0 := (hbs 0 _ h0 (Ne.symm hj0)).2
  obtain ⟨g1, g2⟩ := setL_get hset
  have hm0 : (0 : Nat) ≠ m + 1 := by omega
  have look : ∀ k z, upd (upd (del st j) 0 (.st cs2)) (m + 1) y k = some z → (k = m + 1 ∧ z = y) ∨ (k = 0 ∧ z = .st cs2) ∨ (k ≠ m + 1 ∧ k ≠ 0 ∧ k ≠ j ∧ st k = some z) := fun k z h => by
    by_cases h1 : k = m + 1
    · subst h1; rw [upd_same] at h; cases h; exact .inl ⟨rfl, rfl⟩
    · rw [upd_other _ _ h1] at h
      by_cases h2 : k = 0
      · subst h2; rw [upd_same] at h; cases h; exact .inr (.inl ⟨rfl, rfl⟩)
      · rw [upd_other _ _ h2] at h
        by_cases h3 : k = j
        · subst h3; rw [del_same] at h; cases h
        · rw [del_other _ h3] at h; exact .inr (.inr ⟨h1, h2, h3, h⟩)
  refine { low := fun k hk => if_neg (by omega), v := ?_, st := fun k z h => ?_, inj := fun k k' h h' e => ?_, bdV := fun nm h => by cases h with | c h => have : nm = m + 1 := h.symm; omega, bdS := fun k z h => ?_, b := Nat.le_succ _ }
  · show V.c _ = V.c (.sl (if m + 1 = m + 1 then j else m + 1) 0 n cap); rw [if_pos rfl]
  · rcases look k z h with ⟨rfl, rfl⟩ | ⟨rfl, rfl⟩ | ⟨h1, h2, h3, h4⟩
    · rw [if_pos rfl, upd_same, B.ren_of fun i hi => (hy i hi).elim]
    · rw [if_neg hm0, upd_other _ _ (Ne.symm hj0), h0]
      show some (B.st cs) = some (B.st (cs2.map (C.ren _)))
      congr 2
      refine List.ext_getElem? fun i => ?_
      rw [List.getElem?_map]
      by_cases hi : i = off
      · subst hi; rw [g1, hc]; simp [C.ren]
      · rw [g2 i hi]
        cases hci : cs[i]? with
        | none => rfl
        | some c =>
          simp only [Option.map_some, Option.some.injEq]
          refine (C.ren_of fun q hq => if_neg ?_).symm
          have := hb0 q (.st (List.mem_of_getElem? hci) hq); omega
    · rw [if_neg h1, upd_other _ _ h3, B.ren_of fun i hi => if_neg (by have := (hbs k z h4 h3).2 i hi; omega)]; exact h4
  · obtain ⟨z, hz⟩ := Option.ne_none_iff_exists'.1 h
    obtain ⟨z', hz'⟩ := Option.ne_none_iff_exists'.1 h'
    rcases look k z hz with ⟨rfl, _⟩ | ⟨rfl, _⟩ | ⟨h1, h2, h3, _⟩ <;> rcases look k' z' hz' with ⟨rfl, _⟩ | ⟨rfl, _⟩ | ⟨h1', h2', h3', _⟩
    · rfl
    · rw [if_pos rfl, if_neg hm0] at e; exact (hj0 e).elim
    · rw [if_pos rfl, if_neg h1'] at e; exact (h3' e.symm).elim
    · rw [if_pos rfl, if_neg hm0] at e; exact (hj0 e.symm).elim
    · rfl
    · rw [if_neg hm0, if_neg h1'] at e; exact (h2' e.symm).elim
    · rw [if_pos rfl, if_neg h1] at e; exact (h3 e).elim
    · rw [if_neg hm0, if_neg h1] at e; exact (h2 e).elim
    · rw [if_neg h1, if_neg h1'] at e; exact e
  · rcases look k z h with ⟨rfl, rfl⟩ | ⟨rfl, rfl⟩ | ⟨h1, h2, h3, h4⟩
    · exact ⟨by omega, fun i hi => (hy i hi).elim⟩
    · refine ⟨by omega, fun i hi => ?_⟩
      cases hi with
      | st hm hi =>
        obtain ⟨q, hq⟩ := List.mem_iff_getElem?.1 hm
        by_cases hqo : q = off
        · subst hqo; rw [g1] at hq; cases hq; have : i = m + 1 := hi.symm; omega
        · rw [g2 q hqo] at hq
          have := hb0 i (.st (List.mem_of_getElem? hq) hi); omega
    · have := hbs k z h4 h3
      exact ⟨by omega, fun i hi => by have := this.2 i hi; omega⟩
theorem clearM_ar {t e nm len cap : Nat} {st : Nat → Option B} {nx : Nat} {o : Bool} {k : IntKind} {b : List Int} (ht : (ty t).d = .slice e) (hz : (ty e).z = [.i k 0]) (h : st nm = some (.ar o k b)) :
    clearM t (.sl nm 0 len cap) st nx = .cond (0 + len ≤ b.length) (.tu []) (upd st nm (.ar o k (b.take 0 ++ List.replicate len 0 ++ b.drop (0 + len)))) nx := by
  unfold clearM
  rw [ht]
  dsimp only
  rw [h]
  dsimp only
  rw [hz]
  show (match kEq k k with | true => _ | false => _) = _
  have : kEq k k = true := by cases k <;> rfl
  rw [this]
theorem clearM_bl {t e nm len cap : Nat} {st : Nat → Option B} {nx : Nat} {o : Bool} {b : List Bool} (ht : (ty t).d = .slice e) (hz : (ty e).z = [.b false]) (h : st nm = some (.bl o b)) :
    clearM t (.sl nm 0 len cap) st nx = .cond (0 + len ≤ b.length) (.tu []) (upd st nm (.bl o (b.take 0 ++ List.replicate len false ++ b.drop (0 + len)))) nx := by
  unfold clearM
  rw [ht]
  dsimp only
  rw [h]
  dsimp only
  rw [hz]
theorem rs197 {st : Nat → Option B} {m : Nat} {K : V → (Nat → Option B) → Nat → Prop} {cs : List C} {off j cap : Nat} {n : Int} (cs' : C → List C)
    (h0 : st 0 = some (.st cs)) (hc : cs[off]? = some (.sl j 0 cap cap)) (hset : ∀ c, setL cs off c = some (cs' c)) (hjm : j < m + 1) (hn : 0 ≤ n ∧ n ≤ 1000000)
    (h1 : (cap : Int) < n → K (.c (.sl (m + 1) 0 n.toNat n.toNat)) (upd (upd st (m + 1) (.ar false .i32 (List.replicate n.toNat 0))) 0 (.st (cs' (.sl (m + 1) 0 n.toNat n.toNat)))) (m + 2))
    (h2 : n ≤ (cap : Int) → K (.c (.sl j 0 n.toNat cap)) st (m + 1)) : CallQ 197 [.c (.p 0 off), .c (.i .i64 n)] st (m + 1) K := by
  have hget : ∀ c, (cs' c)[off]? = some c := fun c => (setL_get (hset c)).1
  have l1 : loadM 57 off (.st cs) = .ok (.c (.sl j 0 cap cap)) := by show (match cs[off]? with | some c => R.ok (.c c) | none => R.no) = _; rw [hc]
  have l2 : ∀ c, loadM 57 off (.st (cs' c)) = .ok (.c c) := fun c => by show (match (cs' c)[off]? with | some c => R.ok (.c c) | none => R.no) = _; rw [hget]
  have s1 : ∀ nm a b, storeB 57 off (.c (.sl nm 0 a b)) (.st cs) = .ok (.st (cs' (.sl nm 0 a b))) := fun nm a b => by show (match setL cs off (.sl nm 0 a b) with | some cs' => SB.ok (.st cs') | none => SB.no) = _; rw [hset]
  refine CallQ.inline Proofs.Tryz.f197 rfl rfl rfl rfl rfl ?_
  conv=>whnf
  rw [memV_load rfl h0 l1]
  conv=>whnf
  refine ⟨fun hlt => ?_, fun hlt => ?_⟩
  · have hlt := of_decide_eq_true hlt
    conv=>whnf
    refine ⟨by omega, ?_⟩
    conv=>whnf
    rw [memV_store rfl rfl (by exact h0) (s1 _ _ _)]
    conv=>whnf
    rw [memV_load rfl rfl (l2 _)]
    conv=>whnf
    refine ⟨by omega, ?_⟩
    conv=>whnf
    refine ⟨by simp only [resOf, V.lo, C.lo, Nat.blt, Bool.and_eq_true, Nat.ble_eq]; omega, h1 hlt⟩
  · have hlt := of_decide_eq_false hlt
    conv=>whnf
    rw [memV_load rfl h0 l1]
    conv=>whnf
    refine ⟨by omega, ?_⟩
    conv=>whnf
    refine ⟨by simp only [resOf, V.lo, C.lo, Nat.blt, Bool.and_eq_true, Nat.ble_eq]; omega, h2 (by omega)⟩
theorem rz136 {st : Nat → Option B} {m : Nat} {K : V → (Nat → Option B) → Nat → Prop} {cs : List C} {off j cap : Nat} {n : Int} (cs' : C → List C) {xs : List Int}
    (h0 : st 0 = some (.st cs)) (hc : cs[off]? = some (.sl j 0 cap cap)) (hset : ∀ c, setL cs off c = some (cs' c)) (hj0 : j ≠ 0) (hj : st j = some (.ar false .i32 xs)) (hcap : cap ≤ xs.length) (hjm : j < m + 1) (hn : 0 ≤ n ∧ n ≤ 1000000)
    (hk : ∀ Bf : Buf, n.toNat ≤ Bf.cap → Bf.xs.take n.toNat = List.replicate n.toNat (0 : Int) → K (.c (.sl (m + 1) 0 n.toNat Bf.cap)) (upd (upd (del st j) 0 (.st (cs' (.sl (m + 1) 0 Bf.cap Bf.cap)))) (m + 1) (.ar false .i32 Bf.xs)) (m + 2)) :
    CallQ 136 [.c (.p 0 off), .c (.i .i64 n)] st (m + 1) K := by
  refine CallQ.cut (ι := Buf) (fun Bf => n.toNat ≤ Bf.cap ∧ Bf.xs.take n.toNat = List.replicate n.toNat (0 : Int)) (fun Bf => .c (.sl (m + 1) 0 n.toNat Bf.cap)) (fun Bf => upd (upd (del st j) 0 (.st (cs' (.sl (m + 1) 0 Bf.cap Bf.cap)))) (m + 1) (.ar false .i32 Bf.xs)) (fun _=>m + 2) ?_ fun Bf h => hk Bf h.1 h.2
  refine CallQ.inline Proofs.Tryz.f136 rfl rfl rfl rfl rfl ?_
  conv=>whnf
  refine rs197 cs' h0 hc hset hjm hn (fun hlt => ?_) (fun hlt => ?_)
  · conv=>whnf
    rw [clearM_ar rfl rfl (b := List.replicate n.toNat (0 : Int)) (by rw [upd_other _ _ (by omega), upd_same])]
    conv=>whnf
    refine ⟨by simp, ?_⟩
    conv=>whnf
    refine ⟨by simp only [resOf, V.lo, C.lo, Nat.blt, Bool.and_eq_true, Nat.ble_eq]; omega, ⟨n.toNat, List.replicate n.toNat 0, List.replicate n.toNat false, by simp, by simp⟩, ⟨Nat.le_refl _, by simp⟩, ?_⟩
    refine RelM.same (Nat.le_succ _) rfl (fun nm h => by cases h with | c h => have : nm = m + 1 := h.symm; omega) (Nat.le_refl _) fun k x hk => ?_
    have ez : List.take 0 (List.replicate n.toNat (0 : Int)) ++ List.replicate n.toNat (0 : Int) ++ List.drop (0 + n.toNat) (List.replicate n.toNat (0 : Int)) = List.replicate n.toNat (0 : Int) := by simp
    by_cases h1 : k = m + 1
    · subst h1; rw [upd_same] at hk ⊢; rw [← hk]; exact congrArg (fun l => some (B.ar false .i32 l)) ez
    · rw [upd_other _ _ h1] at hk ⊢
      by_cases h2 : k = 0
      · subst h2; rw [upd_same] at hk ⊢; exact hk
      · rw [upd_other _ _ h2] at hk ⊢
        rw [upd_other _ _ h1]
        by_cases h3 : k = j
        · subst h3; rw [del_same] at hk; cases hk
        · rw [del_other _ h3] at hk; exact hk
  · conv=>whnf
    rw [clearM_ar rfl rfl hj]
    conv=>whnf
    refine ⟨by omega, ?_⟩
    conv=>whnf
    refine ⟨by simp only [resOf, V.lo, C.lo, Nat.blt, Bool.and_eq_true, Nat.ble_eq]; omega, ⟨cap, xs.take 0 ++ List.replicate n.toNat 0 ++ xs.drop (0 + n.toNat), List.replicate cap false, by simp; omega, by simp⟩, ⟨by dsimp only; omega, by simp⟩, ?_⟩
    exact RelM.row h0 hc (hset _) hj0 (fun k h => by cases h)
theorem rs198 {st : Nat → Option B} {m : Nat} {K : V → (Nat → Option B) → Nat → Prop} {cs : List C} {off j cap : Nat} {n : Int} (cs' : C → List C)
    (h0 : st 0 = some (.st cs)) (hc : cs[off]? = some (.sl j 0 cap cap)) (hset : ∀ c, setL cs off c = some (cs' c)) (hjm : j < m + 1) (hn : 0 ≤ n ∧ n ≤ 1000000)
    (h1 : (cap : Int) < n → K (.c (.sl (m + 1) 0 n.toNat n.toNat)) (upd (upd st (m + 1) (.ar false .i8 (List.replicate n.toNat 0))) 0 (.st (cs' (.sl (m + 1) 0 n.toNat n.toNat)))) (m + 2))
    (h2 : n ≤ (cap : Int) → K (.c (.sl j 0 n.toNat cap)) st (m + 1)) : CallQ 198 [.c (.p 0 off), .c (.i .i64 n)] st (m + 1) K := by
  have hget : ∀ c, (cs' c)[off]? = some c := fun c => (setL_get (hset c)).1
  have l1 : loadM 58 off (.st cs) = .ok (.c (.sl j 0 cap cap)) := by show (match cs[off]? with | some c => R.ok (.c c) | none => R.no) = _; rw [hc]
  have l2 : ∀ c, loadM 58 off (.st (cs' c)) = .ok (.c c) := fun c => by show (match (cs' c)[off]? with | some c => R.ok (.c c) | none => R.no) = _; rw [hget]
  have s1 : ∀ nm a b, storeB 58 off (.c (.sl nm 0 a b)) (.st cs) = .ok (.st (cs' (.sl nm 0 a b))) := fun nm a b => by show (match setL cs off (.sl nm 0 a b) with | some cs' => SB.ok (.st cs') | none => SB.no) = _; rw [hset]
  refine CallQ.inline Proofs.Tryz.f198 rfl rfl rfl rfl rfl ?_
  conv=>whnf
  rw [memV_load rfl h0 l1]
  conv=>whnf
  refine ⟨fun hlt => ?_, fun hlt => ?_⟩
  · have hlt := of_decide_eq_true hlt
    conv=>whnf
    refine ⟨by omega, ?_⟩
    conv=>whnf
    rw [memV_store rfl rfl (by exact h0) (s1 _ _ _)]
    conv=>whnf
    rw [memV_load rfl rfl (l2 _)]
    conv=>whnf
    refine ⟨by omega, ?_⟩
    conv=>whnf
    refine ⟨by simp only [resOf, V.lo, C.lo, Nat.blt, Bool.and_eq_true, Nat.ble_eq]; omega, h1 hlt⟩
  · have hlt := of_decide_eq_false hlt
    conv=>whnf
    rw [memV_load rfl h0 l1]
    conv=>whnf
    refine ⟨by omega, ?_⟩
    conv=>whnf
    refine ⟨by simp only [resOf, V.lo, C.lo, Nat.blt, Bool.and_eq_true, Nat.ble_eq]; omega, h2 (by omega)⟩
theorem rz150 {st : Nat → Option B} {m : Nat} {K : V → (Nat → Option B) → Nat → Prop} {cs : List C} {off j cap : Nat} {n : Int} (cs' : C → List C) {xs : List Int}
    (h0 : st 0 = some (.st cs)) (hc : cs[off]? = some (.sl j 0 cap cap)) (hset : ∀ c, setL cs off c = some (cs' c)) (hj0 : j ≠ 0) (hj : st j = some (.ar false .i8 xs)) (hcap : cap ≤ xs.length) (hjm : j < m + 1) (hn : 0 ≤ n ∧ n ≤ 1000000)
    (hk : ∀ Bf : Buf, n.toNat ≤ Bf.cap → Bf.xs.take n.toNat = List.replicate n.toNat (0 : Int) → K (.c (.sl (m + 1) 0 n.toNat Bf.cap)) (upd (upd (del st j) 0 (.st (cs' (.sl (m + 1) 0 Bf.cap Bf.cap)))) (m + 1) (.ar false .i8 Bf.xs)) (m + 2)) :
    CallQ 150 [.c (.p 0 off), .c (.i .i64 n)] st (m + 1) K := by
  refine CallQ.cut (ι := Buf) (fun Bf => n.toNat ≤ Bf.cap ∧ Bf.xs.take n.toNat = List.replicate n.toNat (0 : Int)) (fun Bf => .c (.sl (m + 1) 0 n.toNat Bf.cap)) (fun Bf => upd (upd (del st j) 0 (.st (cs' (.sl (m + 1) 0 Bf.cap Bf.cap)))) (m + 1) (.ar false .i8 Bf.xs)) (fun _=>m + 2) ?_ fun Bf h => hk Bf h.1 h.2
  refine CallQ.inline Proofs.Tryz.f150 rfl rfl rfl rfl rfl ?_
  conv=>whnf
  refine rs198 cs' h0 hc hset hjm hn (fun hlt => ?_) (fun hlt => ?_)
  · conv=>whnf
    rw [clearM_ar rfl rfl (b := List.replicate n.toNat (0 : Int)) (by rw [upd_other _ _ (by omega), upd_same])]
    conv=>whnf
    refine ⟨by simp, ?_⟩
    conv=>whnf
    refine ⟨by simp only [resOf, V.lo, C.lo, Nat.blt, Bool.and_eq_true, Nat.ble_eq]; omega, ⟨n.toNat, List.replicate n.toNat 0, List.replicate n.toNat false, by simp, by simp⟩, ⟨Nat.le_refl _, by simp⟩, ?_⟩
    refine RelM.same (Nat.le_succ _) rfl (fun nm h => by cases h with | c h => have : nm = m + 1 := h.symm; omega) (Nat.le_refl _) fun k x hk => ?_
    have ez : List.take 0 (List.replicate n.toNat (0 : Int)) ++ List.replicate n.toNat (0 : Int) ++ List.drop (0 + n.toNat) (List.replicate n.toNat (0 : Int)) = List.replicate n.toNat (0 : Int) := by simp
    by_cases h1 : k = m + 1
    · subst h1; rw [upd_same] at hk ⊢; rw [← hk]; exact congrArg (fun l => some (B.ar false .i8 l)) ez
    · rw [upd_other _ _ h1] at hk ⊢
      by_cases h2 : k = 0
      · subst h2; rw [upd_same] at hk ⊢; exact hk
      · rw [upd_other _ _ h2] at hk ⊢
        rw [upd_other _ _ h1]
        by_cases h3 : k = j
        · subst h3; rw [del_same] at hk; cases hk
        · rw [del_other _ h3] at hk; exact hk
  · conv=>whnf
    rw [clearM_ar rfl rfl hj]
    conv=>whnf
    refine ⟨by omega, ?_⟩
    conv=>whnf
    refine ⟨by simp only [resOf, V.lo, C.lo, Nat.blt, Bool.and_eq_true, Nat.ble_eq]; omega, ⟨cap, xs.take 0 ++ List.replicate n.toNat 0 ++ xs.drop (0 + n.toNat), List.replicate cap false, by simp; omega, by simp⟩, ⟨by dsimp only; omega, by simp⟩, ?_⟩
    exact RelM.row h0 hc (hset _) hj0 (fun k h => by cases h)
theorem rs199 {st : Nat → Option B} {m : Nat} {K : V → (Nat → Option B) → Nat → Prop} {cs : List C} {off j cap : Nat} {n : Int} (cs' : C → List C)
    (h0 : st 0 = some (.st cs)) (hc : cs[off]? = some (.sl j 0 cap cap)) (hset : ∀ c, setL cs off c = some (cs' c)) (hjm : j < m + 1) (hn : 0 ≤ n ∧ n ≤ 1000000)
    (h1 : (cap : Int) < n → K (.c (.sl (m + 1) 0 n.toNat n.toNat)) (upd (upd st (m + 1) (.ar false .i16 (List.replicate n.toNat 0))) 0 (.st (cs' (.sl (m + 1) 0 n.toNat n.toNat)))) (m + 2))
    (h2 : n ≤ (cap : Int) → K (.c (.sl j 0 n.toNat cap)) st (m + 1)) : CallQ 199 [.c (.p 0 off), .c (.i .i64 n)] st (m + 1) K := by
  have hget : ∀ c, (cs' c)[off]? = some c := fun c => (setL_get (hset c)).1
  have l1 : loadM 55 off (.st cs) = .ok (.c (.sl j 0 cap cap)) := by show (match cs[off]? with | some c => R.ok (.c c) | none => R.no) = _; rw [hc]
  have l2 : ∀ c, loadM 55 off (.st (cs' c)) = .ok (.c c) := fun c => by show (match (cs' c)[off]? with | some c => R.ok (.c c) | none => R.no) = _; rw [hget]
  have s1 : ∀ nm a b, storeB 55 off (.c (.sl nm 0 a b)) (.st cs) = .ok (.st (cs' (.sl nm 0 a b))) := fun nm a b => by show (match setL cs off (.sl nm 0 a b) with | some cs' => SB.ok (.st cs') | none => SB.no) = _; rw [hset]
  refine CallQ.inline Proofs.Tryz.f199 rfl rfl rfl rfl rfl ?_
  conv=>whnf
  rw [memV_load rfl h0 l1]
  conv=>whnf
  refine ⟨fun hlt => ?_, fun hlt => ?_⟩
  · have hlt := of_decide_eq_true hlt
    conv=>whnf
    refine ⟨by omega, ?_⟩
    conv=>whnf
    rw [memV_store rfl rfl (by exact h0) (s1 _ _ _)]
    conv=>whnf
    rw [memV_load rfl rfl (l2 _)]
    conv=>whnf
    refine ⟨by omega, ?_⟩
    conv=>whnf
    refine ⟨by simp only [resOf, V.lo, C.lo, Nat.blt, Bool.and_eq_true, Nat.ble_eq]; omega, h1 hlt⟩
  · have hlt := of_decide_eq_false hlt
    conv=>whnf
    rw [memV_load rfl h0 l1]
    conv=>whnf
    refine ⟨by omega, ?_⟩
    conv=>whnf
    refine ⟨by simp only [resOf, V.lo, C.lo, Nat.blt, Bool.and_eq_true, Nat.ble_eq]; omega, h2 (by omega)⟩
theorem rz153 {st : Nat → Option B} {m : Nat} {K : V → (Nat → Option B) → Nat → Prop} {cs : List C} {off j cap : Nat} {n : Int} (cs' : C → List C) {xs : List Int}
    (h0 : st 0 = some (.st cs)) (hc : cs[off]? = some (.sl j 0 cap cap)) (hset : ∀ c, setL cs off c = some (cs' c)) (hj0 : j ≠ 0) (hj : st j = some (.ar false .i16 xs)) (hcap : cap ≤ xs.length) (hjm : j < m + 1) (hn : 0 ≤ n ∧ n ≤ 1000000)
    (hk : ∀ Bf : Buf, n.toNat ≤ Bf.cap → Bf.xs.take n.toNat = List.replicate n.toNat (0 : Int) → K (.c (.sl (m + 1) 0 n.toNat Bf.cap)) (upd (upd (del st j) 0 (.st (cs' (.sl (m + 1) 0 Bf.cap Bf.cap)))) (m + 1) (.ar false .i16 Bf.xs)) (m + 2)) :
    CallQ 153 [.c (.p 0 off), .c (.i .i64 n)] st (m + 1) K := by
  refine CallQ.cut (ι := Buf) (fun Bf => n.toNat ≤ Bf.cap ∧ Bf.xs.take n.toNat = List.replicate n.toNat (0 : Int)) (fun Bf => .c (.sl (m + 1) 0 n.toNat Bf.cap)) (fun Bf => upd (upd (del st j) 0 (.st (cs' (.sl (m + 1) 0 Bf.cap Bf.cap)))) (m + 1) (.ar false .i16 Bf.xs)) (fun _=>m + 2) ?_ fun Bf h => hk Bf h.1 h.2
  refine CallQ.inline Proofs.Tryz.f153 rfl rfl rfl rfl rfl ?_
  conv=>whnf
  refine rs199 cs' h0 hc hset hjm hn (fun hlt => ?_) (fun hlt => ?_)
  · conv=>whnf
    rw [clearM_ar rfl rfl (b := List.replicate n.toNat (0 : Int)) (by rw [upd_other _ _ (by omega), upd_same])]
    conv=>whnf
    refine ⟨by simp, ?_⟩
    conv=>whnf
    refine ⟨by simp only [resOf, V.lo, C.lo, Nat.blt, Bool.and_eq_true, Nat.ble_eq]; omega, ⟨n.toNat, List.replicate n.toNat 0, List.replicate n.toNat false, by simp, by simp⟩, ⟨Nat.le_refl _, by simp⟩, ?_⟩
    refine RelM.same (Nat.le_succ _) rfl (fun nm h => by cases h with | c h => have : nm = m + 1 := h.symm; omega) (Nat.le_refl _) fun k x hk => ?_
    have ez : List.take 0 (List.replicate n.toNat (0 : Int)) ++ List.replicate n.toNat (0 : Int) ++ List.drop (0 + n.toNat) (List.replicate n.toNat (0 : Int)) = List.replicate n.toNat (0 : Int) := by simp
    by_cases h1 : k = m + 1
    · subst h1; rw [upd_same] at hk ⊢; rw [← hk]; exact congrArg (fun l => some (B.ar false .i16 l)) ez
    · rw [upd_other _ _ h1] at hk ⊢
      by_cases h2 : k = 0
      · subst h2; rw [upd_same] at hk ⊢; exact hk
      · rw [upd_other _ _ h2] at hk ⊢
        rw [upd_other _ _ h1]
        by_cases h3 : k = j
        · subst h3; rw [del_same] at hk; cases hk
        · rw [del_other _ h3] at hk; exact hk
  · conv=>whnf
    rw [clearM_ar rfl rfl hj]
    conv=>whnf
    refine ⟨by omega, ?_⟩
    conv=>whnf
    refine ⟨by simp only [resOf, V.lo, C.lo, Nat.blt, Bool.and_eq_true, Nat.ble_eq]; omega, ⟨cap, xs.take 0 ++ List.replicate n.toNat 0 ++ xs.drop (0 + n.toNat), List.replicate cap false, by simp; omega, by simp⟩, ⟨by dsimp only; omega, by simp⟩, ?_⟩
    exact RelM.row h0 hc (hset _) hj0 (fun k h => by cases h)
theorem rs200 {st : Nat → Option B} {m : Nat} {K : V → (Nat → Option B) → Nat → Prop} {cs : List C} {off j cap : Nat} {n : Int} (cs' : C → List C)
    (h0 : st 0 = some (.st cs)) (hc : cs[off]? = some (.sl j 0 cap cap)) (hset : ∀ c, setL cs off c = some (cs' c)) (hjm : j < m + 1) (hn : 0 ≤ n ∧ n ≤ 1000000)
    (h1 : (cap : Int) < n → K (.c (.sl (m + 1) 0 n.toNat n.toNat)) (upd (upd st (m + 1) (.ar false .u64 (List.replicate n.toNat 0))) 0 (.st (cs' (.sl (m + 1) 0 n.toNat n.toNat)))) (m + 2))
    (h2 : n ≤ (cap : Int) → K (.c (.sl j 0 n.toNat cap)) st (m + 1)) : CallQ 200 [.c (.p 0 off), .c (.i .i64 n)] st (m + 1) K := by
  have hget : ∀ c, (cs' c)[off]? = some c := fun c => (setL_get (hset c)).1
  have l1 : loadM 59 off (.st cs) = .ok (.c (.sl j 0 cap cap)) := by show (match cs[off]? with | some c => R.ok (.c c) | none => R.no) = _; rw [hc]
  have l2 : ∀ c, loadM 59 off (.st (cs' c)) = .ok (.c c) := fun c => by show (match (cs' c)[off]? with | some c => R.ok (.c c) | none => R.no) = _; rw [hget]
  have s1 : ∀ nm a b, storeB 59 off (.c (.sl nm 0 a b)) (.st cs) = .ok (.st (cs' (.sl nm 0 a b))) := fun nm a b => by show (match setL cs off (.sl nm 0 a b) with | some cs' => SB.ok (.st cs') | none => SB.no) = _; rw [hset]
  refine CallQ.inline Proofs.Tryz.f200 rfl rfl rfl rfl rfl ?_
  conv=>whnf
  rw [memV_load rfl h0 l1]
  conv=>whnf
  refine ⟨fun hlt => ?_, fun hlt => ?_⟩
  · have hlt := of_decide_eq_true hlt
    conv=>whnf
    refine ⟨by omega, ?_⟩
    conv=>whnf
    rw [memV_store rfl rfl (by exact h0) (s1 _ _ _)]
    conv=>whnf
    rw [memV_load rfl rfl (l2 _)]
    conv=>whnf
    refine ⟨by omega, ?_⟩
    conv=>whnf
    refine ⟨by simp only [resOf, V.lo, C.lo, Nat.blt, Bool.and_eq_true, Nat.ble_eq]; omega, h1 hlt⟩
  · have hlt := of_decide_eq_false hlt
    conv=>whnf
    rw [memV_load rfl h0 l1]
    conv=>whnf
    refine ⟨by omega, ?_⟩
    conv=>whnf
    refine ⟨by simp only [resOf, V.lo, C.lo, Nat.blt, Bool.and_eq_true, Nat.ble_eq]; omega, h2 (by omega)⟩
theorem rz159 {st : Nat → Option B} {m : Nat} {K : V → (Nat → Option B) → Nat → Prop} {cs : List C} {off j cap : Nat} {n : Int} (cs' : C → List C) {xs : List Int}
    (h0 : st 0 = some (.st cs)) (hc : cs[off]? = some (.sl j 0 cap cap)) (hset : ∀ c, setL cs off c = some (cs' c)) (hj0 : j ≠ 0) (hj : st j = some (.ar false .u64 xs)) (hcap : cap ≤ xs.length) (hjm : j < m + 1) (hn : 0 ≤ n ∧ n ≤ 1000000)
    (hk : ∀ Bf : Buf, n.toNat ≤ Bf.cap → Bf.xs.take n.toNat = List.replicate n.toNat (0 : Int) → K (.c (.sl (m + 1) 0 n.toNat Bf.cap)) (upd (upd (del st j) 0 (.st (cs' (.sl (m + 1) 0 Bf.cap Bf.cap)))) (m + 1) (.ar false .u64 Bf.xs)) (m + 2)) :
    CallQ 159 [.c (.p 0 off), .c (.i .i64 n)] st (m + 1) K := by
  refine CallQ.cut (ι := Buf) (fun Bf => n.toNat ≤ Bf.cap ∧ Bf.xs.take n.toNat = List.replicate n.toNat (0 : Int)) (fun Bf => .c (.sl (m + 1) 0 n.toNat Bf.cap)) (fun Bf => upd (upd (del st j) 0 (.st (cs' (.sl (m + 1) 0 Bf.cap Bf.cap)))) (m + 1) (.ar false .u64 Bf.xs)) (fun _=>m + 2) ?_ fun Bf h => hk Bf h.1 h.2
  refine CallQ.inline Proofs.Tryz.f159 rfl rfl rfl rfl rfl ?_
  conv=>whnf
  refine rs200 cs' h0 hc hset hjm hn (fun hlt => ?_) (fun hlt => ?_)
  · conv=>whnf
    rw [clearM_ar rfl rfl (b := List.replicate n.toNat (0 : Int)) (by rw [upd_other _ _ (by omega), upd_same])]
    conv=>whnf
    refine ⟨by simp, ?_⟩
    conv=>whnf
    refine ⟨by simp only [resOf, V.lo, C.lo, Nat.blt, Bool.and_eq_true, Nat.ble_eq]; omega, ⟨n.toNat, List.replicate n.toNat 0, List.replicate n.toNat false, by simp, by simp⟩, ⟨Nat.le_refl _, by simp⟩, ?_⟩
    refine RelM.same (Nat.le_succ _) rfl (fun nm h => by cases h with | c h => have : nm = m + 1 := h.symm; omega) (Nat.le_refl _) fun k x hk => ?_
    have ez : List.take 0 (List.replicate n.toNat (0 : Int)) ++ List.replicate n.toNat (0 : Int) ++ List.drop (0 + n.toNat) (List.replicate n.toNat (0 : Int)) = List.replicate n.toNat (0 : Int) := by simp
    by_cases h1 : k = m + 1
    · subst h1; rw [upd_same] at hk ⊢; rw [← hk]; exact congrArg (fun l => some (B.ar false .u64 l)) ez
    · rw [upd_other _ _ h1] at hk ⊢
      by_cases h2 : k = 0
      · subst h2; rw [upd_same] at hk ⊢; exact hk
      · rw [upd_other _ _ h2] at hk ⊢
        rw [upd_other _ _ h1]
        by_cases h3 : k = j
        · subst h3; rw [del_same] at hk; cases hk
        · rw [del_other _ h3] at hk; exact hk
  · conv=>whnf
    rw [clearM_ar rfl rfl hj]
    conv=>whnf
    refine ⟨by omega, ?_⟩
    conv=>whnf
    refine ⟨by simp only [resOf, V.lo, C.lo, Nat.blt, Bool.and_eq_true, Nat.ble_eq]; omega, ⟨cap, xs.take 0 ++ List.replicate n.toNat 0 ++ xs.drop (0 + n.toNat), List.replicate cap false, by simp; omega, by simp⟩, ⟨by dsimp only; omega, by simp⟩, ?_⟩
    exact RelM.row h0 hc (hset _) hj0 (fun k h => by cases h)
theorem rs224 {st : Nat → Option B} {m : Nat} {K : V → (Nat → Option B) → Nat → Prop} {cs : List C} {off j cap : Nat} {n : Int} (cs' : C → List C)
    (h0 : st 0 = some (.st cs)) (hc : cs[off]? = some (.sl j 0 cap cap)) (hset : ∀ c, setL cs off c = some (cs' c)) (hjm : j < m + 1) (hn : 0 ≤ n ∧ n ≤ 1000000)
    (h1 : (cap : Int) < n → K (.c (.sl (m + 1) 0 n.toNat n.toNat)) (upd (upd st (m + 1) (.ar false .i64 (List.replicate n.toNat 0))) 0 (.st (cs' (.sl (m + 1) 0 n.toNat n.toNat)))) (m + 2))
    (h2 : n ≤ (cap : Int) → K (.c (.sl j 0 n.toNat cap)) st (m + 1)) : CallQ 224 [.c (.p 0 off), .c (.i .i64 n)] st (m + 1) K := by
  have hget : ∀ c, (cs' c)[off]? = some c := fun c => (setL_get (hset c)).1
  have l1 : loadM 41 off (.st cs) = .ok (.c (.sl j 0 cap cap)) := by show (match cs[off]? with | some c => R.ok (.c c) | none => R.no) = _; rw [hc]
  have l2 : ∀ c, loadM 41 off (.st (cs' c)) = .ok (.c c) := fun c => by show (match (cs' c)[off]? with | some c => R.ok (.c c) | none => R.no) = _; rw [hget]
  have s1 : ∀ nm a b, storeB 41 off (.c (.sl nm 0 a b)) (.st cs) = .ok (.st (cs' (.sl nm 0 a b))) := fun nm a b => by show (match setL cs off (.sl nm 0 a b) with | some cs' => SB.ok (.st cs') | none => SB.no) = _; rw [hset]
  refine CallQ.inline Proofs.Tryz.f224 rfl rfl rfl rfl rfl ?_
  conv=>whnf
  rw [memV_load rfl h0 l1]
  conv=>whnf
  refine ⟨fun hlt => ?_, fun hlt => ?_⟩
  · have hlt := of_decide_eq_true hlt
    conv=>whnf
    refine ⟨by omega, ?_⟩
    conv=>whnf
    rw [memV_store rfl rfl (by exact h0) (s1 _ _ _)]
    conv=>whnf
    rw [memV_load rfl rfl (l2 _)]
    conv=>whnf
    refine ⟨by omega, ?_⟩
    conv=>whnf
    refine ⟨by simp only [resOf, V.lo, C.lo, Nat.blt, Bool.and_eq_true, Nat.ble_eq]; omega, h1 hlt⟩
  · have hlt := of_decide_eq_false hlt
    conv=>whnf
    rw [memV_load rfl h0 l1]
    conv=>whnf
    refine ⟨by omega, ?_⟩
    conv=>whnf
    refine ⟨by simp only [resOf, V.lo, C.lo, Nat.blt, Bool.and_eq_true, Nat.ble_eq]; omega, h2 (by omega)⟩
theorem rz176 {st : Nat → Option B} {m : Nat} {K : V → (Nat → Option B) → Nat → Prop} {cs : List C} {off j cap : Nat} {n : Int} (cs' : C → List C) {xs : List Int}
    (h0 : st 0 = some (.st cs)) (hc : cs[off]? = some (.sl j 0 cap cap)) (hset : ∀ c, setL cs off c = some (cs' c)) (hj0 : j ≠ 0) (hj : st j = some (.ar false .i64 xs)) (hcap : cap ≤ xs.length) (hjm : j < m + 1) (hn : 0 ≤ n ∧ n ≤ 1000000)
    (hk : ∀ Bf : Buf, n.toNat ≤ Bf.cap → Bf.xs.take n.toNat = List.replicate n.toNat (0 : Int) → K (.c (.sl (m + 1) 0 n.toNat Bf.cap)) (upd (upd (del st j) 0 (.st (cs' (.sl (m + 1) 0 Bf.cap Bf.cap)))) (m + 1) (.ar false .i64 Bf.xs)) (m + 2)) :
    CallQ 176 [.c (.p 0 off), .c (.i .i64 n)] st (m + 1) K := by
  refine CallQ.cut (ι := Buf) (fun Bf => n.toNat ≤ Bf.cap ∧ Bf.xs.take n.toNat = List.replicate n.toNat (0 : Int)) (fun Bf => .c (.sl (m + 1) 0 n.toNat Bf.cap)) (fun Bf => upd (upd (del st j) 0 (.st (cs' (.sl (m + 1) 0 Bf.cap Bf.cap)))) (m + 1) (.ar false .i64 Bf.xs)) (fun _=>m + 2) ?_ fun Bf h => hk Bf h.1 h.2
  refine CallQ.inline Proofs.Tryz.f176 rfl rfl rfl rfl rfl ?_
  conv=>whnf
  refine rs224 cs' h0 hc hset hjm hn (fun hlt => ?_) (fun hlt => ?_)
  · conv=>whnf
    rw [clearM_ar rfl rfl (b := List.replicate n.toNat (0 : Int)) (by rw [upd_other _ _ (by omega), upd_same])]
    conv=>whnf
    refine ⟨by simp, ?_⟩
    conv=>whnf
    refine ⟨by simp only [resOf, V.lo, C.lo, Nat.blt, Bool.and_eq_true, Nat.ble_eq]; omega, ⟨n.toNat, List.replicate n.toNat 0, List.replicate n.toNat false, by simp, by simp⟩, ⟨Nat.le_refl _, by simp⟩, ?_⟩
    refine RelM.same (Nat.le_succ _) rfl (fun nm h => by cases h with | c h => have : nm = m + 1 := h.symm; omega) (Nat.le_refl _) fun k x hk => ?_
    have ez : List.take 0 (List.replicate n.toNat (0 : Int)) ++ List.replicate n.toNat (0 : Int) ++ List.drop (0 + n.toNat) (List.replicate n.toNat (0 : Int)) = List.replicate n.toNat (0 : Int) := by simp
    by_cases h1 : k = m + 1
    · subst h1; rw [upd_same] at hk ⊢; rw [← hk]; exact congrArg (fun l => some (B.ar false .i64 l)) ez
    · rw [upd_other _ _ h1] at hk ⊢
      by_cases h2 : k = 0
      · subst h2; rw [upd_same] at hk ⊢; exact hk
      · rw [upd_other _ _ h2] at hk ⊢
        rw [upd_other _ _ h1]
        by_cases h3 : k = j
        · subst h3; rw [del_same] at hk; cases hk
        · rw [del_other _ h3] at hk; exact hk
  · conv=>whnf
    rw [clearM_ar rfl rfl hj]
    conv=>whnf
    refine ⟨by omega, ?_⟩
    conv=>whnf
    refine ⟨by simp only [resOf, V.lo, C.lo, Nat.blt, Bool.and_eq_true, Nat.ble_eq]; omega, ⟨cap, xs.take 0 ++ List.replicate n.toNat 0 ++ xs.drop (0 + n.toNat), List.replicate cap false, by simp; omega, by simp⟩, ⟨by dsimp only; omega, by simp⟩, ?_⟩
    exact RelM.row h0 hc (hset _) hj0 (fun k h => by cases h)
theorem rs225 {st : Nat → Option B} {m : Nat} {K : V → (Nat → Option B) → Nat → Prop} {cs : List C} {off j cap : Nat} {n : Int} (cs' : C → List C)
    (h0 : st 0 = some (.st cs)) (hc : cs[off]? = some (.sl j 0 cap cap)) (hset : ∀ c, setL cs off c = some (cs' c)) (hjm : j < m + 1) (hn : 0 ≤ n ∧ n ≤ 1000000)
    (h1 : (cap : Int) < n → K (.c (.sl (m + 1) 0 n.toNat n.toNat)) (upd (upd st (m + 1) (.ar false .u8 (List.replicate n.toNat 0))) 0 (.st (cs' (.sl (m + 1) 0 n.toNat n.toNat)))) (m + 2))
    (h2 : n ≤ (cap : Int) → K (.c (.sl j 0 n.toNat cap)) st (m + 1)) : CallQ 225 [.c (.p 0 off), .c (.i .i64 n)] st (m + 1) K := by
  have hget : ∀ c, (cs' c)[off]? = some c := fun c => (setL_get (hset c)).1
  have l1 : loadM 49 off (.st cs) = .ok (.c (.sl j 0 cap cap)) := by show (match cs[off]? with | some c => R.ok (.c c) | none => R.no) = _; rw [hc]
  have l2 : ∀ c, loadM 49 off (.st (cs' c)) = .ok (.c c) := fun c => by show (match (cs' c)[off]? with | some c => R.ok (.c c) | none => R.no) = _; rw [hget]
  have s1 : ∀ nm a b, storeB 49 off (.c (.sl nm 0 a b)) (.st cs) = .ok (.st (cs' (.sl nm 0 a b))) := fun nm a b => by show (match setL cs off (.sl nm 0 a b) with | some cs' => SB.ok (.st cs') | none => SB.no) = _; rw [hset]
  refine CallQ.inline Proofs.Tryz.f225 rfl rfl rfl rfl rfl ?_
  conv=>whnf
  rw [memV_load rfl h0 l1]
  conv=>whnf
  refine ⟨fun hlt => ?_, fun hlt => ?_⟩
  · have hlt := of_decide_eq_true hlt
    conv=>whnf
    refine ⟨by omega, ?_⟩
    conv=>whnf
    rw [memV_store rfl rfl (by exact h0) (s1 _ _ _)]
    conv=>whnf
    rw [memV_load rfl rfl (l2 _)]
    conv=>whnf
    refine ⟨by omega, ?_⟩
    conv=>whnf
    refine ⟨by simp only [resOf, V.lo, C.lo, Nat.blt, Bool.and_eq_true, Nat.ble_eq]; omega, h1 hlt⟩
  · have hlt := of_decide_eq_false hlt
    conv=>whnf
    rw [memV_load rfl h0 l1]
    conv=>whnf
    refine ⟨by omega, ?_⟩
    conv=>whnf
    refine ⟨by simp only [resOf, V.lo, C.lo, Nat.blt, Bool.and_eq_true, Nat.ble_eq]; omega, h2 (by omega)⟩
theorem rz189 {st : Nat → Option B} {m : Nat} {K : V → (Nat → Option B) → Nat → Prop} {cs : List C} {off j cap : Nat} {n : Int} (cs' : C → List C) {xs : List Int}
    (h0 : st 0 = some (.st cs)) (hc : cs[off]? = some (.sl j 0 cap cap)) (hset : ∀ c, setL cs off c = some (cs' c)) (hj0 : j ≠ 0) (hj : st j = some (.ar false .u8 xs)) (hcap : cap ≤ xs.length) (hjm : j < m + 1) (hn : 0 ≤ n ∧ n ≤ 1000000)
    (hk : ∀ Bf : Buf, n.toNat ≤ Bf.cap → Bf.xs.take n.toNat = List.replicate n.toNat (0 : Int) → K (.c (.sl (m + 1) 0 n.toNat Bf.cap)) (upd (upd (del st j) 0 (.st (cs' (.sl (m + 1) 0 Bf.cap Bf.cap)))) (m + 1) (.ar false .u8 Bf.xs)) (m + 2)) :
    CallQ 189 [.c (.p 0 off), .c (.i .i64 n)] st (m + 1) K := by
  refine CallQ.cut (ι := Buf) (fun Bf => n.toNat ≤ Bf.cap ∧ Bf.xs.take n.toNat = List.replicate n.toNat (0 : Int)) (fun Bf => .c (.sl (m + 1) 0 n.toNat Bf.cap)) (fun Bf => upd (upd (del st j) 0 (.st (cs' (.sl (m + 1) 0 Bf.cap Bf.cap)))) (m + 1) (.ar false .u8 Bf.xs)) (fun _=>m + 2) ?_ fun Bf h => hk Bf h.1 h.2
  refine CallQ.inline Proofs.Tryz.f189 rfl rfl rfl rfl rfl ?_
  conv=>whnf
  refine rs225 cs' h0 hc hset hjm hn (fun hlt => ?_) (fun hlt => ?_)
  · conv=>whnf
    rw [clearM_ar rfl rfl (b := List.replicate n.toNat (0 : Int)) (by rw [upd_other _ _ (by omega), upd_same])]
    conv=>whnf
    refine ⟨by simp, ?_⟩
    conv=>whnf
    refine ⟨by simp only [resOf, V.lo, C.lo, Nat.blt, Bool.and_eq_true, Nat.ble_eq]; omega, ⟨n.toNat, List.replicate n.toNat 0, List.replicate n.toNat false, by simp, by simp⟩, ⟨Nat.le_refl _, by simp⟩, ?_⟩
    refine RelM.same (Nat.le_succ _) rfl (fun nm h => by cases h with | c h => have : nm = m + 1 := h.symm; omega) (Nat.le_refl _) fun k x hk => ?_
    have ez : List.take 0 (List.replicate n.toNat (0 : Int)) ++ List.replicate n.toNat (0 : Int) ++ List.drop (0 + n.toNat) (List.replicate n.toNat (0 : Int)) = List.replicate n.toNat (0 : Int) := by simp
    by_cases h1 : k = m + 1
    · subst h1; rw [upd_same] at hk ⊢; rw [← hk]; exact congrArg (fun l => some (B.ar false .u8 l)) ez
    · rw [upd_other _ _ h1] at hk ⊢
      by_cases h2 : k = 0
      · subst h2; rw [upd_same] at hk ⊢; exact hk
      · rw [upd_other _ _ h2] at hk ⊢
        rw [upd_other _ _ h1]
        by_cases h3 : k = j
        · subst h3; rw [del_same] at hk; cases hk
        · rw [del_other _ h3] at hk; exact hk
  · conv=>whnf
    rw [clearM_ar rfl rfl hj]
    conv=>whnf
    refine ⟨by omega, ?_⟩
    conv=>whnf
    refine ⟨by simp only [resOf, V.lo, C.lo, Nat.blt, Bool.and_eq_true, Nat.ble_eq]; omega, ⟨cap, xs.take 0 ++ List.replicate n.toNat 0 ++ xs.drop (0 + n.toNat), List.replicate cap false, by simp; omega, by simp⟩, ⟨by dsimp only; omega, by simp⟩, ?_⟩
    exact RelM.row h0 hc (hset _) hj0 (fun k h => by cases h)
theorem rs103 {st : Nat → Option B} {m : Nat} {K : V → (Nat → Option B) → Nat → Prop} {cs : List C} {off j cap : Nat} {n : Int} (cs' : C → List C)
    (h0 : st 0 = some (.st cs)) (hc : cs[off]? = some (.sl j 0 cap cap)) (hset : ∀ c, setL cs off c = some (cs' c)) (hjm : j < m + 1) (hn : 0 ≤ n ∧ n ≤ 1000000)
    (h1 : (cap : Int) < n → K (.c (.sl (m + 1) 0 n.toNat n.toNat)) (upd (upd st (m + 1) (.bl false (List.replicate n.toNat false))) 0 (.st (cs' (.sl (m + 1) 0 n.toNat n.toNat)))) (m + 2))
    (h2 : n ≤ (cap : Int) → K (.c (.sl j 0 n.toNat cap)) st (m + 1)) : CallQ 103 [.c (.p 0 off), .c (.i .i64 n)] st (m + 1) K := by
  have hget : ∀ c, (cs' c)[off]? = some c := fun c => (setL_get (hset c)).1
  have l1 : loadM 35 off (.st cs) = .ok (.c (.sl j 0 cap cap)) := by show (match cs[off]? with | some c => R.ok (.c c) | none => R.no) = _; rw [hc]
  have l2 : ∀ c, loadM 35 off (.st (cs' c)) = .ok (.c c) := fun c => by show (match (cs' c)[off]? with | some c => R.ok (.c c) | none => R.no) = _; rw [hget]
  have s1 : ∀ nm a b, storeB 35 off (.c (.sl nm 0 a b)) (.st cs) = .ok (.st (cs' (.sl nm 0 a b))) := fun nm a b => by show (match setL cs off (.sl nm 0 a b) with | some cs' => SB.ok (.st cs') | none => SB.no) = _; rw [hset]
  refine CallQ.inline Proofs.Tryz.f103 rfl rfl rfl rfl rfl ?_
  conv=>whnf
  rw [memV_load rfl h0 l1]
  conv=>whnf
  refine ⟨fun hlt => ?_, fun hlt => ?_⟩
  · have hlt := of_decide_eq_true hlt
    conv=>whnf
    refine ⟨by omega, ?_⟩
    conv=>whnf
    rw [memV_store rfl rfl (by exact h0) (s1 _ _ _)]
    conv=>whnf
    rw [memV_load rfl rfl (l2 _)]
    conv=>whnf
    refine ⟨by omega, ?_⟩
    conv=>whnf
    refine ⟨by simp only [resOf, V.lo, C.lo, Nat.blt, Bool.and_eq_true, Nat.ble_eq]; omega, h1 hlt⟩
  · have hlt := of_decide_eq_false hlt
    conv=>whnf
    rw [memV_load rfl h0 l1]
    conv=>whnf
    refine ⟨by omega, ?_⟩
    conv=>whnf
    refine ⟨by simp only [resOf, V.lo, C.lo, Nat.blt, Bool.and_eq_true, Nat.ble_eq]; omega, h2 (by omega)⟩
theorem rz88 {st : Nat → Option B} {m : Nat} {K : V → (Nat → Option B) → Nat → Prop} {cs : List C} {off j cap : Nat} {n : Int} (cs' : C → List C) {xs : List Bool}
    (h0 : st 0 = some (.st cs)) (hc : cs[off]? = some (.sl j 0 cap cap)) (hset : ∀ c, setL cs off c = some (cs' c)) (hj0 : j ≠ 0) (hj : st j = some (.bl false xs)) (hcap : cap ≤ xs.length) (hjm : j < m + 1) (hn : 0 ≤ n ∧ n ≤ 1000000)
    (hk : ∀ Bf : Buf, n.toNat ≤ Bf.cap → Bf.ys.take n.toNat = List.replicate n.toNat false → K (.c (.sl (m + 1) 0 n.toNat Bf.cap)) (upd (upd (del st j) 0 (.st (cs' (.sl (m + 1) 0 Bf.cap Bf.cap)))) (m + 1) (.bl false Bf.ys)) (m + 2)) :
    CallQ 88 [.c (.p 0 off), .c (.i .i64 n)] st (m + 1) K := by
  refine CallQ.cut (ι := Buf) (fun Bf => n.toNat ≤ Bf.cap ∧ Bf.ys.take n.toNat = List.replicate n.toNat false) (fun Bf => .c (.sl (m + 1) 0 n.toNat Bf.cap)) (fun Bf => upd (upd (del st j) 0 (.st (cs' (.sl (m + 1) 0 Bf.cap Bf.cap)))) (m + 1) (.bl false Bf.ys)) (fun _=>m + 2) ?_ fun Bf h => hk Bf h.1 h.2
  refine CallQ.inline Proofs.Tryz.f88 rfl rfl rfl rfl rfl ?_
  conv=>whnf
  refine rs103 cs' h0 hc hset hjm hn (fun hlt => ?_) (fun hlt => ?_)
  · conv=>whnf
    rw [clearM_bl rfl rfl (b := List.replicate n.toNat false) (by rw [upd_other _ _ (by omega), upd_same])]
    conv=>whnf
    refine ⟨by simp, ?_⟩
    conv=>whnf
    refine ⟨by simp only [resOf, V.lo, C.lo, Nat.blt, Bool.and_eq_true, Nat.ble_eq]; omega, ⟨n.toNat, List.replicate n.toNat 0, List.replicate n.toNat false, by simp, by simp⟩, ⟨Nat.le_refl _, by simp⟩, ?_⟩
    refine RelM.same (Nat.le_succ _) rfl (fun nm h => by cases h with | c h => have : nm = m + 1 := h.symm; omega) (Nat.le_refl _) fun k x hk => ?_
    have ez : List.take 0 (List.replicate n.toNat false) ++ List.replicate n.toNat false ++ List.drop (0 + n.toNat) (List.replicate n.toNat false) = List.replicate n.toNat false := by simp
    by_cases h1 : k = m + 1
    · subst h1; rw [upd_same] at hk ⊢; rw [← hk]; exact congrArg (fun l => some (B.bl false l)) ez
    · rw [upd_other _ _ h1] at hk ⊢
      by_cases h2 : k = 0
      · subst h2; rw [upd_same] at hk ⊢; exact hk
      · rw [upd_other _ _ h2] at hk ⊢
        rw [upd_other _ _ h1]
        by_cases h3 : k = j
        · subst h3; rw [del_same] at hk; cases hk
        · rw [del_other _ h3] at hk; exact hk
  · conv=>whnf
    rw [clearM_bl rfl rfl hj]
    conv=>whnf
    refine ⟨by omega, ?_⟩
    conv=>whnf
    refine ⟨by simp only [resOf, V.lo, C.lo, Nat.blt, Bool.and_eq_true, Nat.ble_eq]; omega, ⟨cap, List.replicate cap 0, xs.take 0 ++ List.replicate n.toNat false ++ xs.drop (0 + n.toNat), by simp, by simp; omega⟩, ⟨by dsimp only; omega, by simp⟩, ?_⟩
    exact RelM.row h0 hc (hset _) hj0 (fun k h => by cases h)
end Go.SX
