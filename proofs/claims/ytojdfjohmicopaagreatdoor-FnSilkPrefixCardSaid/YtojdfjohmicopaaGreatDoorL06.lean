/- A part of the proof: the SILK decoder of the given program, walked by an executor that is proved sound. No statement of the program is proved in this text. -/
import Derived.Test.YtojdfjohmicopaaGreatDoorL05
set_option linter.all false
set_option maxRecDepth 100000
namespace Go.SX
open Go
def catB : B → B → Option (B × Nat)
  | .ar _ k xs, .ar _ k' ys => bif kEq k k' then some (.ar true k (xs ++ ys), (xs ++ ys).length) else none
  | .bl _ xs, .bl _ ys => some (.bl true (xs ++ ys), (xs ++ ys).length)
  | .ss _ k xs, .ss _ k' ys => bif kEq k k' then some (.ss true k (xs ++ ys), (xs ++ ys).length) else none
  | .rs _ sz xs, .rs _ sz' ys => bif Nat.beq sz sz' then some (.rs true sz (xs ++ ys), (xs ++ ys).length) else none
  | _, _ => none
def voidB : B → B
  | .ar _ k _ => .ar true k []
  | .bl _ _ => .bl true []
  | .ss _ k _ => .ss true k []
  | .rs _ sz _ => .rs true sz []
  | .st _ => .st []
  | .un _ => .un 0
def rowLen : B → Option (Nat × Nat)
  | .ar true _ xs => some (xs.length, 1)
  | .bl true xs => some (xs.length, 1)
  | .ss true _ xs => some (xs.length, 1)
  | .rs true sz xs => some (xs.length, sz)
  | _ => none
inductive Src where
  | no
  | nil
  | ok (φ : Prop) (b : B) (st : Nat → Option B)
def Src.sat (s : Src) (N : Prop) (Q : B → (Nat → Option B) → Prop) : Prop :=
  match s with
  | .no => True
  | .nil => N
  | .ok φ b st => φ → Q b st
def srcC (e : Nat) (c : C) (st : Nat → Option B) : Src :=
  match c with
  | .nsl => .nil
  | .is k xs => match (ty e).sz with
    | 1 => .ok True (.ar false k xs) st
    | _ => .no
  | .osl nm len => match (ty e).sz, st nm with
    | 1, some (.ar _ k xs) => .ok (len = xs.length) (.ar false k xs) st
    | 1, some (.bl _ xs) => .ok (len = xs.length) (.bl false xs) st
    | _, _ => .no
  | .sl nm off len _ => match st nm with
    | some (.ar _ k xs) => match (ty e).sz with
      | 1 => .ok (off + len ≤ xs.length) (.ar false k ((xs.drop off).take len)) st
      | _ => .no
    | some (.st cs) => match off, len, (ty e).d with
      | 0, 1, .slice _ => match cs with
        | [c] => match frzC c st with
          | .ok (.is k xs) st1 => match (ty e).sz with
            | 1 => .ok True (.ss false k [xs]) st1
            | _ => .no
          | .cond φ (.is k xs) st1 => match (ty e).sz with
            | 1 => .ok φ (.ss false k [xs]) st1
            | _ => .no
          | _ => .no
        | _ => .no
      | 0, 1, .st _ => match Nat.beq cs.length (ty e).sz, frzL cs st with
        | true, .ok cs st1 => .ok True (.rs false (ty e).sz [cs]) st1
        | true, .cond φ cs st1 => .ok φ (.rs false (ty e).sz [cs]) st1
        | _, _ => .no
      | _, _, _ => .no
    | _ => .no
  | _ => .no
def appM (t : Nat) (base src : C) (st : Nat → Option B) (nx : Nat) : M :=
  match (ty t).d with
  | .slice e => match (ty e).z, Nat.ble (ty e).by_ 32768 with
    | _ :: _, true => match srcC e src st with
      | .no => .no
      | .nil => match base with
        | .nsl => .ok (.c .nsl) st nx
        | .osl nm n => .ok (.c (.osl nm n)) st nx
        | _ => .no
      | .ok φ b st1 => match base with
        | .nsl => match catB (voidB b) b with
          | some (b', n') => .cond (φ ∧ n' ≤ 4294967296) (.c (.osl nx n')) (upd st1 nx b') (nx + 1)
          | none => .no
        | .osl nm n => match st1 nm with
          | some b0 => match rowLen b0 with
            | some (n0, _) => match catB b0 b with
              | some (b', n') => .cond (φ ∧ n = n0 ∧ n' ≤ 4294967296) (.c (.osl nx n')) (upd (del st1 nm) nx b') (nx + 1)
              | none => .no
            | none => .no
          | none => .no
        | _ => .no
    | _, _ => .no
  | _ => .no
structure SrcIs (w : World) (X : Ctx) (sz : Nat) (u : Value) (b : B) (m : Nat) (news : List Value) : Prop where
  len : news.length = m * sz
  bsz : b.size = m * sz
  esz : rowLen (voidB b) = some (0, sz)
  bc : ∀ j x, news[j]? = some x → BCell X b j x
  one : ∀ x ∈ news, x.oneCell' = true
  at_ : (u = .slice none 0 0 ∧ m = 0) ∨ ∃ a c, u = .slice (some a) m c ∧ ∀ j x, news[j]? = some x → w.cell? (a.add j) = some x
theorem Den.is_one {X : Ctx} {k : IntKind} {xs : List Int} {u : Value} (h : Den X (.is k xs) u) : u.oneCell' = true := by cases h <;> rfl
theorem srcIs_is {X : Ctx} {k : IntKind} {xs : List Int} {u : Value} (h : Den X (.is k xs) u) : SrcIs X.w X 1 u (.ar false k xs) xs.length (xs.map (.int k)) := by
  refine ⟨by simp, by simp [B.size], rfl, fun j x hj => ?_, fun x hx => ?_, ?_⟩
  · rw [List.getElem?_map, Option.map_eq_some_iff] at hj
    obtain ⟨n, hn, rfl⟩ := hj
    exact .ar hn
  · obtain ⟨n, _, rfl⟩ := List.mem_map.1 hx; rfl
  · cases h with
    | is0 => exact .inl ⟨rfl, rfl⟩
    | is hI hle h =>
      refine .inr ⟨_, _, rfl, fun j x hj => ?_⟩
      rw [List.getElem?_map, Option.map_eq_some_iff] at hj
      obtain ⟨n, hn, rfl⟩ := hj
      rw [add_some]; exact h j n hn
theorem srcIs_row {H : Hp} {st : Nat → Option B} {nx : Nat} {X : Ctx} (hs : Hs H st nx X) {nm : Nat} {b b' : B} (hb : st nm = some b) {f : Nat → Value} {off m : Nat} {u : Value} (hle : off + m ≤ b.size)
    (hf : ∀ j x, j < m → BCell X b (off + j) x → x = f j) (hf' : ∀ j, j < m → BCell X b' j (f j)) (h1 : ∀ j, (f j).oneCell' = true) (hbs : b'.size = m) (he : rowLen (voidB b') = some (0, 1))
    (hu : (X.ν nm = none ∧ u = .slice none 0 0 ∧ m = 0) ∨ ∃ bl c cap, X.ν nm = some (bl, c) ∧ u = .slice (some ⟨bl, off, none⟩) m cap) : SrcIs X.w X 1 u b' m ((List.range m).map f) := by
  refine ⟨by simp, by simp [hbs], he, fun j x hj => ?_, fun x hx => ?_, ?_⟩
  · rw [List.getElem?_map, Option.map_eq_some_iff] at hj
    obtain ⟨n, hn, rfl⟩ := hj
    obtain ⟨hl, rfl⟩ := List.getElem?_eq_some_iff.1 hn
    simp at hl
    simpa using hf' j hl
  · obtain ⟨n, _, rfl⟩ := List.mem_map.1 hx; exact h1 n
  · rcases hu with ⟨_, rfl, rfl⟩ | ⟨bl, c, cap, hν, rfl⟩
    · exact .inl ⟨rfl, rfl⟩
    · refine .inr ⟨_, _, rfl, fun j x hj => ?_⟩
      rw [List.getElem?_map, Option.map_eq_some_iff] at hj
      obtain ⟨n, hn, rfl⟩ := hj
      obtain ⟨hl, rfl⟩ := List.getElem?_eq_some_iff.1 hn
      simp at hl
      have hbd := hs.blk nm b hb
      simp only [BDen, hν] at hbd
      obtain ⟨cur, tb, hh, hc⟩ := hbd
      obtain ⟨v, hv, hv2⟩ := hc.cell (off + j) (by omega)
      rw [add_some, cell_block hh, hv]
      simp [hf j v hl hv2]
theorem srcIs_frz {w : World} {X X' : Ctx} {sz : Nat} {u : Value} {b : B} {m : Nat} {news : List Value} (h : SrcIs w X sz u b m news) (hI : ∀ b, X.I b → X'.I b)
    (hc : ∀ a u, X.I a.block → X.w.cell? a = some u → X'.w.cell? a = some u) : SrcIs w X' sz u b m news :=
  ⟨h.len, h.bsz, h.esz, fun j x hj => (h.bc j x hj).mono X' (fun nm hn => by
    have := h.esz; cases hn with | st _ _ => simp [voidB, rowLen] at this) hI hc, h.one, h.at_⟩
theorem srcC_ok {H : Hp} {st : Nat → Option B} {nx : Nat} {X : Ctx} {e : Nat} {c : C} {u : Value} (hs : Hs H st nx X) (hd : Den X c u) :
    (srcC e c st).sat (u = .slice none 0 0) fun b st1 => ∃ X1, Frz H st1 nx X X1 ∧ ∃ m news, SrcIs X.w X1 (ty e).sz u b m news := by
  have row : ∀ {nm off len cap : Nat} {k : IntKind} {xs : List Int} {o : Bool} {b : B}, st nm = some b → b = .ar o k xs → (∃ bl c, X.ν nm = some (bl, c) ∧ u = .slice (some ⟨bl, off, none⟩) len cap) ∨ (X.ν nm = none ∧ u = .slice none 0 0 ∧ len = 0) →
      off + len ≤ xs.length → SrcIs X.w X 1 u (.ar false k ((xs.drop off).take len)) len ((List.range len).map fun j => .int k (xs.getD (off + j) 0)) := by
    intro nm off len cap k xs o b hb hbe hu hle
    subst hbe
    refine srcIs_row hs hb (f := fun j => .int k (xs.getD (off + j) 0)) (off := off) (by simpa [B.size] using hle) (fun j x hj hx => ?_) (fun j hj => .ar ?_) (fun _=>rfl) (by simp [B.size]; omega) rfl ?_
    · generalize hq : off + j = q at hx
      cases hx with | ar hn => simp [List.getD_eq_getElem?_getD, hn]
    · rw [List.getElem?_take_of_lt hj, List.getElem?_drop, List.getD_eq_getElem?_getD, List.getElem?_eq_getElem (by omega)]
      rfl
    · rcases hu with ⟨bl, c, h1, h2⟩ | ⟨h1, h2, h3⟩
      · exact .inr ⟨bl, c, cap, h1, h2⟩
      · exact .inl ⟨h1, h2, h3⟩
  unfold srcC
  split
  · cases hd; rfl
  · rename_i k xs
    split
    · rename_i hsz; intro _; rw [hsz]; exact ⟨X, .refl hs, _, _, srcIs_is hd⟩
    · trivial
  · rename_i nm len
    split
    · rename_i o k xs hsz hb
      intro he
      rw [hsz]
      have := fun (cap : Nat) hu => row (cap := cap) (off := 0) (len := len) hb rfl hu (by omega)
      rw [he, List.drop_zero, List.take_length] at this
      cases hd with
      | @osl _ _ bl cp hν hl => exact ⟨X, .refl hs, _, _, this cp (.inl ⟨bl, cp, hν, by rw [← he]⟩)⟩
      | osl0 hν => exact ⟨X, .refl hs, _, _, this 0 (.inr ⟨hν, rfl, he.symm⟩)⟩
    · rename_i o xs hsz hb
      intro he
      rw [hsz]
      have := fun (cap : Nat) hu => srcIs_row (X := X) (u := u) (m := len) (b' := .bl false xs) hs hb (f := fun j => .bool (xs.getD j false)) (off := 0) (by simp [B.size, he]) (fun j x hj hx => by
        rw [Nat.zero_add] at hx
        cases hx with | bl hn => simp [List.getD_eq_getElem?_getD, hn]) (fun j hj => .bl (by
          rw [List.getD_eq_getElem?_getD, List.getElem?_eq_getElem (by omega)]; rfl)) (fun _=>rfl) (by simp [B.size, he]) rfl hu
      cases hd with
      | @osl _ _ bl cp hν hl => exact ⟨X, .refl hs, _, _, this cp (.inr ⟨bl, cp, cp, hν, rfl⟩)⟩
      | osl0 hν => exact ⟨X, .refl hs, _, _, this 0 (.inl ⟨hν, rfl, rfl⟩)⟩
    · trivial
  · rename_i nm off len cap
    split
    · rename_i o k xs hb
      split
      · rename_i hsz
        intro hle
        rw [hsz]
        cases hd with
        | @sl _ _ _ _ bl cp hν => exact ⟨X, .refl hs, _, _, row (cap := cap) hb rfl (.inl ⟨bl, cp, hν, rfl⟩) hle⟩
        | sl0 hν => exact ⟨X, .refl hs, _, _, row (cap := 0) hb rfl (.inr ⟨hν, rfl, rfl⟩) hle⟩
      · trivial
    · rename_i cs hb
      have cells : len = 1 → off = 0 → ∃ (bl : Nat) (us : List Value), (∃ c', u = .slice (some ⟨bl, 0, none⟩) 1 c') ∧ us.length = cs.length ∧ (∀ j x, us[j]? = some x → X.w.cell? ⟨bl, j, none⟩ = some x) ∧ ∀ (j : Nat) c x, cs[j]? = some c → us[j]? = some x → Den X c x := by
        rintro rfl rfl
        cases hd with
        | @sl _ _ _ _ bl cp hν =>
          have hbd := hs.blk nm _ hb
          simp only [BDen, hν] at hbd
          obtain ⟨cur, tb, hh, hc⟩ := hbd
          have hle := hc.le
          simp only [B.size] at hle
          have hg : ∀ (j : Nat) x, (cur.toList.take cs.length)[j]? = some x → j < cs.length ∧ cur[j]? = some x := fun j x hj => by
            have hlt := (List.getElem?_eq_some_iff.1 hj).1
            rw [List.length_take] at hlt
            rw [List.getElem?_take_of_lt (by omega)] at hj
            exact ⟨by omega, by simpa using hj⟩
          refine ⟨bl, cur.toList.take cs.length, ⟨cap, rfl⟩, by simp [List.length_take]; omega, fun j x hj => ?_, fun j c x hc' hj => ?_⟩
          · rw [cell_block hh]; exact (hg j x hj).2
          · obtain ⟨h1, h2⟩ := hg j x hj
            obtain ⟨v, hv, hv2⟩ := hc.cell j h1
            rw [h2] at hv; cases hv
            cases hv2 with | st hj' h => rw [hj'] at hc'; cases hc'; exact h
      split
      · rename_i f hd'
        split
        · rename_i c
          obtain ⟨bl, us, ⟨c', hu⟩, hl, hat, hden⟩ := cells rfl rfl
          obtain ⟨x, rfl⟩ : ∃ x, us = [x] := List.length_eq_one_iff.1 hl
          have hz := frzC_ok hs (hden 0 c x rfl rfl)
          have fin : ∀ {k : IntKind} {xs : List Int} {st1 : Nat → Option B}, (∃ X', Frz H st1 nx X X' ∧ Den X' (.is k xs) x) → (ty e).sz = 1 → ∃ X1, Frz H st1 nx X X1 ∧ ∃ m news, SrcIs X.w X1 (ty e).sz u (.ss false k [xs]) m news := by
            rintro k xs st1 ⟨X', h1, h2⟩ hsz
            rw [hsz]
            refine ⟨X', h1, 1, [x], rfl, rfl, rfl, fun j y hj => ?_, fun y hy => ?_, .inr ⟨_, _, hu, fun j y hj => by rw [add_some, Nat.zero_add]; exact hat j y hj⟩⟩
            · cases j with
              | zero => simp at hj; subst hj; exact .ss rfl h2
              | succ j => simp at hj
            · simp at hy; subst hy; exact h2.is_one
          split
          · rename_i k xs st1 hz'
            split
            · rename_i hsz; rw [hz'] at hz; exact fun _=>fin hz.1 hsz
            · trivial
          · rename_i φ k xs st1 hz'
            split
            · rename_i hsz; rw [hz'] at hz; exact fun hφ => fin (hz hφ).1 hsz
            · trivial
          · trivial
        · trivial
      · rename_i fs hd'
        obtain ⟨bl, us, ⟨c', hu⟩, hl, hat, hden⟩ := cells rfl rfl
        have hz := frzL_ok hs hl hden
        have fin : ∀ {cs' : List C} {st1 : Nat → Option B}, ((∃ X', Frz H st1 nx X X' ∧ ∀ (i : Nat) c u, cs'[i]? = some c → us[i]? = some u → Den X' c u) ∧ cs'.length = cs.length ∧ ∀ c ∈ cs', (∀ nm, ¬ c.Has nm) ∧ c.one = true) → cs.length = (ty e).sz →
            ∃ X1, Frz H st1 nx X X1 ∧ ∃ m news, SrcIs X.w X1 (ty e).sz u (.rs false (ty e).sz [cs']) m news := by
          rintro cs' st1 ⟨⟨X', h1, h2⟩, h3, h4⟩ hsz
          have hul : us.length = (ty e).sz := hl.trans hsz
          refine ⟨X', h1, 1, us, by omega, by simp [B.size], rfl, fun j y hj => ?_, fun y hy => ?_, .inr ⟨_, _, hu, fun j y hj => by rw [add_some, Nat.zero_add]; exact hat j y hj⟩⟩
          · have hjl : j < cs'.length := by rw [h3, ← hl]; exact (List.getElem?_eq_some_iff.1 hj).1
            have := @BCell.rs X' false (ty e).sz [cs'] 0 j cs' cs'[j] y rfl (h3.trans hsz) (List.getElem?_eq_getElem hjl) (h4 _ (List.getElem_mem hjl)).1 (h2 j _ y (List.getElem?_eq_getElem hjl) hj)
            simpa using this
          · obtain ⟨j, hj⟩ := List.mem_iff_getElem?.1 hy
            have hjl : j < cs'.length := by rw [h3, ← hl]; exact (List.getElem?_eq_some_iff.1 hj).1
            exact (h2 j _ y (List.getElem?_eq_getElem hjl) hj).one (h4 _ (List.getElem_mem hjl)).2
        split
        · rename_i cs' st1 hq hz'
          rw [hz'] at hz; exact fun _=>fin hz (Nat.eq_of_beq_eq_true hq)
        · rename_i φ cs' st1 hq hz'
          rw [hz'] at hz; exact fun hφ => fin (hz hφ) (Nat.eq_of_beq_eq_true hq)
        · trivial
      · trivial
    · trivial
  · trivial
theorem catB_ok {b0 b b' : B} {n' n0 sz m : Nat} (h : catB b0 b = some (b', n')) (h0 : rowLen b0 = some (n0, sz)) {sz' : Nat} (hv : rowLen (voidB b) = some (0, sz')) (hb : b.size = m * sz') :
    sz' = sz ∧ (0 < sz → n' = n0 + m) ∧ b0.size = n0 * sz ∧ b'.size = b0.size + b.size ∧ b'.own = some sz ∧ (∀ nm, ¬ b'.Has nm) ∧ (∀ nm, ¬ b0.Has nm) ∧
    (∀ (X : Ctx) j x, BCell X b0 j x → BCell X b' j x) ∧ ∀ (X : Ctx) j x, BCell X b j x → BCell X b' (n0 * sz + j) x := by
  have noh : ∀ {b : B} {nm : Nat}, (∀ cs, b ≠ .st cs) → ¬ b.Has nm := fun {b nm} hb h => by cases h with | st _ _ => exact hb _ rfl
  cases b0 with
  | st cs => cases b <;> simp [catB] at h
  | un n => cases b <;> simp [catB] at h
  | ar o k xs =>
    cases b <;> simp only [catB] at h <;> try (cases h; done)
    rename_i o2 k2 ys
    cases hk : kEq k k2 with
    | false => rw [hk] at h; cases h
    | true =>
      rw [hk] at h; obtain rfl := kEq_eq hk
      cases o <;> simp [rowLen] at h0
      simp [voidB, rowLen] at hv
      obtain ⟨rfl, rfl⟩ := h0; subst hv
      cases h
      simp only [B.size, Nat.mul_one] at hb
      refine ⟨rfl, fun _=>by simp [hb], by simp [B.size], by simp [B.size], rfl, fun _=>noh (by simp), fun _=>noh (by simp), fun X j x h => ?_, fun X j x h => ?_⟩
      · cases h with | ar hj => exact .ar (by rw [List.getElem?_append_left (List.getElem?_eq_some_iff.1 hj).1]; exact hj)
      · cases h with | ar hj => exact .ar (by rw [Nat.mul_one, List.getElem?_append_right (Nat.le_add_right _ _), Nat.add_sub_cancel_left]; exact hj)
  | bl o xs =>
    cases b <;> simp only [catB] at h <;> try (cases h; done)
    cases o <;> simp [rowLen] at h0
    simp [voidB, rowLen] at hv
    obtain ⟨rfl, rfl⟩ := h0; subst hv
    cases h
    simp only [B.size, Nat.mul_one] at hb
    refine ⟨rfl, fun _=>by simp [hb], by simp [B.size], by simp [B.size], rfl, fun _=>noh (by simp), fun _=>noh (by simp), fun X j x h => ?_, fun X j x h => ?_⟩
    · cases h with | bl hj => exact .bl (by rw [List.getElem?_append_left (List.getElem?_eq_some_iff.1 hj).1]; exact hj)
    · cases h with | bl hj => exact .bl (by rw [Nat.mul_one, List.getElem?_append_right (Nat.le_add_right _ _), Nat.add_sub_cancel_left]; exact hj)
  | ss o k xs =>
    cases b <;> simp only [catB] at h <;> try (cases h; done)
    rename_i o2 k2 ys
    cases hk : kEq k k2 with
    | false => rw [hk] at h; cases h
    | true =>
      rw [hk] at h; obtain rfl := kEq_eq hk
      cases o <;> simp [rowLen] at h0
      simp [voidB, rowLen] at hv
      obtain ⟨rfl, rfl⟩ := h0; subst hv
      cases h
      simp only [B.size, Nat.mul_one] at hb
      refine ⟨rfl, fun _=>by simp [hb], by simp [B.size], by simp [B.size], rfl, fun _=>noh (by simp), fun _=>noh (by simp), fun X j x h => ?_, fun X j x h => ?_⟩
      · cases h with | ss hj hd => exact .ss (by rw [List.getElem?_append_left (List.getElem?_eq_some_iff.1 hj).1]; exact hj) hd
      · cases h with | ss hj hd => exact .ss (by rw [Nat.mul_one, List.getElem?_append_right (Nat.le_add_right _ _), Nat.add_sub_cancel_left]; exact hj) hd
  | rs o s2 xs =>
    cases b <;> simp only [catB] at h <;> try (cases h; done)
    rename_i o2 s3 ys
    cases hk : Nat.beq s2 s3 with
    | false => rw [hk] at h; cases h
    | true =>
      rw [hk] at h; obtain rfl := Nat.eq_of_beq_eq_true hk
      cases o <;> simp [rowLen] at h0
      simp [voidB, rowLen] at hv
      obtain ⟨rfl, rfl⟩ := h0; subst hv
      cases h
      simp only [B.size] at hb
      refine ⟨rfl, fun h0 => by simp [Nat.eq_of_mul_eq_mul_right h0 hb], by simp [B.size], by simp [B.size, Nat.add_mul], rfl, fun _=>noh (by simp), fun _=>noh (by simp), fun X j x h => ?_, fun X j x h => ?_⟩
      · cases h with | rs hj hs hi hn hd => exact .rs (by rw [List.getElem?_append_left (List.getElem?_eq_some_iff.1 hj).1]; exact hj) hs hi hn hd
      · cases h with
        | @rs _ _ _ j i cs c _ hj hs hi hn hd =>
          have := @BCell.rs X true s2 (xs ++ ys) (xs.length + j) i cs c x (by rw [List.getElem?_append_right (Nat.le_add_right _ _), Nat.add_sub_cancel_left]; exact hj) hs hi hn hd
          rwa [Nat.add_mul, Nat.add_assoc] at this
theorem voidB_len {b : B} {sz : Nat} (h : rowLen (voidB b) = some (0, sz)) : (voidB b).size = 0 := by cases b <;> simp [voidB, B.size]
theorem Hs.alias {H : Hp} {st : Nat → Option B} {nx : Nat} {X : Ctx} (g : Hs H st nx X) {nm : Nat} {b : B} (hb : st nm = some b) :
    Hs H (upd (del st nm) nx b) (nx + 1) ⟨fun n => bif Nat.beq n nx then X.ν nm else X.ν n, X.I, X.w⟩ ∧ Step nx X ⟨fun n => bif Nat.beq n nx then X.ν nm else X.ν n, X.I, X.w⟩ := by
  have hν : ∀ n, n < nx → (bif Nat.beq n nx then X.ν nm else X.ν n) = X.ν n := fun n h => by simp [beq_ne (Nat.ne_of_lt h)]
  have hlt := (g.bd nm b hb).1
  have hne : ∀ n1, upd (del st nm) nx b n1 ≠ none → n1 = nx ∨ (n1 < nx ∧ n1 ≠ nm ∧ st n1 ≠ none) := fun n1 h => by
    by_cases he : n1 = nx
    · exact .inl he
    · rw [upd_other _ _ he] at h
      by_cases h2 : n1 = nm
      · subst h2; simp [del_same] at h
      · rw [del_other _ h2] at h
        obtain ⟨y, hy⟩ := Option.ne_none_iff_exists'.1 h
        exact .inr ⟨(g.bd n1 y hy).1, h2, h⟩
  have hbne : st nm ≠ none := by rw [hb]; simp
  refine ⟨{ blk := fun n1 y h => ?_, inj := ?_, sep := ?_, bd := ?_, fr := g.fr, sz := g.sz, imm := g.imm, out := g.out, gl := g.gl }, ⟨hν, fun _ h => h, fun _ _ _ h => h⟩⟩
  · have mono : ∀ n2, st n2 = some y → (bif Nat.beq n1 nx then X.ν nm else X.ν n1) = X.ν n2 → BDen ⟨fun n => bif Nat.beq n nx then X.ν nm else X.ν n, X.I, X.w⟩ n1 y := fun n2 h2 he => by
      have h3 := g.blk n2 y h2
      unfold BDen at h3 ⊢
      dsimp only
      rw [he]
      cases hx : X.ν n2 with
      | none => simpa [hx] using h3
      | some q =>
        obtain ⟨bl, c⟩ := q
        simp only [hx] at h3 ⊢
        obtain ⟨cur, tb, k1, k2⟩ := h3
        exact ⟨cur, tb, k1, k2.mono _ (fun m hm => hν m ((g.bd n2 y h2).2 m hm)) (fun _ h => h) (fun _ _ _ h => h)⟩
    by_cases he : n1 = nx
    · subst he
      rw [upd_same] at h; cases h
      exact mono nm hb (by simp [Nat.beq_refl])
    · have h' : st n1 = some y := by
        rw [upd_other _ _ he] at h
        by_cases h2 : n1 = nm
        · subst h2; simp [del_same] at h
        · rwa [del_other _ h2] at h
      exact mono n1 h' (by simp [beq_ne he])
  · intro n1 n2 bl c1 c2 h1 h2 e1 e2
    dsimp only at e1 e2
    rcases hne n1 h1 with rfl | ⟨l1, m1, k1⟩ <;> rcases hne n2 h2 with rfl | ⟨l2, m2, k2⟩
    · rfl
    · rw [Nat.beq_refl] at e1; rw [hν _ l2] at e2
      exact (m2 (g.inj n2 nm bl c2 c1 k2 hbne e2 e1)).elim
    · rw [Nat.beq_refl] at e2; rw [hν _ l1] at e1
      exact (m1 (g.inj n1 nm bl c1 c2 k1 hbne e1 e2)).elim
    · rw [hν _ l1] at e1; rw [hν _ l2] at e2
      exact g.inj n1 n2 bl c1 c2 k1 k2 e1 e2
  · intro n1 bl c1 h1 e1
    dsimp only at e1
    rcases hne n1 h1 with rfl | ⟨l1, m1, k1⟩
    · rw [Nat.beq_refl] at e1
      exact g.sep nm bl c1 hbne e1
    · rw [hν _ l1] at e1
      exact g.sep n1 bl c1 k1 e1
  · intro n1 y h
    by_cases he : n1 = nx
    · subst he
      rw [upd_same] at h; cases h
      exact ⟨Nat.lt_succ_self _, fun m hm => Nat.lt_succ_of_lt ((g.bd nm b hb).2 m hm)⟩
    · have h' : st n1 = some y := by
        rw [upd_other _ _ he] at h
        by_cases h2 : n1 = nm
        · subst h2; simp [del_same] at h
        · rwa [del_other _ h2] at h
      exact ⟨Nat.lt_succ_of_lt (g.bd n1 y h').1, fun m hm => Nat.lt_succ_of_lt ((g.bd n1 y h').2 m hm)⟩
theorem appM_ok {H : Hp} {st : Nat → Option B} {nx t : Nat} {X : Ctx} {base src : C} {u v : Value} (ty' : TypeId) (hs : Hs H st nx X) (hb : Den X base v) (hbn : ∀ nm, base.Has nm → nm < nx) (hd : Den X src u) :
    (appM t base src st nx).sat fun c st' nx' => ∃ r X', (Builtin.append_ #[t, t] ty' #[v, u]).run P X.w = .ok r X'.w ∧ Hs H st' nx' X' ∧ Step nx X X' ∧ nx ≤ nx' ∧ VDen X' c r ∧ ∀ nm, c.Has nm → nm < nx' := by
  unfold appM
  split
  · rename_i e ht
    split
    · rename_i c0 r0 hz hby
      obtain ⟨_, i, z, hi, hzv, hisz, hib, hzl, _⟩ := zero_of hz
      have hby' : i.bytes ≤ 32768 := by rw [hib]; exact Nat.le_of_ble_eq_true hby
      have hzs : z.cells.size = i.size := by rw [hzl, hisz, zero_len hz]
      have hpos : 0 < i.size := by rw [← hzs, hzl]; simp
      have hun := ty_slice ht
      have h0 := srcC_ok (e := e) hs hd
      have fin : ∀ {b b0 b' : B} {st1 : Nat → Option B} {X1 : Ctx} {m n0 n' sz cap : Nat} {news olds : List Value}, Frz H st1 nx X X1 → SrcIs X.w X1 (ty e).sz u b m news → rowLen b0 = some (n0, sz) → catB b0 b = some (b', n') →
          (∀ j x, olds[j]? = some x → BCell X1 b0 j x) → olds.length = b0.size → n' ≤ 4294967296 →
          ((v = .slice none 0 0 ∧ n0 = 0 ∧ olds = []) ∨ ∃ g tg cur, v = .slice (some ⟨g, 0, none⟩) n0 cap ∧ X.w.heap[g]? = some (.cells cur tg (0, 0)) ∧ n0 ≤ cap ∧ cur.size = cap * i.size ∧ cur.toList.take (n0 * i.size) = olds) →
          sz = i.size ∧ n' = n0 + m ∧ (∀ nm, ¬ b'.Has nm) ∧ (m = 0 → n0 = 0 → b'.size = 0) ∧ ∃ r w', (Builtin.append_ #[t, t] ty' #[v, u]).run P X.w = .ok r w' ∧ (
            (v = .slice none 0 0 ∧ r = .slice none 0 0 ∧ w' = X.w ∧ m = 0 ∧ n0 = 0)
            ∨ (∃ g tg cur cur', v = .slice (some ⟨g, 0, none⟩) n0 cap ∧ X.w.heap[g]? = some (.cells cur tg (0, 0)) ∧ r = .slice (some ⟨g, 0, none⟩) n' cap ∧ n' ≤ cap ∧ w' = X.w.setRow g cur' ∧ Cells X1 b' cur' cap)
            ∨ (∃ cap' cur', r = .slice (some ⟨X.w.heap.size, 0, none⟩) n' cap' ∧ w' = X.w.drew.alloc (.cells cur' e) ∧ n' ≤ cap' ∧ Cells X1 b' cur' cap')) := by
        intro b b0 b' st1 X1 m n0 n' sz cap news olds hf hsrc hr0 hcat hold hol hn' hbase
        obtain ⟨k1, k2, k3, k4, k5, k6, k7, k8, k9⟩ := catB_ok hcat hr0 hsrc.esz hsrc.bsz
        have hsz : sz = i.size := by rw [← k1, hisz]
        have hnn : n' = n0 + m := k2 (by rw [hsz]; exact hpos)
        have cells : ∀ {cp : Nat} {cur' : Array Value}, n' ≤ cp → cur'.size = cp * i.size → cur'.toList.take ((n0 + m) * i.size) = olds ++ news → Cells X1 b' cur' cp := fun {cp cur'} g1 g2 g3 => by
          have hbs : b'.size = (n0 + m) * i.size := by rw [k4, k3, hsrc.bsz, Nat.add_mul, hsz, ← hisz]
          refine ⟨by rw [hbs, g2, ← hnn]; exact Nat.mul_le_mul_right _ g1, fun j hj => ?_, fun s hs' => by rw [k5] at hs'; cases hs'; rw [hsz]; exact g2⟩
          have hjl : j < (olds ++ news).length := by rw [List.length_append, hol, hsrc.len, ← hsrc.bsz, ← k4]; exact hj
          have hj' : (olds ++ news)[j]? = some (olds ++ news)[j] := List.getElem?_eq_getElem hjl
          generalize (olds ++ news)[j] = x at hj'
          refine ⟨x, ?_, ?_⟩
          · rw [← g3, List.getElem?_take_of_lt (by rw [← hbs]; exact hj)] at hj'
            simpa using hj'
          · by_cases h : j < olds.length
            · rw [List.getElem?_append_left h] at hj'
              exact k8 _ _ _ (hold j x hj')
            · rw [List.getElem?_append_right (by omega)] at hj'
              have := k9 _ _ _ (hsrc.bc _ x hj')
              rw [← k3, ← hol, Nat.add_sub_of_le (by omega)] at this
              exact this
        refine ⟨hsz, hnn, k6, fun hm hn => by rw [k4, k3, hsrc.bsz, hm, hn]; simp, ?_⟩
        obtain ⟨r, w', hrun, hcase⟩ := run_append_all (ty' := ty') hun hi hzv hzs hby' hbase (u := u) (m := m) (news := news) (by
          rcases hsrc.at_ with ⟨g1, g2⟩ | ⟨a, c, g1, g2⟩
          · refine .inl ⟨g1, g2, List.eq_nil_of_length_eq_zero (by rw [hsrc.len, g2]; simp)⟩
          · exact .inr ⟨a, c, g1, by rw [hsrc.len, hisz], g2, hsrc.one⟩) (by rw [← hnn]; exact hn')
        refine ⟨r, w', hrun, ?_⟩
        rcases hcase with ⟨g1, g2, g3, g4, g5, g6⟩ | ⟨g, tg, cur, cur', g1, g2, g3, g4, g5, g6, g7⟩ | ⟨cap', cur', g1, g2, g3, g4, g5⟩
        · exact .inl ⟨g1, g2, g3, g4, g5⟩
        · exact .inr (.inl ⟨g, tg, cur, cur', g1, g2, by rw [hnn]; exact g3, by rw [hnn]; exact g4, g5, cells (by rw [hnn]; exact g4) g6 g7⟩)
        · exact .inr (.inr ⟨cap', cur', by rw [hnn]; exact g1, g2, by rw [hnn]; exact g3, cells (by rw [hnn]; exact g3) g4 g5⟩)
      have new : ∀ {st1 : Nat → Option B} {X1 : Ctx} {b' : B} {cap' n' : Nat} {cur' : Array Value}, Frz H st1 nx X X1 → Cells X1 b' cur' cap' → (∀ nm, ¬ b'.Has nm) → n' ≤ cap' →
          ∃ X', X'.w = X.w.drew.alloc (.cells cur' e) ∧ Hs H (upd st1 nx b') (nx + 1) X' ∧ Step nx X X' ∧ VDen X' (.c (.osl nx n')) (.slice (some ⟨X.w.heap.size, 0, none⟩) n' cap') := by
        intro st1 X1 b' cap' n' cur' hf hc hn hle
        obtain ⟨g1, g2⟩ := hf.hs.world X.w.drew (by rw [hf.w]; rfl) (by rw [hf.w]; exact ⟨rfl, rfl⟩)
        obtain ⟨g3, g4⟩ := g1.newB (ty := e) (hc.step (nx := nx) g2 (fun m hm => (hn m hm).elim)) (fun m hm => (hn m hm).elim)
        refine ⟨_, rfl, g3, (hf.step.trans g2 (Nat.le_refl _)).trans g4 (Nat.le_refl _), .c (.osl ?_ hle)⟩
        exact upd_same _ _ _
      split
      · trivial
      · rename_i hsrc
        rw [hsrc] at h0
        simp only [Src.sat] at h0
        subst h0
        split
        · cases hb
          refine ⟨.slice none 0 0, X, ?_, hs, .refl _ _, Nat.le_refl _, .c .nsl, fun nm h => by cases h with | c h => exact h.elim⟩
          simp [Builtin.append_, run_underlying hun, sizeOf, typeInfo, hi, Builtin.lenOf, Builtin.firstCells]
        · rename_i nm n
          refine ⟨v, X, ?_, hs, .refl _ _, Nat.le_refl _, .c hb, fun nm h => by cases h with | c h => exact hbn _ h⟩
          cases hb with
          | @osl _ _ bl cp hν hl => simp [Builtin.append_, run_underlying hun, sizeOf, typeInfo, hi, Builtin.lenOf, Builtin.firstCells, hl, storeCells]
          | osl0 hν => simp [Builtin.append_, run_underlying hun, sizeOf, typeInfo, hi, Builtin.lenOf, Builtin.firstCells]
        · trivial
      · rename_i φ b st1 hsrc
        rw [hsrc] at h0
        simp only [Src.sat] at h0
        split
        · split
          · rename_i b' n' hcat
            rintro ⟨hφ, hn'⟩
            cases hb
            obtain ⟨X1, hf, m, news, hsi⟩ := h0 hφ
            obtain ⟨q1, q2, q3, q4, r, w', q5, q6⟩ := fin (cap := 0) hf hsi hsi.esz hcat (olds := []) (fun j x h => by simp at h) (by simp [voidB_len hsi.esz]) hn' (.inl ⟨rfl, rfl, rfl⟩)
            rcases q6 with ⟨g1, g2, g3, g4, g5⟩ | ⟨g, tg, cur, cur', g1, _⟩ | ⟨cap', cur', g1, g2, g3, g4⟩
            · subst g2 g3
              obtain ⟨k1, k2⟩ := hf.hs.newNil (q4 g4 g5) (fun m hm => (q3 m hm).elim)
              refine ⟨_, _, by rw [q5, hf.w], k1, hf.step.trans k2 (Nat.le_refl _), Nat.le_succ _, ?_, fun nm h => by cases h with | c h => simp only [C.Has] at h; omega⟩
              have : n' = 0 := by omega
              subst this
              exact .c (.osl0 (by simp [Nat.beq_refl]))
            · cases g1
            · obtain ⟨X', k1, k2, k3, k4⟩ := new hf g4 q3 g3
              exact ⟨r, X', by rw [k1, ← g2]; exact q5, k2, k3, Nat.le_succ _, by rw [g1]; exact k4, fun nm h => by cases h with | c h => simp only [C.Has] at h; omega⟩
          · trivial
        · rename_i nm n
          split
          · rename_i b0 hst1
            split
            · rename_i n0 sz hr0
              split
              · rename_i b' n' hcat
                rintro ⟨hφ, rfl, hn'⟩
                obtain ⟨X1, hf, m, news, hsi⟩ := h0 hφ
                have hb1 := hf.den hb
                have hbl := hf.hs.blk nm b0 hst1
                obtain ⟨k1, k2, k3, k4, k5, k6, k7, k8, k9⟩ := catB_ok hcat hr0 hsi.esz hsi.bsz
                have hne : nm ≠ nx := Nat.ne_of_lt (hf.hs.bd nm b0 hst1).1
                cases hb1 with
                | @osl _ _ bl cp hν hl =>
                  simp only [BDen, hν] at hbl
                  obtain ⟨cur, tb, hh, hc⟩ := hbl
                  have hown : b0.own = some sz := by
                    cases b0 with
                    | st cs => cases hr0
                    | un n => cases hr0
                    | ar o k xs => cases o <;> cases hr0; rfl
                    | bl o xs => cases o <;> cases hr0; rfl
                    | ss o k xs => cases o <;> cases hr0; rfl
                    | rs o s xs => cases o <;> cases hr0; rfl
                  have hcs := hc.own sz hown
                  have hsz : sz = i.size := by rw [← k1, hisz]
                  have hple : b0.size ≤ cur.size := hc.le
                  obtain ⟨q1, q2, q3, q4, r, w', q5, q6⟩ := fin (cap := cp) hf hsi hr0 hcat (olds := cur.toList.take b0.size) (fun j x hj => by
                      have hlt := (List.getElem?_eq_some_iff.1 hj).1
                      rw [List.length_take] at hlt
                      obtain ⟨y, hy1, hy2⟩ := hc.cell j (by omega)
                      rw [List.getElem?_take_of_lt (by omega)] at hj
                      have : cur[j]? = some x := by simpa using hj
                      rw [this] at hy1; cases hy1; exact hy2) (by simp [List.length_take]; omega) hn' (.inr ⟨bl, tb, cur, rfl, by rw [← hf.w]; exact hh, hl, by rw [← hsz]; exact hcs, by rw [k3, hsz]⟩)
                  rcases q6 with ⟨g1, _⟩ | ⟨g, tg, cur1, cur', g1, g2, g3, g4, g5, g6⟩ | ⟨cap', cur', g1, g2, g3, g4⟩
                  · cases g1
                  · cases g1
                    obtain ⟨s1, s2⟩ := hf.hs.setB hst1 hν hh g6 (fun m hm => (q3 m hm).elim)
                    obtain ⟨a1, a2⟩ := s1.alias (upd_same _ _ _)
                    refine ⟨r, _, by rw [q5, g5, ← hf.w], ?_, (hf.step.trans s2 (Nat.le_refl _)).trans a2 (Nat.le_refl _), Nat.le_succ _, ?_, fun nm h => by cases h with | c h => simp only [C.Has] at h; omega⟩
                    · have : del (upd st1 nm b') nm = del st1 nm := by
                        funext y
                        by_cases hy : y = nm
                        · subst hy; rw [del_same, del_same]
                        · rw [del_other _ hy, del_other _ hy, upd_other _ _ hy]
                      rw [this] at a1; exact a1
                    · rw [g3]
                      exact .c (.osl (by simp [Nat.beq_refl, hν]) g4)
                  · obtain ⟨X', k1, k2, k3, k4⟩ := new hf g4 q3 g3
                    refine ⟨r, X', by rw [k1, ← g2]; exact q5, ?_, k3, Nat.le_succ _, by rw [g1]; exact k4, fun nm h => by cases h with | c h => simp only [C.Has] at h; omega⟩
                    rw [← upd_del _ _ (Ne.symm hne)]
                    exact k2.drop nm
                | osl0 hν =>
                  simp only [BDen, hν] at hbl
                  obtain ⟨q1, q2, q3, q4, r, w', q5, q6⟩ := fin (cap := 0) hf hsi hr0 hcat (olds := []) (fun j x h => by simp at h) (by simp [hbl]) hn' (.inl ⟨rfl, rfl, rfl⟩)
                  rcases q6 with ⟨g1, g2, g3, g4, g5⟩ | ⟨g, tg, cur, cur', g1, _⟩ | ⟨cap', cur', g1, g2, g3, g4⟩
                  · subst g2 g3
                    obtain ⟨k1, k2⟩ := hf.hs.newNil (q4 g4 g5) (fun m hm => (q3 m hm).elim)
                    refine ⟨_, _, by rw [q5, hf.w], ?_, hf.step.trans k2 (Nat.le_refl _), Nat.le_succ _, ?_, fun nm h => by cases h with | c h => simp only [C.Has] at h; omega⟩
                    · rw [← upd_del _ _ (Ne.symm hne)]
                      exact k1.drop nm
                    · have : n' = 0 := by omega
                      subst this
                      exact .c (.osl0 (by simp [Nat.beq_refl]))
                  · cases g1
                  · obtain ⟨X', k1, k2, k3, k4⟩ := new hf g4 q3 g3
                    refine ⟨r, X', by rw [k1, ← g2]; exact q5, ?_, k3, Nat.le_succ _, by rw [g1]; exact k4, fun nm h => by cases h with | c h => simp only [C.Has] at h; omega⟩
                    rw [← upd_del _ _ (Ne.symm hne)]
                    exact k2.drop nm
              · trivial
            · trivial
          · trivial
        · trivial
    · trivial
  · trivial
end Go.SX
