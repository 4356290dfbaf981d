/- A part of the proof: the SILK decoder of the given program, walked by an executor that is proved sound. No statement of the program is proved in this text. -/
import Derived.DataBytes
import Derived.Test.YtojdfjohmicopaaGreatDoorL03
set_option linter.all false
set_option maxRecDepth 100000
namespace Go.SX
open Go
def rowOf : Nat → List Value → List (Nat × Value)
  | _, [] => []
  | i, v :: r => (i, v) :: rowOf (i + 1) r
def flat (vs : List Value) : List Value := vs.flatMap fun v => v.cells.toList
theorem fill_row {sz : Nat} : ∀ (vs : List Value) (i : Nat) (cells : Array Value), (∀ v ∈ vs, v.cells.size = sz) → (i + vs.length) * sz ≤ cells.size →
    Instr.fill (fun i => some (i * sz, sz)) cells (rowOf i vs) = some (cells.toList.take (i * sz) ++ flat vs ++ cells.toList.drop ((i + vs.length) * sz)).toArray
  | [], i, cells, _, _ => by simp [rowOf, Instr.fill, flat]
  | v :: r, i, cells, hv, hle => by
    have h1 := hv v (by simp)
    have h2 : i * sz + sz ≤ cells.size := by
      have : (i + (v :: r).length) * sz = i * sz + sz + r.length * sz := by simp only [List.length_cons]; rw [Nat.add_mul, Nat.add_mul, Nat.one_mul]; omega
      omega
    have h2' : i * sz + v.cells.toList.length ≤ cells.size := by simpa [h1] using h2
    unfold rowOf
    rw [fill_one (off := i * sz) (size := sz) rfl h1 h2]
    rw [fill_row r (i + 1) _ (fun v hv' => hv v (by simp [hv'])) (by rw [size_splice _ _ _ h2']; simpa [Nat.add_assoc, Nat.add_comm 1] using hle)]
    congr 1
    have e0 : (i + 1) * sz = i * sz + sz := by rw [Nat.add_mul, Nat.one_mul]
    have e2 : i + 1 + r.length = i + (v :: r).length := by simp; omega
    have e3 : i * sz + sz ≤ (i + (v :: r).length) * sz := by
      rw [← e0]; exact Nat.mul_le_mul_right _ (by simp)
    have e4 : v.cells.toList.length = sz := by simpa using h1
    have e1 : (cells.toList.take (i * sz)).length = i * sz := by simp; omega
    apply Array.toList_inj.1
    simp only []
    rw [e0, e2, e4]
    have t1 : (cells.toList.take (i * sz) ++ v.cells.toList ++ cells.toList.drop (i * sz + sz)).take (i * sz + sz) = cells.toList.take (i * sz) ++ v.cells.toList := by
      rw [List.take_append_of_le_length (by simp; omega)]
      exact List.take_of_length_le (by simp; omega)
    have t2 : (cells.toList.take (i * sz) ++ v.cells.toList ++ cells.toList.drop (i * sz + sz)).drop ((i + (v :: r).length) * sz) = cells.toList.drop ((i + (v :: r).length) * sz) := by
      rw [List.drop_append]
      have : (cells.toList.take (i * sz) ++ v.cells.toList).length = i * sz + sz := by simp only [List.length_append, e1, e4]
      rw [this, List.drop_eq_nil_of_le (by omega), List.nil_append, List.drop_drop]
      congr 1
      omega
    rw [t1, t2]
    simp [flat]
theorem inRow_ok (ev : Operand → Value) : ∀ {ps : List (Nat × Operand)} {i : Nat} {xs : List Operand}, inRow i ps = some xs → ps.map (fun p => (p.1, ev p.2)) = rowOf i (xs.map ev)
  | [], i, xs, h => by simp [inRow] at h; subst h; rfl
  | (j, x) :: r, i, xs, h => by
    unfold inRow at h
    cases hb : Nat.beq i j with
    | false => rw [hb] at h; cases h
    | true =>
      rw [hb] at h
      simp only [cond_true] at h
      split at h
      · rename_i l hl
        cases h
        have := Nat.eq_of_beq_eq_true hb
        subst this
        simp [rowOf, inRow_ok ev hl]
      · cases h
theorem asInts_ok {X : Ctx} {k : IntKind} : ∀ {vs : List V} {l : List Int} {us : List Value}, asInts k vs = some l → us.length = vs.length → (∀ (i : Nat) v u, vs[i]? = some v → us[i]? = some u → VDen X v u) → us = l.map (.int k)
  | [], l, us, h, hl, _ => by simp [asInts] at h; subst h; simpa using hl
  | v :: r, l, us, h, hl, hd => by
    match us, hl with
    | u :: us, hl =>
      unfold asInts at h
      split at h
      · rename_i heq; cases heq
      · rename_i k' n r' heq
        cases heq
        cases hk : kEq k k' with
        | false => rw [hk] at h; cases h
        | true =>
          rw [hk] at h
          simp only [cond_true] at h
          split at h
          · rename_i l' hl'
            cases h
            obtain rfl := kEq_eq hk
            have h0 := hd 0 _ _ rfl rfl
            cases h0 with
            | c h0 => cases h0; simp [← asInts_ok hl' (by simpa using hl) fun i v u hi hu => hd (i + 1) v u (by simpa using hi) (by simpa using hu)]
          · cases h
      · cases h
theorem asBools_ok {X : Ctx} : ∀ {vs : List V} {l : List Bool} {us : List Value}, asBools vs = some l → us.length = vs.length → (∀ (i : Nat) v u, vs[i]? = some v → us[i]? = some u → VDen X v u) → us = l.map .bool
  | [], l, us, h, hl, _ => by simp [asBools] at h; subst h; simpa using hl
  | v :: r, l, us, h, hl, hd => by
    match us, hl with
    | u :: us, hl =>
      unfold asBools at h
      split at h
      · rename_i heq; cases heq
      · rename_i b r' heq
        cases heq
        split at h
        · rename_i l' hl'
          cases h
          have h0 := hd 0 _ _ rfl rfl
          cases h0 with
          | c h0 => cases h0; simp [← asBools_ok hl' (by simpa using hl) fun i v u hi hu => hd (i + 1) v u (by simpa using hi) (by simpa using hu)]
        · cases h
      · cases h
theorem asCells_ok {X : Ctx} {sz : Nat} : ∀ {vs : List V} {cs : List C} {us : List Value}, asCells sz vs = some cs → us.length = vs.length → (∀ (i : Nat) v u, vs[i]? = some v → us[i]? = some u → VDen X v u) →
    (∀ u ∈ us, u.cells.size = sz) ∧ (flat us).length = cs.length ∧ (∀ (j : Nat) c u, cs[j]? = some c → (flat us)[j]? = some u → Den X c u) ∧ (∀ c ∈ cs, ∀ nm, c.Has nm → ∃ v ∈ vs, v.Has nm)
  | [], cs, us, h, hl, _ => by
    have : us = [] := by simpa using hl
    subst this
    simp [asCells] at h; subst h
    simp [flat]
  | v :: r, cs, us, h, hl, hd => by
    match us, hl with
    | u :: us, hl =>
      have hl' : us.length = r.length := by simpa using hl
      have hd' : ∀ (i : Nat) v u, r[i]? = some v → us[i]? = some u → VDen X v u := fun i v u hi hu => hd (i + 1) v u (by simpa using hi) (by simpa using hu)
      have h0 := hd 0 v u rfl rfl
      unfold asCells at h
      split at h
      · rename_i heq; cases heq
      · rename_i c r' heq
        cases heq
        split at h
        · rename_i ho
          split at h
          · rename_i l hl2
            cases h
            obtain ⟨g1, g2, g3, g4⟩ := asCells_ok hl2 hl' hd'
            cases h0 with
            | c h0 =>
              have hone := h0.one ho
              have huc : u.cells = #[u] := by cases u <;> first | rfl | (simp [Value.oneCell'] at hone)
              refine ⟨fun y hy => ?_, ?_, fun j c' y hj hy => ?_, fun c' hc nm hn => ?_⟩
              · cases hy with
                | head => rw [huc]; rfl
                | tail _ hy => exact g1 y hy
              · simp [flat, huc] at g2 ⊢; omega
              · have hf : flat (u :: us) = u :: flat us := by simp [flat, huc]
                rw [hf] at hy
                cases j with
                | zero => simp at hj hy; subst hj; subst hy; exact h0
                | succ j => simp at hj hy; exact g3 j c' y hj hy
              · cases hc with
                | head => exact ⟨_, by simp, .c hn⟩
                | tail _ hc => obtain ⟨w, hw, hh⟩ := g4 c' hc nm hn; exact ⟨w, by simp [hw], hh⟩
          · cases h
        · cases h
      · rename_i ds r' heq
        cases heq
        cases hb : (Nat.beq ds.length sz && allOne ds) with
        | false => rw [hb] at h; cases h
        | true =>
          rw [hb] at h
          simp only [cond_true] at h
          rw [Bool.and_eq_true] at hb
          split at h
          · rename_i l hl2
            cases h
            obtain ⟨g1, g2, g3, g4⟩ := asCells_ok hl2 hl' hd'
            cases h0 with
            | @ag _ cells hs h0 =>
              have hf : flat (.agg cells :: us) = cells.toList ++ flat us := by simp [flat, Value.cells]
              have hlen := Nat.eq_of_beq_eq_true hb.1
              have hcl : cells.toList.length = ds.length := by simpa using hs
              refine ⟨fun y hy => ?_, ?_, fun j c' y hj hy => ?_, fun c' hc nm hn => ?_⟩
              · cases hy with
                | head => simp [Value.cells, hs, hlen]
                | tail _ hy => exact g1 y hy
              · rw [hf]; simp [g2, hs]
              · rw [hf] at hy
                by_cases hjl : j < ds.length
                · rw [List.getElem?_append_left (by omega)] at hy
                  rw [List.getElem?_append_left hjl] at hj
                  exact h0 j c' y hj (by simpa using hy)
                · rw [List.getElem?_append_right (by omega)] at hy
                  rw [List.getElem?_append_right (by omega)] at hj
                  rw [hcl] at hy
                  exact g3 _ c' y hj hy
              · rcases List.mem_append.1 hc with hc | hc
                · exact ⟨_, by simp, .ag hc hn⟩
                · obtain ⟨w, hw, hh⟩ := g4 c' hc nm hn; exact ⟨w, by simp [hw], hh⟩
          · cases h
      · cases h
theorem flatMap_one {α β : Type} (f : α → β) : ∀ l : List α, l.flatMap (fun a => [f a]) = l.map f
  | [] => rfl
  | a :: l => by simp [flatMap_one f l]
theorem rowB_ok {X : Ctx} {e : Nat} {vs : List V} {b : B} {us : List Value} (h : rowB e vs = some b) (hl : us.length = vs.length) (hd : ∀ (i : Nat) v u, vs[i]? = some v → us[i]? = some u → VDen X v u) :
    (ty e).d ≠ .other ∧ (∀ u ∈ us, u.cells.size = (ty e).sz) ∧ Cells X b (flat us).toArray us.length ∧ ∀ nm, b.Has nm → ∃ v ∈ vs, v.Has nm := by
  have st : ∀ (hne : (ty e).d ≠ .other), (match asCells (ty e).sz vs with | some l => some (B.st l) | none => none) = some b →
      (ty e).d ≠ .other ∧ (∀ u ∈ us, u.cells.size = (ty e).sz) ∧ Cells X b (flat us).toArray us.length ∧ ∀ nm, b.Has nm → ∃ v ∈ vs, v.Has nm := by
    intro hne h
    split at h
    · rename_i cs hcs
      cases h
      obtain ⟨g1, g2, g3, g4⟩ := asCells_ok hcs hl hd
      exact ⟨hne, g1, st_cells (by simpa using g2) (fun j c u hj hu => g3 j c u hj (by simpa using hu)), fun nm hn => by cases hn with | st hm hc => exact g4 _ hm nm hc⟩
    · cases h
  have szI : ∀ {k : IntKind}, (ty e).d = .int k → (ty e).sz = 1 := fun {k} hk => by
    have hall : tyTab.all (fun t => match t.d with | .int _ | .bool => Nat.beq t.sz 1 | _ => true) = true := by kernel_rfl
    unfold ty at hk ⊢
    rw [List.getD_eq_getElem?_getD] at hk ⊢
    cases hx : tyTab[e]? with
    | none => simp [hx] at hk
    | some x =>
      simp only [hx, Option.getD_some] at hk ⊢
      have := List.all_eq_true.1 hall x (List.mem_of_getElem? hx)
      rw [hk] at this
      exact Nat.eq_of_beq_eq_true this
  have szB : (ty e).d = .bool → (ty e).sz = 1 := fun hk => by
    have hall : tyTab.all (fun t => match t.d with | .int _ | .bool => Nat.beq t.sz 1 | _ => true) = true := by kernel_rfl
    unfold ty at hk ⊢
    rw [List.getD_eq_getElem?_getD] at hk ⊢
    cases hx : tyTab[e]? with
    | none => simp [hx] at hk
    | some x =>
      simp only [hx, Option.getD_some] at hk ⊢
      have := List.all_eq_true.1 hall x (List.mem_of_getElem? hx)
      rw [hk] at this
      exact Nat.eq_of_beq_eq_true this
  unfold rowB at h
  cases hde : (ty e).d with
  | int k =>
    rw [hde] at h
    dsimp only at h
    split at h
    · rename_i l hl'
      cases h
      have hus := asInts_ok hl' hl hd
      have hf : flat us = l.map (.int k) := by rw [hus]; simp only [flat, List.flatMap_map, Value.cells]; exact flatMap_one _ l
      refine ⟨by simp, fun u hu => ?_, ⟨by simp [B.size, hf], fun j hj => ?_, fun sz hsz => ?_⟩, fun nm hn => by cases hn⟩
      · rw [hus] at hu; simp at hu; obtain ⟨n, _, rfl⟩ := hu; rw [szI hde]; rfl
      · have hj' : j < l.length := hj
        exact ⟨.int k l[j], by simp [hf, hj'], .ar (by simp [hj'])⟩
      · have : 1 = sz := by simpa [B.own] using hsz
        subst this
        rw [hf, hus]; simp
    · cases h
  | bool =>
    rw [hde] at h
    dsimp only at h
    split at h
    · rename_i l hl'
      cases h
      have hus := asBools_ok hl' hl hd
      have hf : flat us = l.map .bool := by rw [hus]; simp only [flat, List.flatMap_map, Value.cells]; exact flatMap_one _ l
      refine ⟨by simp, fun u hu => ?_, ⟨by simp [B.size, hf], fun j hj => ?_, fun sz hsz => ?_⟩, fun nm hn => by cases hn⟩
      · rw [hus] at hu; simp only [List.mem_map] at hu; obtain ⟨n, _, rfl⟩ := hu; rw [szB hde]; rfl
      · have hj' : j < l.length := hj
        exact ⟨.bool l[j], by simp [hf, hj'], .bl (by simp [hj'])⟩
      · have : 1 = sz := by simpa [B.own] using hsz
        subst this
        rw [hf, hus]; simp
    · cases h
  | other => rw [hde] at h; cases h
  | _ => rw [← hde]; rw [hde] at h; exact st (by rw [hde]; simp) h
theorem splice_den {X : Ctx} {cs ds : List C} {cells : Array Value} {us : List Value} {off : Nat} (hs : cells.size = cs.length) (hd : ∀ (j : Nat) c u, cs[j]? = some c → cells[j]? = some u → Den X c u)
    (hl : us.length = ds.length) (hu : ∀ (j : Nat) c u, ds[j]? = some c → us[j]? = some u → Den X c u) (hle : off + ds.length ≤ cs.length) :
    (cells.toList.take off ++ us ++ cells.toList.drop (off + us.length)).toArray.size = (cs.take off ++ ds ++ cs.drop (off + ds.length)).length ∧
    ∀ (j : Nat) c u, (cs.take off ++ ds ++ cs.drop (off + ds.length))[j]? = some c → (cells.toList.take off ++ us ++ cells.toList.drop (off + us.length)).toArray[j]? = some u → Den X c u := by
  refine ⟨by rw [size_splice _ _ _ (by omega)]; simp; omega, fun j c u hj hy => ?_⟩
  rw [getElem?_splice _ _ _ _ (by omega)] at hy
  have e1 : (cs.take off).length = off := by simp; omega
  by_cases h1 : j < off
  · rw [if_pos h1] at hy
    rw [List.append_assoc, List.getElem?_append_left (by omega), List.getElem?_take, if_pos h1] at hj
    exact hd j c u hj hy
  · rw [if_neg h1] at hy
    rw [List.append_assoc, List.getElem?_append_right (by omega), e1] at hj
    by_cases h2 : j < off + us.length
    · rw [if_pos h2] at hy
      rw [List.getElem?_append_left (by omega)] at hj
      exact hu _ c u hj hy
    · rw [if_neg h2] at hy
      rw [List.getElem?_append_right (by omega), List.getElem?_drop] at hj
      have : off + ds.length + (j - off - ds.length) = j := by omega
      rw [this] at hj
      exact hd j c u hj hy
theorem set_splice {α : Type} (l : List α) (n : Nat) (c : α) (h : n < l.length) : l.set n c = l.take n ++ [c] ++ l.drop (n + 1) := by
  rw [List.set_eq_take_append_cons_drop, if_pos h]; simp
theorem fillL_ok {s : Nat} {ρ : Operand → Option V} {a : Act} {X : Ctx} {nx : Nat} (hk : Known ρ a X nx) {places : Array (Nat × Nat)}
    (hpl : ∀ f o t, fieldOf s f = some (o, t) → (ty t).sz ≠ 0 → places[f]? = some (o, (ty t).sz)) :
    ∀ (ps : List (Nat × Operand)) (cs cs' : List C) (cells : Array Value), fillL s ρ ps cs = some cs' → cells.size = cs.length →
      (∀ (j : Nat) c u, cs[j]? = some c → cells[j]? = some u → Den X c u) → (∀ c ∈ cs, ∀ nm, c.Has nm → nm < nx) →
      ∃ cells', Instr.fill (places[·]?) cells (ps.map fun p => (p.1, a.eval p.2)) = some cells' ∧ cells'.size = cs'.length ∧
        (∀ (j : Nat) c u, cs'[j]? = some c → cells'[j]? = some u → Den X c u) ∧ ∀ c ∈ cs', ∀ nm, c.Has nm → nm < nx
  | [], cs, cs', cells, h, hs, hd, hn => by simp [fillL] at h; subst h; exact ⟨cells, by simp [Instr.fill], hs, hd, hn⟩
  | (f, x) :: r, cs, cs', cells, h, hs, hd, hn => by
    have go : ∀ (o t : Nat) (ds : List C) (u : Value), places[f]? = some (o, (ty t).sz) → u = a.eval x → u.cells.size = (ty t).sz → ds.length = (ty t).sz → o + ds.length ≤ cs.length →
        (∀ (j : Nat) c y, ds[j]? = some c → u.cells.toList[j]? = some y → Den X c y) → (∀ c ∈ ds, ∀ nm, c.Has nm → nm < nx) →
        fillL s ρ r (cs.take o ++ ds ++ cs.drop (o + ds.length)) = some cs' →
        ∃ cells', Instr.fill (places[·]?) cells (((f, x) :: r).map fun p => (p.1, a.eval p.2)) = some cells' ∧ cells'.size = cs'.length ∧
          (∀ (j : Nat) c u, cs'[j]? = some c → cells'[j]? = some u → Den X c u) ∧ ∀ c ∈ cs', ∀ nm, c.Has nm → nm < nx := by
      intro o t ds u hp hu hus hds hle hdd hnd h
      have hl : u.cells.toList.length = ds.length := by simp [hus, hds]
      obtain ⟨g1, g2⟩ := splice_den hs hd hl hdd hle
      obtain ⟨cells', k1, k2⟩ := fillL_ok hk hpl r _ cs' _ h g1 g2 (fun c hc => by
        rcases List.mem_append.1 hc with hc | hc
        · rcases List.mem_append.1 hc with hc | hc
          · exact hn c (List.mem_of_mem_take hc)
          · exact hnd c hc
        · exact hn c (List.mem_of_mem_drop hc))
      refine ⟨cells', ?_, k2⟩
      rw [List.map_cons, ← hu, fill_one hp hus (by omega)]
      exact k1
    unfold fillL at h
    split at h
    · rename_i o t hf
      split at h
      · rename_i c hx
        split at h
        · rename_i cs1 hsz ho hset
          obtain ⟨hlt, rfl⟩ := setL_ok hset
          obtain ⟨h1, h2⟩ := hk x _ hx
          have hp := hpl f o t hf (by omega)
          generalize hu : a.eval x = u at h1
          cases h1 with
          | c h1 =>
            have hone := h1.one ho
            have huc : u.cells = #[u] := by cases u <;> first | rfl | (simp [Value.oneCell'] at hone)
            rw [set_splice cs o c hlt] at h
            refine go o t [c] u hp hu.symm (by rw [huc, hsz]; rfl) (by rw [hsz]; rfl) (by simp only [List.length_cons, List.length_nil]; omega) (fun j d y hj hy => ?_) (fun d hd nm hm => by simp at hd; subst hd; exact h2 nm (.c hm)) h
            rw [huc] at hy
            cases j with
            | zero => simp at hj hy; subst hj; subst hy; exact h1
            | succ j => simp at hj
        · cases h
      · rename_i ds hx
        split at h
        · rename_i cs1 hsz hz hsp
          obtain ⟨hle, rfl⟩ := spliceL_ok hsp
          obtain ⟨h1, h2⟩ := hk x _ hx
          have hz' : (ty t).sz ≠ 0 := fun e => by rw [e] at hz; exact absurd hz (by decide)
          have hp := hpl f o t hf hz'
          have hlen := Nat.eq_of_beq_eq_true hsz
          generalize hu : a.eval x = u at h1
          cases h1 with
          | @ag _ us hs' h1 =>
            exact go o t ds (.agg us) hp hu.symm (by rw [← hlen, ← hs']; rfl) hlen hle (fun j d y hj hy => h1 j d y hj (by simpa [Value.cells] using hy)) (fun d hd nm hm => h2 nm (.ag hd hm)) h
        · cases h
      · cases h
    · cases h
theorem R.toM_sat {r : R} {st : Nat → Option B} {nx : Nat} {Q : V → (Nat → Option B) → Nat → Prop} (h : r.sat (fun v => Q v st nx)) : (r.toM st nx).sat Q := by
  cases r with
  | no => trivial
  | ok v => exact h
  | cond φ v => exact h
theorem madeCells_one (z : Value) (n : Nat) : madeCells #[z] n = Array.replicate n z := by
  apply Array.toList_inj.1
  rw [toList_madeCells_one]; simp
theorem madeB_ok {X : Ctx} {e n c : Nat} {b : B} (h : madeB e n = some b) :
    (ty e).d ≠ .other ∧ ∃ i z, P.info? e = some i ∧ i.zero = some z ∧ i.bytes = (ty e).by_ ∧ Cells X b (madeCells z.cells (n * i.size)) c ∧ ∀ m, ¬ b.Has m := by
  have zero : ∀ (d : TyD) (c0 : C), (ty e).d = d → (ty e).z = [c0] → ∃ i z, P.info? e = some i ∧ i.zero = some z ∧ i.bytes = (ty e).by_ ∧ i.size = 1 ∧ ∃ u, z.cells = #[u] ∧ cIs c0 u = true := by
    intro d c0 hd hz
    obtain ⟨_, i, v, hi, hv, hs, hb, hl, hc⟩ := zero_of hz
    have h1 : v.cells.size = 1 := hl
    refine ⟨i, v, hi, hv, hb, by rw [hs, zero_len hz]; rfl, v.cells[0], ?_, hc 0 _ _ rfl (by simp [h1])⟩
    apply Array.ext
    · simpa using h1
    · intro j h2 h3
      have : j = 0 := by simp at h3; exact h3
      subst this; rfl
  unfold madeB at h
  have tab : ∀ (k : IntKind), (ty e).d = .int k → (ty e).z = [.i k 0] := fun k hk => by
    have hall : tyTab.all (fun t => match t.d, t.z with | .int k, [.i k' (.ofNat 0)] => kEq k k' | .int _, _ => false | _, _ => true) = true := by kernel_rfl
    unfold ty at hk ⊢
    rw [List.getD_eq_getElem?_getD] at hk ⊢
    cases hx : tyTab[e]? with
    | none => simp [hx] at hk
    | some x =>
      simp only [hx, Option.getD_some] at hk ⊢
      have := List.all_eq_true.1 hall x (List.mem_of_getElem? hx)
      rw [hk] at this
      split at this
      · rename_i heq hz; cases heq; rw [hz, kEq_eq this]; rfl
      all_goals first | (exfalso; rename_i h1 h2; first | exact h1 _ rfl | exact h1 rfl) | cases this
  have tabB : (ty e).d = .bool → (ty e).z = [.b false] := fun hk => by
    have hall : tyTab.all (fun t => match t.d, t.z with | .bool, [.b false] => true | .bool, _ => false | _, _ => true) = true := by kernel_rfl
    unfold ty at hk ⊢
    rw [List.getD_eq_getElem?_getD] at hk ⊢
    cases hx : tyTab[e]? with
    | none => simp [hx] at hk
    | some x =>
      simp only [hx, Option.getD_some] at hk ⊢
      have := List.all_eq_true.1 hall x (List.mem_of_getElem? hx)
      rw [hk] at this
      split at this
      · rename_i heq hz; exact hz
      all_goals first | (exfalso; rename_i h1 h2; first | exact h1 _ rfl | exact h1 rfl) | cases this
  have tabS : ∀ f, (ty e).d = .slice f → (ty e).z = [.nsl] := fun f hk => by
    have hall : tyTab.all (fun t => match t.d, t.z with | .slice _, [.nsl] => true | .slice _, _ => false | _, _ => true) = true := by kernel_rfl
    unfold ty at hk ⊢
    rw [List.getD_eq_getElem?_getD] at hk ⊢
    cases hx : tyTab[e]? with
    | none => simp [hx] at hk
    | some x =>
      simp only [hx, Option.getD_some] at hk ⊢
      have := List.all_eq_true.1 hall x (List.mem_of_getElem? hx)
      rw [hk] at this
      split at this
      · rename_i heq hz; exact hz
      all_goals first | (exfalso; rename_i h1 h2; first | exact h1 _ rfl | exact h1 rfl) | cases this
  split at h
  · rename_i k hd
    cases h
    obtain ⟨i, z, hi, hz, hb, hs, u, hu, hc⟩ := zero _ _ hd (tab k hd)
    have hden : Den X (.i k 0) u := cIs_den hc
    cases hden
    refine ⟨by rw [hd]; simp, i, z, hi, hz, hb, ⟨?_, fun j hj => ?_, fun sz h => by cases h⟩, fun m h => by cases h⟩
    · rw [hu, hs, madeCells_one]; simp [B.size]
    · have hj' : j < n := by simpa [B.size] using hj
      rw [hu, hs, madeCells_one]
      exact ⟨_, by simp [hj']; rfl, .ar (by simp [hj'])⟩
  · rename_i hd
    cases h
    obtain ⟨i, z, hi, hz, hb, hs, u, hu, hc⟩ := zero _ _ hd (tabB hd)
    have hden : Den X (.b false) u := cIs_den hc
    cases hden
    refine ⟨by rw [hd]; simp, i, z, hi, hz, hb, ⟨?_, fun j hj => ?_, fun sz h => by cases h⟩, fun m h => by cases h⟩
    · rw [hu, hs, madeCells_one]; simp [B.size]
    · have hj' : j < n := by simpa [B.size] using hj
      rw [hu, hs, madeCells_one]
      exact ⟨_, by simp [hj']; rfl, .bl (by simp [hj'])⟩
  · rename_i f hd
    cases h
    obtain ⟨i, z, hi, hz, hb, hs, u, hu, hc⟩ := zero _ _ hd (tabS f hd)
    have hden : Den X .nsl u := cIs_den hc
    cases hden
    refine ⟨by rw [hd]; simp, i, z, hi, hz, hb, ⟨?_, fun j hj => ?_, fun sz h => by cases h⟩, fun m h => ?_⟩
    · rw [hu, hs, madeCells_one]; simp [B.size]
    · have hj' : j < n := by simpa [B.size] using hj
      rw [hu, hs, madeCells_one]
      exact ⟨_, by simp [hj'], .st (c := .nsl) (by simp [hj']) .nsl⟩
    · cases h with
      | st hm hc => simp at hm; obtain ⟨_, rfl⟩ := hm; exact hc
  · cases h
theorem fieldsAll : (List.range 294).all (fun t => match P.underlying t with | some (.struct fs) => fs.toList.all (fun f => (P.info? f.type).isSome) | _ => true) = true := by kernel_rfl
theorem places_of {t : Nat} {fs : List (Nat × Nat)} {fs' : Array Field} (hd : (ty t).d = .st fs) (hu : P.underlying t = some (.struct fs')) :
    ∃ places, fs'.toList.mapM (fun f => (P.info? f.type).map fun i => (f.offset, i.size)) = some places ∧ ∀ f o u, fieldOf t f = some (o, u) → (ty u).sz ≠ 0 → places.toArray[f]? = some (o, (ty u).sz) := by
  have ht : t < 294 := by
    rcases Nat.lt_or_ge t 294 with h | h
    · exact h
    · exfalso
      have hl : tyTab.length = 294 := by kernel_rfl
      unfold ty at hd
      rw [List.getD_eq_getElem?_getD, List.getElem?_eq_none (by omega)] at hd
      cases hd
  have hall := List.all_eq_true.1 fieldsAll t (List.mem_range.2 ht)
  simp only [hu] at hall
  have hsome : ∀ f ∈ fs'.toList, (P.info? f.type).map (fun i => (f.offset, i.size)) = some (f.offset, ((P.info? f.type).map (·.size)).getD 0) := fun f hf => by
    have := List.all_eq_true.1 hall f hf
    obtain ⟨i, hi⟩ := Option.isSome_iff_exists.1 this
    simp [hi]
  refine ⟨_, mapM_some_of_forall fs'.toList hsome, fun f o u hf hz => ?_⟩
  unfold fieldOf at hf
  rw [hd] at hf
  obtain ⟨fs2, hu2, h⟩ := ty_st hd
  rw [hu] at hu2
  cases hu2
  obtain ⟨g, hg, ho, hgt⟩ := h f o u hf
  obtain ⟨i, hi, hs, _⟩ := (ty_d (ty_pos hz)).2
  have hg' : fs'.toList[f]? = some g := by simpa using hg
  simp [hg, hgt, hi, hs, ho]
theorem memV_ok (o : Oper) (a : Act) (H : Hp) (X : Ctx) (st : Nat → Option B) (nx : Nat) (ρ : Operand → Option V) (hk : Known ρ a X nx) (hs : Hs H st nx X) :
    (memV o.op ρ st nx).sat (fun v st' nx' => Ym H X nx ((execOp a.eval o).run P X.w) v st' nx') := by
  obtain ⟨dst, op, type, pos, after, guard⟩ := o
  have one : ∀ {x : Operand} {c : C}, ρ x = some (.c c) → Den X c (a.eval x) ∧ ∀ nm, c.Has nm → nm < nx := fun {x c} h => by
    obtain ⟨h1, h2⟩ := hk x _ h
    cases h1 with | c h1 => exact ⟨h1, fun nm hn => h2 nm (.c hn)⟩
  have same : ∀ {m : Sem Value} {v : V}, Yv X nx m v → (execOp a.eval ⟨dst, op, type, pos, after, guard⟩ = (do pure (.value (← m)) : Sem Next)) → Ym H X nx ((execOp a.eval ⟨dst, op, type, pos, after, guard⟩).run P X.w) v st nx := fun {m v} h he => by
    obtain ⟨u, h1, h2, h3⟩ := h
    exact ⟨.value u, u, X, by rw [he]; simp [h1], .inl rfl, hs, .refl _ _, Nat.le_refl _, h2, h3⟩
  have newB : ∀ {b : B} {cur : Array Value} {tb : TypeId} {cap : Nat} {v : V} {u : Value}, Cells X b cur cap → (∀ m, b.Has m → m < nx) →
      ((execOp a.eval ⟨dst, op, type, pos, after, guard⟩).run P X.w = .ok (.value u) (X.w.alloc (.cells cur tb))) →
      (∀ X' : Ctx, X'.ν nx = some (X.w.heap.size, cap) → VDen X' v u) → (∀ nm, v.Has nm → nm ≤ nx) →
      Ym H X nx ((execOp a.eval ⟨dst, op, type, pos, after, guard⟩).run P X.w) v (upd st nx b) (nx + 1) := fun {b cur tb cap v u} hc hb hrun hv hn => by
    obtain ⟨h1, h2⟩ := hs.newB (ty := tb) hc hb
    exact ⟨.value u, u, X.newB nx cap (.cells cur tb), hrun, .inl rfl, h1, h2, Nat.le_succ _, hv _ (upd_same _ _ _), fun nm h => Nat.lt_succ_of_le (hn nm h)⟩
  dsimp only
  unfold memV
  split
  · rename_i t x
    split
    · rename_i nm off hx
      split
      · rename_i b hb
        obtain ⟨h1, h2⟩ := one hx
        generalize hu : a.eval x = u at h1
        cases h1 with
        | @p _ _ bl c hν =>
          have hbd := hs.blk nm b hb
          simp only [BDen, hν] at hbd
          obtain ⟨cur, tb, hh, hc⟩ := hbd
          refine R.toM_sat (R.sat_mono (loadM_ok (nx := nx) hh hc (hs.bd nm b hb).2) fun v hv => same hv ?_)
          simp [execOp, hu, Instr.loadAt, Instr.sureAddr]
      · trivial
    · trivial
  · rename_i t x y
    split
    · rename_i nm off hx
      split
      · rename_i v hy
        split
        · rename_i b hb
          obtain ⟨h1, h2⟩ := one hx
          obtain ⟨h3, h4⟩ := hk y _ hy
          generalize hu : a.eval x = u at h1
          cases h1 with
          | @p _ _ bl c hν =>
            have hbd := hs.blk nm b hb
            simp only [BDen, hν] at hbd
            obtain ⟨cur, tb, hh, hc⟩ := hbd
            have hst := storeB_ok (t := t) (off := off) hh hc (hs.bd nm b hb).2 h3 h4
            have fin : ∀ b', (∃ cur', (storeVar t ⟨bl, off, none⟩ (a.eval y)).run P X.w = .ok () (X.w.setRow bl cur') ∧ Cells X b' cur' c ∧ ∀ m, b'.Has m → m < nx) →
                Ym H X nx ((execOp a.eval ⟨dst, .store t x y, type, pos, after, guard⟩).run P X.w) (.tu []) (upd st nm b') nx := by
              rintro b' ⟨cur', g1, g2, g3⟩
              obtain ⟨k1, k2⟩ := hs.setB hb hν hh g2 g3
              refine ⟨.skip, undef, _, ?_, .inr ⟨rfl, rfl⟩, k1, k2, Nat.le_refl _, .tu rfl (fun i v u h => by simp at h), fun nm h => by cases h with | tu h => cases h⟩
              simp [execOp, hu, Instr.storeAt, Instr.sureAddr, g1]
            split
            · rename_i b' hsb; rw [hsb] at hst; exact fin b' hst
            · rename_i φ b' hsb; rw [hsb] at hst; exact fun hφ => fin b' (hst hφ)
            · trivial
        · trivial
      · trivial
    · trivial
  · rename_i t
    split
    · rename_i b hb
      obtain ⟨v, h1, h2, h3⟩ := zeroB_ok (X := X) hb 0
      refine newB (cap := 0) (tb := t) h2 (fun m hm => (h3 m hm).elim) (u := .pointer (some ⟨X.w.heap.size, 0, none⟩)) ?_ (fun X' h => .c (.p h)) (fun nm h => by cases h with | c h => exact Nat.le_of_eq h.symm)
      simp [execOp, Instr.alloc, h1, newVar, newRow]
    · trivial
  · rename_i t x
    split
    · rename_i c hx
      split
      · rename_i hsz ho
        obtain ⟨h1, h2⟩ := one hx
        have hone := h1.one ho
        have huc : (a.eval x).cells = #[a.eval x] := by
          generalize a.eval x = u at hone
          cases u <;> first | rfl | (simp [Value.oneCell'] at hone)
        refine newB (cap := 0) (tb := t) (cur := #[a.eval x]) (st_cells rfl fun j y u hy hu => ?_) (fun m hm => ?_) (u := .pointer (some ⟨X.w.heap.size, 0, none⟩)) ?_ (fun X' h => .c (.p h)) (fun nm h => by cases h with | c h => exact Nat.le_of_eq h.symm)
        · cases j with
          | zero => simp at hy hu; subst hy; subst hu; exact h1
          | succ j => simp at hy
        · cases hm with | st hm hc => simp at hm; subst hm; exact h2 m hc
        · simp [execOp, Instr.box, newVar, newRow, huc]
      · trivial
    · rename_i cs hx
      obtain ⟨h1, h2⟩ := hk x _ hx
      generalize hu : a.eval x = u at h1
      cases h1 with
      | @ag _ cells hsz hd =>
        refine newB (cap := 0) (tb := t) (cur := cells) (st_cells hsz hd) (fun m hm => ?_) (u := .pointer (some ⟨X.w.heap.size, 0, none⟩)) ?_ (fun X' h => .c (.p h)) (fun nm h => by cases h with | c h => exact Nat.le_of_eq h.symm)
        · cases hm with | st hm hc => exact h2 m (.ag hm hc)
        · simp [execOp, Instr.box, newVar, newRow, hu, Value.cells]
    · trivial
  · rename_i t ps
    split
    · rename_i fs c r hd hz
      split
      · rename_i cs hfill
        obtain ⟨v, g1, g2, g3⟩ := run_zeroValue hz
        obtain ⟨fs', hun, hfs⟩ := ty_st hd
        obtain ⟨places, hp1, hp2⟩ := places_of hd hun
        obtain ⟨cells', k1, k2, k3, k4⟩ := fillL_ok (places := places.toArray) hk hp2 ps.toList (c :: r) cs v.cells hfill g2 (fun j x u hx hu => cIs_den (g3 j x u hx hu)) (fun x hx nm hn => by
          obtain ⟨j, hj⟩ := List.mem_iff_getElem?.1 hx
          have hlt : j < v.cells.size := by rw [g2]; exact (List.getElem?_eq_some_iff.1 hj).1
          exact (cIs_no (g3 j _ v.cells[j] hj (by simp [hlt])) nm hn).elim)
        refine ⟨.value (.agg cells'), .agg cells', X, ?_, .inl rfl, hs, .refl _ _, Nat.le_refl _, .ag k2 k3, fun nm h => by cases h with | ag hm hc => exact k4 _ hm nm hc⟩
        have hpl : (ps.map fun (p : Nat × Operand) => (p.1, a.eval p.2)).toList = ps.toList.map fun p => (p.1, a.eval p.2) := by simp
        obtain ⟨_, i, v', hi, hv', _, _, _, _⟩ := zero_of hz
        have hvv : v' = v := by have := g1 X.w; simp [zeroValue, typeInfo, hi, hv'] at this; exact this
        subst hvv
        have hbt : P.built t (ps.map fun (p : Nat × Operand) => (p.1, a.eval p.2)).toList = some cells' := by
          unfold Program.built
          rw [hpl, hi, hun]
          simp only [hv', hp1]
          exact k1
        have := run_build (P := P) X.w t _ cells' hbt
        simp only [execOp, Sem.run_bind]
        rw [this]
        rfl
      · trivial
    · trivial
  · rename_i t len ps
    split
    · rename_i e hd
      split
      · rename_i xs hin
        split
        · rename_i vs hlen hvs
          split
          · rename_i b z0 zr hb hz hble
            obtain ⟨r1, r2, r3⟩ := rds_ok hk _ _ hvs
            obtain ⟨q1, q2, q3, q4⟩ := rowB_ok (X := X) hb r1 r2
            have hl := Nat.eq_of_beq_eq_true hlen
            have hul : (xs.map a.eval).length = len := by simp [hl]
            have hpl : (ps.map fun (p : Nat × Operand) => (p.1, a.eval p.2)).toList = rowOf 0 (xs.map a.eval) := by
              rw [Array.toList_map]; exact inRow_ok a.eval hin
            obtain ⟨i, hi, hsz, _⟩ := (ty_d q1).2
            have hrun : (execOp a.eval ⟨dst, .buildSlice t len ps, type, pos, after, guard⟩).run P X.w = .ok (.value (.slice (some ⟨X.w.heap.size, 0, none⟩) len len)) (X.w.alloc (.cells (flat (xs.map a.eval)).toArray e)) := by
              obtain ⟨zv, g1, g2, _⟩ := run_zeroValue hz
              have hle := Nat.le_of_ble_eq_true hble
              have hrow := fill_row (sz := (ty e).sz) (xs.map a.eval) 0 ((Array.range (len * (ty e).sz)).map (zv.cells[· % zv.cells.size]!)) q2 (by simp [hul])
              have hz0 : len * (ty e).sz = 0 → Array.map (fun x => (#[] : Array Value)[x % (#[] : Array Value).size]!) (Array.range (len * (ty e).sz)) = (Array.range (len * (ty e).sz)).map (zv.cells[· % zv.cells.size]!) := fun h => by rw [h]; simp
              have hfl : (flat (xs.map a.eval)).length = len * (ty e).sz := by
                have : ∀ (l : List Value), (∀ u ∈ l, u.cells.size = (ty e).sz) → (flat l).length = l.length * (ty e).sz := by
                  intro l
                  induction l with
                  | nil => intro _; simp [flat]
                  | cons u l ih =>
                    intro h
                    have h1 := ih fun u hu => h u (by simp [hu])
                    have h2 := h u (by simp)
                    simp only [flat, List.flatMap_cons, List.length_append, List.length_cons, Array.length_toList] at h1 ⊢
                    rw [h1, h2, Nat.add_mul, Nat.one_mul, Nat.add_comm]
                rw [this _ q2, hul]
              have hres : (Instr.fill (fun i => some (i * (ty e).sz, (ty e).sz)) ((Array.range (len * (ty e).sz)).map (zv.cells[· % zv.cells.size]!)) (rowOf 0 (xs.map a.eval))) = some (flat (xs.map a.eval)).toArray := by
                rw [hrow]
                refine congrArg some ?_
                apply Array.toList_inj.1
                simp only [Nat.zero_mul, List.take_zero, List.nil_append, Nat.zero_add]
                rw [List.drop_eq_nil_of_le (by rw [hul]; simp), List.append_nil]
              have hnot : ¬ len * (ty e).sz > 2 ^ 24 := by omega
              simp only [execOp, Instr.buildSlice, Sem.run_bind, run_underlying (ty_slice hd), Result.andThen_ok, ty_sz q1, Sem.run_ite, if_neg hnot]
              by_cases h0 : len * (ty e).sz = 0
              · simp only [if_pos h0, Sem.run_pure, Result.andThen_ok]
                rw [hz0 h0, hpl, hres]
                simp [newRow]
              · simp only [if_neg h0, g1, Sem.run_pure, Result.andThen_ok]
                rw [hpl, hres]
                simp [newRow]
            have hbn : ∀ m, b.Has m → m < nx := fun m hm => by obtain ⟨v, hv, h⟩ := q4 m hm; exact r3 v hv m h
            rw [hul] at q3
            refine newB (cap := len) (tb := e) q3 hbn hrun (fun X' h => ?_) (fun nm h => ?_)
            · unfold rowV
              split
              · exact .c (.osl h (Nat.le_refl _))
              · exact .c (.osl h (Nat.le_refl _))
              · exact .c (.sl h)
            · unfold rowV at h
              split at h <;> (cases h with | c h => exact Nat.le_of_eq h.symm)
          · trivial
        · trivial
      · trivial
    · trivial
  · rename_i t l c
    split
    · rename_i e hd
      split
      · rename_i k n hl
        split
        · rename_i k' m hc
          split
          · rename_i b hb hby
            rintro ⟨h0, h1, h2⟩
            obtain ⟨hde, i, z, hi, hz, hbytes, hcells, hno⟩ := madeB_ok (X := X) (c := m.toNat) hb
            have e1 := (one hl).1
            have e2 := (one hc).1
            generalize hu : a.eval l = u at e1
            generalize hv : a.eval c = v at e2
            cases e1; cases e2
            have hb64 := Nat.le_of_ble_eq_true hby
            have hrun := run_make (P := P) (w := X.w) t e i z (ty_slice hd) hi hz k k' n m h0 h1 (by
              rw [hbytes]
              have : ((ty e).by_ : Int) ≤ 64 := by omega
              calc ((ty e).by_ : Int) * m ≤ 64 * m := Int.mul_le_mul_of_nonneg_right this (by omega)
                _ ≤ 281474976710656 := by omega) (by omega)
            refine newB (cap := m.toNat) (tb := e) hcells (fun x hx => (hno x hx).elim) (u := .slice (some ⟨X.w.heap.size, 0, none⟩) n.toNat m.toNat) ?_ (fun X' h => .c (.sl h)) (fun nm h => by cases h with | c h => exact Nat.le_of_eq h.symm)
            simp [execOp, hu, hv, hrun]
          · trivial
        · trivial
      · trivial
    · trivial
  · rename_i src dst' x
    split
    · rename_i s hx
      split
      · rename_i e hs1 hs2
        split
        · rename_i hu8
          have h1 := (one hx).1
          generalize hu : a.eval x = u at h1
          cases h1
          have hrun := run_bytes_of_string (P := P) X.w src dst' e s (ty_str hs1) (ty_slice hs2) (ty_int hu8)
          obtain ⟨d1, d2⟩ := hs.world X.w.drew rfl
          generalize hrow : bytesRow s (grownCap X.w s.size 0 e) = row at hrun
          have hge := grownCap_ge X.w s.size 0 e
          obtain ⟨d3, d4⟩ := d1.newI (.cells row e (row.size, row.size + 1))
          have hlen : (s.data.toList.map fun b => (b.toNat : Int)).length = s.size := by simp
          refine ⟨.value (.slice (some ⟨X.w.heap.size, 0, none⟩) s.size (grownCap X.w s.size 0 e)), .slice (some ⟨X.w.heap.size, 0, none⟩) s.size (grownCap X.w s.size 0 e), _, ?_, .inl rfl, d3, d2.trans d4 (Nat.le_refl _), Nat.le_refl _, ?_, fun _=>no_is⟩
          · simp only [execOp, hu, Sem.run_bind, hrun]; rfl
          · rw [← hlen]
            refine .c (.is (.inr rfl) (by rw [hlen]; exact hge) fun j n hj => ?_)
            rw [List.getElem?_map] at hj
            show (X.w.drew.alloc (.cells row e (row.size, row.size + 1))).cell? ⟨X.w.heap.size, 0 + j, none⟩ = _
            have hb : (X.w.drew.alloc (.cells row e (row.size, row.size + 1))).heap[X.w.heap.size]? = some (.cells row e (row.size, row.size + 1)) := heap_alloc_new X.w.drew _
            rw [cell_block hb, Nat.zero_add, ← hrow]
            unfold bytesRow
            cases hb' : s.data.toList[j]? with
            | none => rw [hb'] at hj; cases hj
            | some x =>
              rw [hb'] at hj
              simp only [Option.map_some, Option.some.injEq] at hj
              subst hj
              have hlt : j < s.data.size := by simpa using (List.getElem?_eq_some_iff.1 hb').1
              rw [Array.getElem?_append_left (by simpa using hlt), Array.getElem?_map]
              have : s.data[j]? = some x := by simpa using hb'
              rw [this]; rfl
        · trivial
      · trivial
    · trivial
  · trivial
end Go.SX
