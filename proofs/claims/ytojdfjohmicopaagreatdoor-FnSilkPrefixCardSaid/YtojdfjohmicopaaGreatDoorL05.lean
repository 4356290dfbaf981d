/- A part of the proof: the SILK decoder of the given program, walked by an executor that is proved sound. No statement of the program is proved in this text. -/
import Derived.Laws.AppendOwn
import Derived.Test.YtojdfjohmicopaaGreatDoorL04
set_option linter.all false
set_option maxRecDepth 100000
namespace Go.SX
open Go
theorem run_append_all {w : World} {t ty' e : TypeId} {i : TypeInfo} {z : Value} (ht : P.underlying t = some (.slice e)) (hi : P.info? e = some i) (hz : i.zero = some z)
    (hzs : z.cells.size = i.size) (hby : i.bytes ≤ 32768) {v : Value} {n cap : Nat} {olds : List Value}
    (hb : (v = .slice none 0 0 ∧ n = 0 ∧ olds = []) ∨ ∃ g tg cur, v = .slice (some ⟨g, 0, none⟩) n cap ∧ w.heap[g]? = some (.cells cur tg (0, 0)) ∧ n ≤ cap ∧ cur.size = cap * i.size ∧ cur.toList.take (n * i.size) = olds)
    {u : Value} {m : Nat} {news : List Value}
    (hs : (u = .slice none 0 0 ∧ m = 0 ∧ news = []) ∨ ∃ a c, u = .slice (some a) m c ∧ news.length = m * i.size ∧ (∀ j x, news[j]? = some x → w.cell? (a.add j) = some x) ∧ ∀ x ∈ news, x.oneCell' = true)
    (hnm : n + m ≤ 4294967296) :
    ∃ v' w', (Builtin.append_ #[t, t] ty' #[v, u]).run P w = .ok v' w' ∧ (
      (v = .slice none 0 0 ∧ v' = .slice none 0 0 ∧ w' = w ∧ m = 0 ∧ n = 0 ∧ news = [])
      ∨ (∃ g tg cur cur', v = .slice (some ⟨g, 0, none⟩) n cap ∧ w.heap[g]? = some (.cells cur tg (0, 0)) ∧ v' = .slice (some ⟨g, 0, none⟩) (n + m) cap ∧ n + m ≤ cap ∧ w' = w.setRow g cur' ∧ cur'.size = cap * i.size ∧ cur'.toList.take ((n + m) * i.size) = olds ++ news)
      ∨ (∃ cap' cur', v' = .slice (some ⟨w.heap.size, 0, none⟩) (n + m) cap' ∧ w' = w.drew.alloc (.cells cur' e) ∧ n + m ≤ cap' ∧ cur'.size = cap' * i.size ∧ cur'.toList.take ((n + m) * i.size) = olds ++ news)) := by
  have hbytes : (n + m) * i.bytes ≤ 140737488355328 := Nat.le_trans (Nat.mul_le_mul hnm hby) (by decide)
  rcases hs with ⟨rfl, rfl, rfl⟩ | ⟨a, c, rfl, hl, hnews, h1⟩
  · rcases hb with ⟨rfl, rfl, rfl⟩ | ⟨g, tg, cur, rfl, hg, hnc, hcs, htake⟩
    · refine ⟨.slice none 0 0, w, ?_, .inl ⟨rfl, rfl, rfl, rfl, rfl, rfl⟩⟩
      simp [Builtin.append_, run_underlying ht, sizeOf, typeInfo, hi, Builtin.lenOf, Builtin.firstCells]
    · refine ⟨.slice (some ⟨g, 0, none⟩) n cap, w, ?_, .inr (.inl ⟨g, tg, cur, cur, rfl, hg, rfl, by simpa using hnc, (setRow_self w g cur tg (0, 0) hg).symm, hcs, by simpa using htake⟩)⟩
      simp [Builtin.append_, run_underlying ht, sizeOf, typeInfo, hi, Builtin.lenOf, Builtin.firstCells, hnc, storeCells]
  · have grown : ∀ (old : Nat) (os : List Value), os.length = n * i.size → ∃ cap' cur', (Value.slice (some ⟨w.heap.size, 0, none⟩) (n + m) (grownCap w (n + m) old e)) = .slice (some ⟨w.heap.size, 0, none⟩) (n + m) cap' ∧
        (w.drew.alloc (.cells (os.toArray ++ news.toArray ++ Builtin.zeroCells z.cells (grownCap w (n + m) old e - (n + m))) e)) = w.drew.alloc (.cells cur' e) ∧ n + m ≤ cap' ∧ cur'.size = cap' * i.size ∧ cur'.toList.take ((n + m) * i.size) = os ++ news := by
      intro old os ho
      have hge := grownCap_ge w (n + m) old e
      have hlen : (os ++ news).length = (n + m) * i.size := by rw [List.length_append, ho, hl, Nat.add_mul]
      refine ⟨_, _, rfl, rfl, hge, ?_, ?_⟩
      · simp only [Array.size_append, List.size_toArray, size_zeroCells, hzs, ho, hl, ← Nat.add_mul]
        exact congrArg (· * i.size) (Nat.add_sub_of_le hge)
      · simp only [Array.toList_append, List.append_assoc]
        rw [← List.append_assoc, ← hlen]
        exact List.take_left
    rcases hb with ⟨rfl, rfl, rfl⟩ | ⟨g, tg, cur, rfl, hg, hnc, hcs, htake⟩
    · by_cases hm : m = 0
      · subst hm
        have hn : news = [] := List.eq_nil_of_length_eq_zero (by simpa using hl)
        subst hn
        refine ⟨.slice none 0 0, w, ?_, .inl ⟨rfl, rfl, rfl, rfl, rfl, rfl⟩⟩
        simp [Builtin.append_, run_underlying ht, sizeOf, typeInfo, hi, Builtin.lenOf, Builtin.firstCells, loadCells, loadCellsFrom]
      · have hr := run_append_nil (P := P) w t ty' e i z ht hi hz a m c news hl hnews (by omega) (by omega) (by have hb := hbytes; simp only [Nat.zero_add] at hb; omega)
        have hgr := grown 0 [] (by simp)
        simp only [Nat.zero_add, List.nil_append, Array.empty_append] at hgr ⊢
        exact ⟨_, _, hr, .inr (.inr hgr)⟩
    · have hol : olds.length = n * i.size := by rw [← htake, List.length_take, Array.length_toList, hcs]; exact Nat.min_eq_left (Nat.mul_le_mul_right _ hnc)
      by_cases hroom : n + m ≤ cap
      · have hfit : n * i.size + news.length ≤ cur.size := by rw [hl, hcs, ← Nat.add_mul]; exact Nat.mul_le_mul_right _ hroom
        have hf := run_firstCells_some (P := P) w i.size m a m c news hl hnews
        have hst := run_storeCells_at P g (n * i.size) tg news 0 cur w hg (by simpa using hfit) h1
        simp only [Nat.add_zero] at hst
        refine ⟨.slice (some ⟨g, 0, none⟩) (n + m) cap, w.setRow g (cur.toList.take (n * i.size) ++ news ++ cur.toList.drop (n * i.size + news.length)).toArray, ?_, .inr (.inl ⟨g, tg, cur, _, rfl, hg, rfl, hroom, rfl, ?_, ?_⟩)⟩
        · simp [Builtin.append_, run_underlying ht, sizeOf, typeInfo, hi, Builtin.lenOf, hroom, hf, Addr.add_lit, hst]
        · simp only [List.size_toArray, List.length_append, List.length_take, List.length_drop, Array.length_toList]
          omega
        · have hlen : (olds ++ news).length = (n + m) * i.size := by rw [List.length_append, hol, hl, Nat.add_mul]
          rw [htake, ← hlen]
          exact List.take_left
      · have holds : ∀ j x, olds[j]? = some x → w.cell? ((⟨g, 0, none⟩ : Addr).add j) = some x := fun j x hx => by
          rw [← htake] at hx
          have hj : j < n * i.size := by
            have := (List.getElem?_eq_some_iff.1 hx).1
            rw [htake, hol] at this; exact this
          rw [List.getElem?_take_of_lt hj] at hx
          rw [add_some, cell_block hg]
          simpa using hx
        have hr := run_append_grow (P := P) w t ty' e i z ht hi hz ⟨g, 0, none⟩ n cap olds hol holds a m c news hl hnews (by omega) (by omega) (growslice_fits (by omega) hbytes)
        exact ⟨_, _, hr, .inr (.inr (grown cap olds hol))⟩
inductive Fz (α : Type) where
  | no
  | ok (c : α) (st : Nat → Option B)
  | cond (φ : Prop) (c : α) (st : Nat → Option B)
def frzC (c : C) (st : Nat → Option B) : Fz C :=
  match c with
  | .osl nm len => match st nm with
    | some (.ar _ k xs) => .cond (len = xs.length) (.is k xs) (del st nm)
    | some (.bl _ xs) => .cond (len = xs.length) (.ibs xs) (del st nm)
    | some (.ss _ k xss) => .cond (len = xss.length) (.iss k xss) (del st nm)
    | some (.rs _ (sz + 1) r) => .cond (len = r.length) (.irs (sz + 1) r) (del st nm)
    | _ => .no
  | .sl nm off len cap => match st nm with
    | some (.ar _ k xs) => .cond (off + len ≤ xs.length ∧ len ≤ cap) (.is k ((xs.drop off).take len)) (del st nm)
    | _ => .no
  | .p .. => .no
  | .kv x => match x.oneCell' with
    | true => .ok (.kv x) st
    | false => .no
  | .any => .no
  | c => .ok c st
def frzL : List C → (Nat → Option B) → Fz (List C)
  | [], st => .ok [] st
  | c :: r, st => match frzC c st with
    | .no => .no
    | .ok c' st1 => match frzL r st1 with
      | .no => .no
      | .ok cs st2 => .ok (c' :: cs) st2
      | .cond ψ cs st2 => .cond ψ (c' :: cs) st2
    | .cond φ c' st1 => match frzL r st1 with
      | .no => .no
      | .ok cs st2 => .cond φ (c' :: cs) st2
      | .cond ψ cs st2 => .cond (φ ∧ ψ) (c' :: cs) st2
def Fz.sat {α : Type} (f : Fz α) (Q : α → (Nat → Option B) → Prop) : Prop :=
  match f with
  | .no => True
  | .ok c st => Q c st
  | .cond φ c st => φ → Q c st
structure Frz (H : Hp) (st' : Nat → Option B) (nx : Nat) (X X' : Ctx) : Prop where
  w : X'.w = X.w
  ν : X'.ν = X.ν
  hs : Hs H st' nx X'
  step : Step nx X X'
theorem Frz.refl {H : Hp} {st : Nat → Option B} {nx : Nat} {X : Ctx} (h : Hs H st nx X) : Frz H st nx X X := ⟨rfl, rfl, h, .refl _ _⟩
theorem Frz.den {H : Hp} {st' : Nat → Option B} {nx : Nat} {X X' : Ctx} (h : Frz H st' nx X X') {c : C} {u : Value} (hd : Den X c u) : Den X' c u :=
  hd.mono X' (fun nm _ => by rw [h.ν]) h.step.I h.step.cell
theorem frzC_ok {H : Hp} {st : Nat → Option B} {nx : Nat} {X : Ctx} {c : C} {u : Value} (hs : Hs H st nx X) (hd : Den X c u) :
    (frzC c st).sat fun c' st' => (∃ X', Frz H st' nx X X' ∧ Den X' c' u) ∧ (∀ nm, ¬ c'.Has nm) ∧ c'.one = true := by
  have blk : ∀ {nm : Nat} {b : B} {bl cp : Nat}, st nm = some b → X.ν nm = some (bl, cp) → Frz H (del st nm) nx X (X.keep bl) ∧
      (∀ j, j < b.size → ∃ v, X.w.cell? ⟨bl, j, none⟩ = some v ∧ BCell (X.keep bl) b j v) := fun {nm b bl cp} h1 h2 => by
    obtain ⟨g1, g2⟩ := hs.keep h1 h2
    refine ⟨⟨rfl, rfl, g1, g2⟩, fun j hj => ?_⟩
    have hb := hs.blk nm b h1
    simp only [BDen, h2] at hb
    obtain ⟨cur, tb, hh, hc⟩ := hb
    obtain ⟨v, hv1, hv2⟩ := hc.cell j hj
    exact ⟨v, by rw [cell_block hh]; exact hv1, hv2.mono _ (fun _ _ => rfl) g2.I g2.cell⟩
  have nil : ∀ {nm : Nat} {b : B}, st nm = some b → X.ν nm = none → b.size = 0 ∧ Frz H (del st nm) nx X X := fun {nm b} h1 h2 => by
    have hb := hs.blk nm b h1
    simp only [BDen, h2] at hb
    exact ⟨hb, rfl, rfl, hs.drop nm, .refl _ _⟩
  unfold frzC
  split
  · rename_i nm len
    split
    · rename_i o k xs hst
      intro he
      cases hd with
      | @osl _ _ bl cp hν hl =>
        subst he
        obtain ⟨h1, h2⟩ := blk hst hν
        refine ⟨⟨_, h1, .is (.inr rfl) hl fun j n hj => ?_⟩, fun _ h => h.elim, rfl⟩
        obtain ⟨v, hv, hb⟩ := h2 j (List.getElem?_eq_some_iff.1 hj).1
        cases hb with | ar hn => rw [hn] at hj; cases hj; simpa [Ctx.keep] using hv
      | osl0 hν =>
        replace he := he.symm
        obtain ⟨h1, h2⟩ := nil hst hν
        have : xs = [] := List.eq_nil_of_length_eq_zero h1
        subst this
        exact ⟨⟨_, h2, .is0⟩, fun _ h => h.elim, rfl⟩
    · rename_i o xs hst
      intro he
      cases hd with
      | @osl _ _ bl cp hν hl =>
        subst he
        obtain ⟨h1, h2⟩ := blk hst hν
        refine ⟨⟨_, h1, .ibs (.inr rfl) hl fun j n hj => ?_⟩, fun _ h => h.elim, rfl⟩
        obtain ⟨v, hv, hb⟩ := h2 j (List.getElem?_eq_some_iff.1 hj).1
        cases hb with | bl hn => rw [hn] at hj; cases hj; simpa [Ctx.keep] using hv
      | osl0 hν =>
        replace he := he.symm
        obtain ⟨h1, h2⟩ := nil hst hν
        have : xs = [] := List.eq_nil_of_length_eq_zero h1
        subst this
        exact ⟨⟨_, h2, .ibs0⟩, fun _ h => h.elim, rfl⟩
    · rename_i o k xss hst
      intro he
      cases hd with
      | @osl _ _ bl cp hν hl =>
        subst he
        obtain ⟨h1, h2⟩ := blk hst hν
        have h3 : ∀ j : Nat, ∃ v, ∀ xs, xss[j]? = some xs → X.w.cell? ⟨bl, j, none⟩ = some v ∧ Den (X.keep bl) (.is k xs) v := fun j => by
          by_cases hj : j < xss.length
          · obtain ⟨v, hv, hb⟩ := h2 j hj
            refine ⟨v, fun xs hxs => ⟨hv, ?_⟩⟩
            cases hb with | ss hn hd => rw [hn] at hxs; cases hxs; exact hd
          · exact ⟨undef, fun xs hxs => (hj (List.getElem?_eq_some_iff.1 hxs).1).elim⟩
        obtain ⟨f, hf⟩ := Classical.axiomOfChoice h3
        exact ⟨⟨_, h1, .iss f (.inr rfl) hl (fun j xs hj => by simpa [Ctx.keep] using (hf j xs hj).1) fun j xs hj => (hf j xs hj).2⟩, fun _ h => h.elim, rfl⟩
      | osl0 hν =>
        replace he := he.symm
        obtain ⟨h1, h2⟩ := nil hst hν
        have : xss = [] := List.eq_nil_of_length_eq_zero h1
        subst this
        exact ⟨⟨_, h2, .iss0⟩, fun _ h => h.elim, rfl⟩
    · rename_i o sz' r hst
      intro he
      obtain ⟨sz, hsz⟩ : ∃ sz, sz = sz'.succ := ⟨_, rfl⟩
      change st nm = some (B.rs o sz'.succ r) at hst
      show (∃ X', Frz H (del st nm) nx X X' ∧ Den X' (.irs sz'.succ r) u) ∧ _
      rw [← hsz] at hst ⊢
      have h0 : 0 < sz := by omega
      cases hd with
      | @osl _ _ bl cp hν hl =>
        subst he
        obtain ⟨h1, h2⟩ := blk hst hν
        have hb0 := hs.blk nm _ hst
        simp only [BDen, hν] at hb0
        obtain ⟨cur, tb, hh, hc⟩ := hb0
        have hpos : ∀ (j : Nat) (cs : List C), r[j]? = some cs → cs.length = sz := fun j cs hj => by
          have hlt : j < r.length := (List.getElem?_eq_some_iff.1 hj).1
          obtain ⟨v, _, hv⟩ := h2 (j * sz) (Nat.mul_lt_mul_of_pos_right hlt h0)
          generalize hq : j * sz = q at hv
          cases hv with
          | @rs _ _ _ j' i' cs' _ _ hj' hs' hi' hn' h' =>
            have hi : i' < sz := by rw [← hs']; exact (List.getElem?_eq_some_iff.1 hi').1
            have : j' = j := by
              have h1 : (j' * sz + i') / sz = j' := by rw [Nat.mul_comm, Nat.mul_add_div h0, Nat.div_eq_of_lt hi, Nat.add_zero]
              have h2 : (j * sz) / sz = j := Nat.mul_div_cancel _ h0
              rw [← h1, ← h2, hq]
            subst this
            rw [hj'] at hj; cases hj; exact hs'
        have h3 : ∀ q : Nat × Nat, ∃ v, ∀ cs c, r[q.1]? = some cs → cs[q.2]? = some c → X.w.cell? ⟨bl, q.1 * sz + q.2, none⟩ = some v ∧ (∀ nm, ¬ c.Has nm) ∧ Den (X.keep bl) c v := fun ⟨j, i⟩ => by
          by_cases hx : ∃ cs c, r[j]? = some cs ∧ cs[i]? = some c
          · obtain ⟨cs, c, hj, hi⟩ := hx
            have hlt : j < r.length := (List.getElem?_eq_some_iff.1 hj).1
            have hilt : i < sz := by rw [← hpos j cs hj]; exact (List.getElem?_eq_some_iff.1 hi).1
            have hb : j * sz + i < r.length * sz := calc
              j * sz + i < j * sz + sz := by omega
              _ = (j + 1) * sz := (Nat.succ_mul j sz).symm
              _ ≤ r.length * sz := Nat.mul_le_mul_right _ hlt
            obtain ⟨v, hv, hb⟩ := h2 (j * sz + i) hb
            refine ⟨v, fun cs' c' hj' hi' => ⟨hv, ?_⟩⟩
            generalize hq : j * sz + i = q at hb
            cases hb with
            | @rs _ _ _ j2 i2 cs2 c2 _ hj2 hs2 hi2 hn2 hd2 =>
              have hi2lt : i2 < sz := by rw [← hs2]; exact (List.getElem?_eq_some_iff.1 hi2).1
              have e1 : j2 = j := by
                have h1 : (j2 * sz + i2) / sz = j2 := by rw [Nat.mul_comm, Nat.mul_add_div h0, Nat.div_eq_of_lt hi2lt, Nat.add_zero]
                have h2 : (j * sz + i) / sz = j := by rw [Nat.mul_comm, Nat.mul_add_div h0, Nat.div_eq_of_lt hilt, Nat.add_zero]
                rw [← h1, ← h2, hq]
              subst e1
              have e2 : i2 = i := by omega
              subst e2
              rw [hj2] at hj'; cases hj'; rw [hi2] at hi'; cases hi'
              exact ⟨hn2, hd2⟩
          · exact ⟨undef, fun cs c hj hi => (hx ⟨cs, c, hj, hi⟩).elim⟩
        obtain ⟨f, hf⟩ := Classical.axiomOfChoice h3
        exact ⟨⟨_, h1, .irs (fun j i => f (j, i)) (.inr rfl) hl (fun j cs hj => hpos j cs hj) (fun j cs i c hj hi => by simpa [Ctx.keep] using (hf (j, i) cs c hj hi).1) (fun j cs i c hj hi => (hf (j, i) cs c hj hi).2.1) fun j cs i c hj hi => (hf (j, i) cs c hj hi).2.2⟩, fun _ h => h.elim, rfl⟩
      | osl0 hν =>
        replace he := he.symm
        obtain ⟨h1, h2⟩ := nil hst hν
        have : r = [] := List.eq_nil_of_length_eq_zero he
        subst this
        exact ⟨⟨_, h2, .irs0⟩, fun _ h => h.elim, rfl⟩
    · trivial
  · rename_i nm off len cap
    split
    · rename_i o k xs hst
      rintro ⟨hle, hcap⟩
      have hlen : ((xs.drop off).take len).length = len := by rw [List.length_take, List.length_drop]; omega
      cases hd with
      | @sl _ _ _ _ bl cp hν =>
        obtain ⟨h1, h2⟩ := blk hst hν
        refine ⟨⟨_, h1, ?_⟩, fun _ h => h.elim, rfl⟩
        have := @Den.is (X.keep bl) k ((xs.drop off).take len) bl off cap (.inr rfl) (by rw [hlen]; exact hcap) (fun j n hj => ?_)
        · rwa [hlen] at this
        · have hjl : j < len := by rw [← hlen]; exact (List.getElem?_eq_some_iff.1 hj).1
          rw [List.getElem?_take_of_lt hjl, List.getElem?_drop] at hj
          obtain ⟨v, hv, hb⟩ := h2 (off + j) (List.getElem?_eq_some_iff.1 hj).1
          generalize hq : off + j = q at hb hv hj
          cases hb with | ar hn => rw [hn] at hj; cases hj; simpa [Ctx.keep, hq] using hv
      | sl0 hν =>
        obtain ⟨h1, h2⟩ := nil hst hν
        simp only [List.take_zero]
        exact ⟨⟨_, h2, .is0⟩, fun _ h => h.elim, rfl⟩
    · trivial
  · trivial
  · rename_i x
    split
    · rename_i h; exact ⟨⟨X, .refl hs, hd⟩, fun _ h => h.elim, h⟩
    · trivial
  · trivial
  · rename_i h1 h2 h3 h4 h5
    refine ⟨⟨X, .refl hs, hd⟩, fun nm h => ?_, ?_⟩
    · cases c <;> first | exact (h1 _ _ rfl).elim | exact (h2 _ _ _ _ rfl).elim | exact (h3 _ _ rfl).elim | exact h.elim
    · cases c <;> first | exact (h4 _ rfl).elim | exact (h5 rfl).elim | rfl
theorem frzL_ok {H : Hp} {nx : Nat} : ∀ {cs : List C} {us : List Value} {st : Nat → Option B} {X : Ctx}, Hs H st nx X → us.length = cs.length → (∀ (i : Nat) c u, cs[i]? = some c → us[i]? = some u → Den X c u) →
    (frzL cs st).sat fun cs' st' => (∃ X', Frz H st' nx X X' ∧ ∀ (i : Nat) c u, cs'[i]? = some c → us[i]? = some u → Den X' c u) ∧ cs'.length = cs.length ∧ ∀ c ∈ cs', (∀ nm, ¬ c.Has nm) ∧ c.one = true
  | [], us, st, X, hs, hl, hd => ⟨⟨X, .refl hs, fun i c u h => by simp at h⟩, rfl, fun c h => by simp at h⟩
  | c :: r, [], st, X, hs, hl, hd => by simp at hl
  | c :: r, u :: us, st, X, hs, hl, hd => by
    have h0 := frzC_ok hs (hd 0 c u rfl rfl)
    have fin : ∀ {c' : C} {st1 : Nat → Option B}, ((∃ X', Frz H st1 nx X X' ∧ Den X' c' u) ∧ (∀ nm, ¬ c'.Has nm) ∧ c'.one = true) →
        (frzL r st1).sat fun cs st2 => (∃ X', Frz H st2 nx X X' ∧ ∀ (i : Nat) c w, (c' :: cs)[i]? = some c → (u :: us)[i]? = some w → Den X' c w) ∧ (c' :: cs).length = (c :: r).length ∧ ∀ c ∈ c' :: cs, (∀ nm, ¬ c.Has nm) ∧ c.one = true := by
      rintro c' st1 ⟨⟨X1, g1, g2⟩, g3, g4⟩
      have ih := frzL_ok (cs := r) (us := us) g1.hs (by simpa using hl) (fun i c w hc hw => g1.den (hd (i + 1) c w hc hw))
      have conv : ∀ {cs : List C} {st2 : Nat → Option B}, ((∃ X', Frz H st2 nx X1 X' ∧ ∀ (i : Nat) c u, cs[i]? = some c → us[i]? = some u → Den X' c u) ∧ cs.length = r.length ∧ ∀ c ∈ cs, (∀ nm, ¬ c.Has nm) ∧ c.one = true) →
          ((∃ X', Frz H st2 nx X X' ∧ ∀ (i : Nat) c w, (c' :: cs)[i]? = some c → (u :: us)[i]? = some w → Den X' c w) ∧ (c' :: cs).length = (c :: r).length ∧ ∀ c ∈ c' :: cs, (∀ nm, ¬ c.Has nm) ∧ c.one = true) := by
        rintro cs st2 ⟨⟨X2, k1, k2⟩, k3, k4⟩
        refine ⟨⟨X2, ⟨k1.w.trans g1.w, k1.ν.trans g1.ν, k1.hs, g1.step.trans k1.step (Nat.le_refl _)⟩, fun i c w hc hw => ?_⟩, by simp [k3], fun c hc => ?_⟩
        · cases i with
          | zero => simp at hc hw; subst hc; subst hw; exact k1.den g2
          | succ i => exact k2 i c w (by simpa using hc) (by simpa using hw)
        · rcases List.mem_cons.1 hc with rfl | hc
          · exact ⟨g3, g4⟩
          · exact k4 c hc
      revert ih
      cases frzL r st1 with
      | no => exact fun _=>trivial
      | ok cs st2 => exact fun ih => conv ih
      | cond ψ cs st2 => exact fun ih h => conv (ih h)
    simp only [frzL]
    revert h0
    cases frzC c st with
    | no => exact fun _=>trivial
    | ok c' st1 =>
      intro h0
      have := fin h0
      revert this
      dsimp only
      cases frzL r st1 with
      | no => exact fun _=>trivial
      | ok cs st2 => exact id
      | cond ψ cs st2 => exact id
    | cond φ c' st1 =>
      intro h0
      dsimp only
      cases hq : frzL r st1 with
      | no => trivial
      | ok cs st2 => intro hφ; have := fin (h0 hφ); rw [hq] at this; exact this
      | cond ψ cs st2 => rintro ⟨hφ, hψ⟩; have := fin (h0 hφ); rw [hq] at this; exact this hψ
end Go.SX
