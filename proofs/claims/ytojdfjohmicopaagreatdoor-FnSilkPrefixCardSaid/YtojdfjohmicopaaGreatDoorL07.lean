/- A part of the proof: the SILK decoder of the given program, walked by an executor that is proved sound. No statement of the program is proved in this text. -/
import Derived.Orders
import Derived.Test.YtojdfjohmicopaaGreatDoorL06
set_option linter.all false
set_option maxRecDepth 100000
namespace Go.SX
open Go
def clearM (t : Nat) (c : C) (st : Nat → Option B) (nx : Nat) : M :=
  match (ty t).d, c with
  | .slice _, .nsl => .ok (.tu []) st nx
  | .slice e, .sl nm off len _ => match st nm with
    | some (.ar o k xs) => match (ty e).z with
      | [.i k' (.ofNat 0)] => match kEq k k' with
        | true => .cond (off + len ≤ xs.length) (.tu []) (upd st nm (.ar o k (xs.take off ++ List.replicate len 0 ++ xs.drop (off + len)))) nx
        | false => .no
      | _ => .no
    | some (.bl o xs) => match (ty e).z with
      | [.b false] => .cond (off + len ≤ xs.length) (.tu []) (upd st nm (.bl o (xs.take off ++ List.replicate len false ++ xs.drop (off + len)))) nx
      | _ => .no
    | _ => .no
  | _, _ => .no
theorem run_clear_row {w : World} {t e ty' : TypeId} {z : Value} (ht : P.underlying t = some (.slice e)) (hv : ∀ w, (zeroValue e).run P w = .ok z w) {y : Value} (hz : z.cells = #[y]) (h1 : y.oneCell' = true) {b o n c : Nat} {cur : Array Value} {tb : TypeId}
    (hh : w.heap[b]? = some (.cells cur tb (0, 0))) (hle : o + n ≤ cur.size) :
    (Builtin.clear_ #[t] ty' #[.slice (some ⟨b, o, none⟩) n c]).run P w = .ok (.tuple #[]) (w.setRow b (cur.toList.take o ++ List.replicate n y ++ cur.toList.drop (o + n)).toArray) := by
  have hzc : (Builtin.zeroCells z.cells n).toList = List.replicate n y := by
    rw [hz]
    simp [Builtin.zeroCells]
    apply List.ext_getElem
    · simp
    · intro i h1 h2
      simp [Nat.mod_one]
  cases n with
  | zero =>
    have : (cur.toList.take o ++ List.replicate 0 y ++ cur.toList.drop (o + 0)).toArray = cur := by simp
    rw [this, setRow_self w b cur tb (0, 0) hh]
    simp [Builtin.clear_, run_underlying ht]
  | succ m =>
    have hst := run_storeCells_at P b o tb (List.replicate (m + 1) y) 0 cur w hh (by simpa using hle) (by intro v hv'; rw [List.eq_of_mem_replicate hv']; exact h1)
    simp only [Nat.add_zero, List.length_replicate] at hst
    simp [Builtin.clear_, run_underlying ht, hv, hzc, hst]
theorem clear_get {α : Type} {xs : List α} {off len j : Nat} {z : α} (hle : off + len ≤ xs.length) : (xs.take off ++ List.replicate len z ++ xs.drop (off + len))[j]? = if off ≤ j ∧ j < off + len then some z else xs[j]? := by
  by_cases h1 : j < off
  · rw [List.append_assoc, List.getElem?_append_left (by simp; omega), List.getElem?_take_of_lt h1, if_neg (by omega)]
  · by_cases h2 : j < off + len
    · rw [List.append_assoc, List.getElem?_append_right (by simp; omega), List.getElem?_append_left (by simp; omega), if_pos ⟨by omega, h2⟩, List.getElem?_replicate, if_pos (by simp; omega)]
    · rw [List.getElem?_append_right (by simp; omega), if_neg (by omega), List.getElem?_drop]
      congr 1
      simp
      omega
theorem clearM_ok {H : Hp} {st : Nat → Option B} {nx t : Nat} {X : Ctx} {x : C} {u : Value} (ty' : TypeId) (hs : Hs H st nx X) (hx : Den X x u) :
    (clearM t x st nx).sat fun c st' nx' => ∃ r X', (Builtin.clear_ #[t] ty' #[u]).run P X.w = .ok r X'.w ∧ Hs H st' nx' X' ∧ Step nx X X' ∧ nx ≤ nx' ∧ VDen X' c r ∧ ∀ nm, c.Has nm → nm < nx' := by
  unfold clearM
  split
  · rename_i e ht
    cases hx
    refine ⟨.tuple #[], X, ?_, hs, .refl _ _, Nat.le_refl _, .tu rfl (fun i v u h => by simp at h), fun nm h => by cases h with | tu h => cases h⟩
    simp [Builtin.clear_, run_underlying (ty_slice ht)]
  · rename_i e nm off len cap ht
    have hun := ty_slice ht
    have tail : VDen X (.tu []) (.tuple #[]) := .tu rfl fun i v u h => by simp at h
    have zero : ∀ {c0 : C}, (ty e).z = [c0] → ∃ z y, (∀ w, (zeroValue e).run P w = .ok z w) ∧ z.cells = #[y] ∧ cIs c0 y = true := by
      intro c0 hz
      obtain ⟨z, h1, h2, h3⟩ := run_zeroValue hz
      have hsz : z.cells.size = 1 := h2
      refine ⟨z, z.cells[0], h1, ?_, h3 0 _ _ rfl (by simp [hsz])⟩
      apply Array.ext
      · simpa using hsz
      · intro j h4 h5
        have : j = 0 := by simp at h5; exact h5
        subst this; rfl
    have fin : ∀ {b b' : B} {c0 : C}, st nm = some b → b'.size = b.size → b'.own = b.own → (∀ m, ¬ b'.Has m) → (ty e).z = [c0] → off + len ≤ b.size → (len = 0 → b' = b) →
        (∀ (X : Ctx) y j, cIs c0 y = true → j < b.size → off ≤ j ∧ j < off + len → BCell X b' j y) → (∀ (X : Ctx) y j, ¬ (off ≤ j ∧ j < off + len) → BCell X b j y → BCell X b' j y) → (∀ y, cIs c0 y = true → y.oneCell' = true) →
        ∃ r X', (Builtin.clear_ #[t] ty' #[u]).run P X.w = .ok r X'.w ∧ Hs H (upd st nm b') nx X' ∧ Step nx X X' ∧ nx ≤ nx ∧ VDen X' (.tu []) r ∧ ∀ m, (V.tu []).Has m → m < nx := by
      intro b b' c0 hb hsz hown hno hz hle h0 hin hout hone
      cases hx with
      | @sl _ _ _ _ bl cp hν =>
        have hbd := hs.blk nm b hb
        simp only [BDen, hν] at hbd
        obtain ⟨cur, tb, hh, hc⟩ := hbd
        obtain ⟨z, y, z1, z2, z3⟩ := zero hz
        have hcur : off + len ≤ cur.size := Nat.le_trans hle hc.le
        have hrun := run_clear_row (ty' := ty') (c := cap) hun z1 z2 (hone y z3) hh hcur
        have hlen : (cur.toList.take off ++ List.replicate len y ++ cur.toList.drop (off + len)).toArray.size = cur.size := by simp; omega
        have hcells : Cells X b' (cur.toList.take off ++ List.replicate len y ++ cur.toList.drop (off + len)).toArray cp := by
          refine ⟨by rw [hlen, hsz]; exact hc.le, fun j hj => ?_, fun sz hsz' => by rw [hlen]; exact hc.own sz (by rw [← hown]; exact hsz')⟩
          rw [hsz] at hj
          obtain ⟨v, hv1, hv2⟩ := hc.cell j hj
          by_cases hj2 : off ≤ j ∧ j < off + len
          · refine ⟨y, ?_, hin X y j z3 hj hj2⟩
            rw [List.getElem?_toArray, clear_get (by simpa using hcur), if_pos hj2]
          · refine ⟨v, ?_, hout X v j hj2 hv2⟩
            rw [List.getElem?_toArray, clear_get (by simpa using hcur), if_neg hj2]
            simpa using hv1
        obtain ⟨g1, g2⟩ := hs.setB hb hν hh hcells (fun m hm => (hno m hm).elim)
        exact ⟨_, _, hrun, g1, g2, Nat.le_refl _, .tu rfl (fun i v u h => by simp at h), fun nm h => by cases h with | tu h => cases h⟩
      | sl0 hν =>
        have hself : upd st nm b' = st := by
          rw [h0 rfl]
          funext y; by_cases hy : y = nm
          · subst hy; rw [upd_same, hb]
          · rw [upd_other _ _ hy]
        rw [hself]
        refine ⟨.tuple #[], X, ?_, hs, .refl _ _, Nat.le_refl _, tail, fun nm h => by cases h with | tu h => cases h⟩
        simp [Builtin.clear_, run_underlying hun]
    split
    · rename_i o k xs hb
      split
      · rename_i k' hz
        split
        · rename_i hk
          obtain rfl := kEq_eq hk
          intro hle
          refine fin hb (by simp [B.size]; omega) (by cases o <;> rfl) (fun m h => by cases h) hz (by simpa [B.size] using hle) (fun h0 => by subst h0; simp) (fun X y j hy hj hj2 => ?_) (fun X y j hj2 h => ?_) (fun y hy => (cIs_den (X := X) hy).one rfl)
          · have := cIs_den (X := X) hy
            cases this
            exact .ar (by rw [clear_get hle, if_pos hj2]; rfl)
          · cases h with | ar hj => exact .ar (by rw [clear_get hle, if_neg hj2]; exact hj)
        · trivial
      · trivial
    · rename_i o xs hb
      split
      · rename_i hz
        intro hle
        refine fin hb (by simp [B.size]; omega) (by cases o <;> rfl) (fun m h => by cases h) hz (by simpa [B.size] using hle) (fun h0 => by subst h0; simp) (fun X y j hy hj hj2 => ?_) (fun X y j hj2 h => ?_) (fun y hy => (cIs_den (X := X) hy).one rfl)
        · have := cIs_den (X := X) hy
          cases this
          exact .bl (by rw [clear_get hle, if_pos hj2])
        · cases h with | bl hj => exact .bl (by rw [clear_get hle, if_neg hj2]; exact hj)
      · trivial
    · trivial
  · trivial
def srcI (c : C) (st : Nat → Option B) : Option (IntKind × List Int × Prop) :=
  match c with
  | .is k ys => some (k, ys, True)
  | .sl nm off len _ => match st nm with
    | some (.ar _ k ys) => some (k, (ys.drop off).take len, off + len ≤ ys.length)
    | _ => none
  | _ => none
def copyM (t : Nat) (d s : C) (st : Nat → Option B) (nx : Nat) : M :=
  match (ty t).d, d with
  | .slice e, .sl nm off len _ => match (ty e).sz, st nm, srcI s st with
    | 1, some (.ar o k xs), some (k', ys, φ) => match kEq k k' with
      | true => .cond (φ ∧ off + min ys.length len ≤ xs.length) (.c (.i .i64 (min ys.length len : Nat))) (upd st nm (.ar o k (xs.take off ++ ys.take len ++ xs.drop (off + min ys.length len)))) nx
      | false => .no
    | _, _, _ => .no
  | _, _ => .no
theorem srcI_ok {H : Hp} {st : Nat → Option B} {nx : Nat} {X : Ctx} {c : C} {u : Value} (hs : Hs H st nx X) (hd : Den X c u) {k : IntKind} {ys : List Int} {φ : Prop} (h : srcI c st = some (k, ys, φ)) (hφ : φ) :
    (u = .slice none 0 0 ∧ ys = []) ∨ ∃ a c, u = .slice (some a) ys.length c ∧ ∀ j x, (ys.map (Value.int k))[j]? = some x → X.w.cell? (a.add j) = some x := by
  unfold srcI at h
  split at h
  · cases h
    have := srcIs_is hd
    rcases this.at_ with ⟨h1, h2⟩ | ⟨a, c, h1, h2⟩
    · exact .inl ⟨h1, List.eq_nil_of_length_eq_zero h2⟩
    · exact .inr ⟨a, c, h1, h2⟩
  · rename_i nm off len cap
    split at h
    · rename_i o k' xs hb
      cases h
      cases hd with
      | @sl _ _ _ _ bl cp hν =>
        have hbd := hs.blk nm _ hb
        simp only [BDen, hν] at hbd
        obtain ⟨cur, tb, hh, hc⟩ := hbd
        have hl : ((xs.drop off).take len).length = len := by simp; omega
        refine .inr ⟨⟨bl, off, none⟩, cap, by rw [hl], fun j x hj => ?_⟩
        rw [List.getElem?_map, Option.map_eq_some_iff] at hj
        obtain ⟨n, hn, rfl⟩ := hj
        have hjl : j < len := by have := (List.getElem?_eq_some_iff.1 hn).1; omega
        rw [List.getElem?_take_of_lt hjl, List.getElem?_drop] at hn
        have hjx : off + j < xs.length := (List.getElem?_eq_some_iff.1 hn).1
        obtain ⟨v, hv, hv2⟩ := hc.cell (off + j) hjx
        rw [add_some, cell_block hh, hv]
        cases hv2 with | ar hx => rw [hn] at hx; cases hx; rfl
      | sl0 hν => exact .inl ⟨rfl, by simp⟩
    · cases h
  · cases h
theorem copyM_ok {H : Hp} {st : Nat → Option B} {nx t : Nat} {X : Ctx} {d s : C} {ud us : Value} (ty' : TypeId) (hs : Hs H st nx X) (hd : Den X d ud) (hsr : Den X s us) :
    (copyM t d s st nx).sat fun c st' nx' => ∃ r X', (Builtin.copy_ #[t, t] ty' #[ud, us]).run P X.w = .ok r X'.w ∧ Hs H st' nx' X' ∧ Step nx X X' ∧ nx ≤ nx' ∧ VDen X' c r ∧ ∀ nm, c.Has nm → nm < nx' := by
  unfold copyM
  split
  · rename_i e nm off len cap ht
    split
    · rename_i o k xs k' ys φ he hb hsrc
      split
      · rename_i hk
        obtain rfl := kEq_eq hk
        rintro ⟨hφ, hle⟩
        have hun := ty_slice ht
        have hsz : (sizeOf e).run P X.w = .ok 1 X.w := by rw [← he]; exact ty_sz (ty_pos (by rw [he]; decide)) X.w
        have hsrc' := srcI_ok hs hsr hsrc hφ
        have hnl : ((ys.map (Value.int k)).take len).length = min ys.length len := by simp [Nat.min_comm]
        have hlen : (Builtin.lenOf us).run P X.w = .ok ys.length X.w ∧ (Builtin.firstCells 1 (ys.length.min len) us).run P X.w = .ok ((ys.map (Value.int k)).take len).toArray X.w := by
          rcases hsrc' with ⟨rfl, rfl⟩ | ⟨a, c, rfl, hcl⟩
          · exact ⟨rfl, by simp [Builtin.firstCells]⟩
          · refine ⟨rfl, run_firstCells_some (P := P) X.w 1 (min ys.length len) a ys.length c ((ys.map (Value.int k)).take len) (by rw [hnl]; simp) fun j x hj => ?_⟩
            refine hcl j x ?_
            have hj1 : j < len := by have := (List.getElem?_eq_some_iff.1 hj).1; rw [hnl] at this; omega
            rw [List.getElem?_take_of_lt hj1] at hj
            exact hj
        have hres : ∀ X' : Ctx, VDen X' (.c (.i .i64 ((min ys.length len : Nat) : Int))) (goInt ((ys.length.min len : Nat) : Int)) := fun X' => .c .i
        cases hd with
        | @sl _ _ _ _ bl cp hν =>
          have hbd := hs.blk nm _ hb
          simp only [BDen, hν] at hbd
          obtain ⟨cur, tb, hh, hc⟩ := hbd
          have hcl : xs.length ≤ cur.size := hc.le
          have hst := run_storeCells_at P bl off tb ((ys.map (Value.int k)).take len) 0 cur X.w hh (by rw [hnl]; omega) (fun v hv => by obtain ⟨n, _, rfl⟩ := List.mem_map.1 (List.mem_of_mem_take hv); rfl)
          simp only [Nat.add_zero] at hst
          have hyl : (ys.take len).length = min ys.length len := by simp [Nat.min_comm]
          have hcells : Cells X (.ar o k (xs.take off ++ ys.take len ++ xs.drop (off + min ys.length len))) (cur.toList.take off ++ (ys.map (Value.int k)).take len ++ cur.toList.drop (off + ((ys.map (Value.int k)).take len).length)).toArray cp := by
            have hl1 : (xs.take off ++ ys.take len ++ xs.drop (off + min ys.length len)).length = xs.length := by simp; omega
            have hl2 : (cur.toList.take off ++ (ys.map (Value.int k)).take len ++ cur.toList.drop (off + ((ys.map (Value.int k)).take len).length)).toArray.size = cur.size := size_splice cur _ off (by rw [hnl]; omega)
            refine ⟨by rw [hl2]; show List.length _ ≤ _; rw [hl1]; exact hcl, fun j hj => ?_, fun sz hsz' => by rw [hl2]; exact hc.own sz (by cases o <;> exact hsz')⟩
            have hj : j < xs.length := by have : j < List.length _ := hj; rwa [hl1] at this
            obtain ⟨v, hv1, hv2⟩ := hc.cell j hj
            cases hv2 with | ar hx =>
            rename_i n
            by_cases h1 : j < off
            · refine ⟨.int k n, ?_, .ar ?_⟩
              · rw [List.getElem?_toArray, List.append_assoc, List.getElem?_append_left (by simp; omega), List.getElem?_take_of_lt h1]; simpa using hv1
              · rw [List.append_assoc, List.getElem?_append_left (by simp; omega), List.getElem?_take_of_lt h1]; exact hx
            · by_cases h2 : j < off + min ys.length len
              · have hjy : j - off < ys.length := by omega
                refine ⟨.int k ys[j - off], ?_, .ar ?_⟩
                · rw [List.getElem?_toArray, List.append_assoc, List.getElem?_append_right (by simp; omega), List.getElem?_append_left (by simp; omega), List.getElem?_take_of_lt (by simp; omega), List.getElem?_map]
                  have e1 : j - (List.take off cur.toList).length = j - off := by simp; omega
                  rw [e1, List.getElem?_eq_getElem hjy]; rfl
                · rw [List.append_assoc, List.getElem?_append_right (by simp; omega), List.getElem?_append_left (by simp; omega), List.getElem?_take_of_lt (by simp; omega)]
                  have e1 : j - (List.take off xs).length = j - off := by simp; omega
                  rw [e1, List.getElem?_eq_getElem hjy]
              · refine ⟨.int k n, ?_, .ar ?_⟩
                · rw [List.getElem?_toArray, List.getElem?_append_right (by simp; omega), List.getElem?_drop]
                  have e1 : off + ((ys.map (Value.int k)).take len).length + (j - (List.take off cur.toList ++ (ys.map (Value.int k)).take len).length) = j := by simp; omega
                  rw [e1]; simpa using hv1
                · rw [List.getElem?_append_right (by simp; omega), List.getElem?_drop]
                  have e1 : off + min ys.length len + (j - (List.take off xs ++ ys.take len).length) = j := by simp; omega
                  rw [e1]; exact hx
          generalize (cur.toList.take off ++ (ys.map (Value.int k)).take len ++ cur.toList.drop (off + ((ys.map (Value.int k)).take len).length)).toArray = A at hst hcells
          generalize (ys.map (Value.int k)).take len = N at hst hlen
          obtain ⟨g1, g2⟩ := hs.setB hb hν hh hcells (fun m hm => by cases hm)
          exact ⟨_, ⟨X.ν, X.I, X.w.setRow bl A⟩, by simp [Builtin.copy_, run_underlying hun, hsz, hlen.1, hlen.2, hst], g1, g2, Nat.le_refl _, hres _, fun nm h => by cases h with | c h => exact h.elim⟩
        | sl0 hν =>
          have e0 : xs.take 0 ++ ys.take 0 ++ xs.drop (0 + min ys.length 0) = xs := by simp
          rw [e0]
          have hself : upd st nm (.ar o k xs) = st := by
            funext y; by_cases hy : y = nm
            · subst hy; rw [upd_same, hb]
            · rw [upd_other _ _ hy]
          rw [hself]
          rw [show ys.length.min 0 = 0 from Nat.min_zero _] at hlen
          refine ⟨_, X, by simp [Builtin.copy_, run_underlying hun, hsz, hlen.1, hlen.2], hs, .refl _ _, Nat.le_refl _, hres _, fun nm h => by cases h with | c h => exact h.elim⟩
      · trivial
    · trivial
  · trivial
theorem rds_congr {ρ ρ' : Operand → Option V} : ∀ {xs : List Operand}, (∀ x ∈ xs, ρ x = ρ' x) → rds ρ xs = rds ρ' xs
  | [], _ => rfl
  | x :: r, h => by
    simp only [rds, h x (by simp), rds_congr (xs := r) fun y hy => h y (by simp [hy])]
theorem bound_congr {ρ ρ' : Operand → Option V} {d : Int} {lo : Option Operand} (h : ∀ x, lo = some x → ρ x = ρ' x) : bound ρ d lo = bound ρ' d lo := by
  cases lo with
  | none => rfl
  | some x => simp only [bound, h x rfl]
theorem pureV_congr {op : Op} {ρ ρ' : Operand → Option V} (h : ∀ x ∈ op.operands, ρ x = ρ' x) : pureV op ρ = pureV op ρ' := by
  cases op with
  | slice t x lo hi mx =>
    cases mx with
    | some _ => rfl
    | none =>
      have hx := h x (by simp [Op.operands])
      have hlo : ∀ d, bound ρ d lo = bound ρ' d lo := fun d => bound_congr fun y hy => h y (by subst hy; simp [Op.operands])
      have hhi : ∀ d, bound ρ d hi = bound ρ' d hi := fun d => bound_congr fun y hy => h y (by subst hy; simp [Op.operands])
      simp only [pureV, hx]
      split
      · unfold sliceC; simp only [hlo, hhi]
      · rfl
  | call c =>
    simp only [pureV]
    split
    · rw [rds_congr fun x hx => h x (by simp [Op.operands, Call.operands]; exact .inr (by simpa using hx))]
    · rfl
  | _ => first
    | rfl
    | (simp only [Op.operands, List.mem_toArray, List.mem_cons, List.not_mem_nil, or_false, forall_eq_or_imp, forall_eq] at h; simp only [pureV, h])
theorem fillL_congr {ρ ρ' : Operand → Option V} {s : Nat} : ∀ {ps : List (Nat × Operand)} {cs : List C}, (∀ p ∈ ps, ρ p.2 = ρ' p.2) → fillL s ρ ps cs = fillL s ρ' ps cs
  | [], _, _ => rfl
  | (f, x) :: r, cs, h => by
    have ih : ∀ cs, fillL s ρ r cs = fillL s ρ' r cs := fun cs => fillL_congr fun p hp => h p (by simp [hp])
    simp only [fillL, h (f, x) (by simp), ih]
theorem inRow_mem : ∀ {ps : List (Nat × Operand)} {i : Nat} {xs : List Operand}, inRow i ps = some xs → ∀ x ∈ xs, x ∈ ps.map (·.2)
  | [], _, xs, h => by simp [inRow] at h; subst h; simp
  | (j, x) :: r, i, xs, h => by
    simp only [inRow] at h
    cases hb : Nat.beq i j with
    | false => rw [hb] at h; simp at h
    | true =>
      rw [hb] at h
      simp only [cond_true] at h
      split at h
      · rename_i l hl; cases h
        intro y hy
        rcases List.mem_cons.1 hy with rfl | hy
        · simp
        · exact List.mem_cons_of_mem _ (inRow_mem hl y hy)
      · cases h
theorem memV_congr {op : Op} {ρ ρ' : Operand → Option V} {st : Nat → Option B} {nx : Nat} (h : ∀ x ∈ op.operands, ρ x = ρ' x) : memV op ρ st nx = memV op ρ' st nx := by
  cases op with
  | build t ps =>
    have := fun (s : Nat) cs => fillL_congr (ρ := ρ) (ρ' := ρ') (s := s) (ps := ps.toList) (cs := cs) fun p hp => h p.2 (by simp [Op.operands]; exact ⟨p.1, by simpa using hp⟩)
    simp only [memV, this]
  | buildSlice t len ps =>
    simp only [memV]
    split
    · split
      · rename_i xs hx
        rw [rds_congr fun x hm => h x (by
          have := inRow_mem hx x hm
          simpa [Op.operands] using this)]
      · rfl
    · rfl
  | _ => first
    | rfl
    | (simp only [Op.operands, List.mem_toArray, List.mem_cons, List.not_mem_nil, or_false, forall_eq_or_imp, forall_eq] at h; simp only [memV, h])
def Seen (o : Oper) (e : Nat → Option V) (a : Act) (X : Ctx) (nx : Nat) : Prop :=
  ∀ x ∈ o.op.operands, ∀ v, rd e x = some v → VDen X v (a.eval x) ∧ ∀ nm, v.Has nm → nm < nx
def OpX (o : Oper) (e : Nat → Option V) (st : Nat → Option B) (nx : Nat) (v : V) (st' : Nat → Option B) (nx' : Nat) : Prop :=
  ∀ (H : Hp) (X : Ctx) (a : Act) (K : Act → World → Prop) (Q : Exit → Act → World → Prop), Hs H st nx X → Seen o e a X nx →
    (∀ X' u, Hs H st' nx' X' → Step nx X X' → nx ≤ nx' → VDen X' v u → (∀ nm, v.Has nm → nm < nx') → K (a.put o.dst u) X'.w) → o.wp P a X.w K Q
theorem OpX.congr {o : Oper} {e e' : Nat → Option V} {st : Nat → Option B} {nx : Nat} {v : V} {st' : Nat → Option B} {nx' : Nat} (h : OpX o e st nx v st' nx')
    (he : ∀ x ∈ o.op.operands, rd e x = rd e' x) : OpX o e' st nx v st' nx' :=
  fun H X a K Q hs hk hK => h H X a K Q hs (fun x hx v hv => hk x hx v (by rw [← he x hx]; exact hv)) hK
open Classical in
theorem lim_known {o : Oper} {e : Nat → Option V} {a : Act} {X : Ctx} {nx : Nat} (h : Seen o e a X nx) : Known (fun x => if x ∈ o.op.operands then rd e x else none) a X nx := by
  intro x v hx
  by_cases hm : x ∈ o.op.operands
  · simp only [if_pos hm] at hx; exact h x hm v hx
  · simp only [if_neg hm] at hx; cases hx
theorem OpX.of_ym {o : Oper} {e : Nat → Option V} {st : Nat → Option B} {nx : Nat} {v : V} {st' : Nat → Option B} {nx' : Nat}
    (h : ∀ H X a, Hs H st nx X → Seen o e a X nx → Ym H X nx ((execOp a.eval o).run P X.w) v st' nx') : OpX o e st nx v st' nx' := by
  intro H X a K Q hs hk hK
  obtain ⟨n, u, X', h1, h2, h3, h4, h5, h6, h7⟩ := h H X a hs hk
  unfold Oper.wp
  rw [h1]
  rcases h2 with rfl | ⟨rfl, rfl⟩
  · exact hK X' u h3 h4 h5 h6 h7
  · exact hK X' undef h3 h4 h5 h6 h7
def R.Is (r : R) (v : V) : Prop := r = .ok v ∨ ∃ φ, r = .cond φ v ∧ φ
def M.Is (m : M) (v : V) (st : Nat → Option B) (nx : Nat) : Prop := m = .ok v st nx ∨ ∃ φ, m = .cond φ v st nx ∧ φ
theorem R.Is.sat {r : R} {v : V} {Q : V → Prop} (h : r.Is v) (hs : r.sat Q) : Q v := by
  rcases h with rfl | ⟨φ, rfl, hφ⟩
  · exact hs
  · exact hs hφ
theorem M.Is.sat {m : M} {v : V} {st : Nat → Option B} {nx : Nat} {Q : V → (Nat → Option B) → Nat → Prop} (h : m.Is v st nx) (hs : m.sat Q) : Q v st nx := by
  rcases h with rfl | ⟨φ, rfl, hφ⟩
  · exact hs
  · exact hs hφ
open Classical in
theorem OpX.of_pure {o : Oper} {e : Nat → Option V} {st : Nat → Option B} {nx : Nat} {v : V} (h : (pureV o.op (rd e)).Is v) : OpX o e st nx v st nx :=
  .of_ym fun H X a hs hk => by
    have hc := pureV_congr (op := o.op) (ρ := rd e) (ρ' := fun x => if x ∈ o.op.operands then rd e x else none) fun x hx => by rw [if_pos hx]
    rw [hc] at h
    obtain ⟨u, h1, h2, h3⟩ := h.sat (pureV_ok o a X nx _ (lim_known hk))
    exact ⟨.value u, u, X, h1, .inl rfl, hs, .refl _ _, Nat.le_refl _, h2, h3⟩
open Classical in
theorem OpX.of_mem {o : Oper} {e : Nat → Option V} {st : Nat → Option B} {nx : Nat} {v : V} {st' : Nat → Option B} {nx' : Nat} (h : (memV o.op (rd e) st nx).Is v st' nx') : OpX o e st nx v st' nx' :=
  .of_ym fun H X a hs hk => by
    have hc := memV_congr (op := o.op) (ρ := rd e) (ρ' := fun x => if x ∈ o.op.operands then rd e x else none) (st := st) (nx := nx) fun x hx => by rw [if_pos hx]
    rw [hc] at h
    exact h.sat (memV_ok o a H X st nx _ (lim_known hk) hs)
theorem OpX.of_app {o : Oper} {e : Nat → Option V} {st : Nat → Option B} {nx t : Nat} {x y : Operand} {b c : C} {v : V} {st' : Nat → Option B} {nx' : Nat}
    (ho : o.op = .call { callee := .builtin .append, args := #[x, y], argTypes := #[t, t] }) (hx : rd e x = some (.c b)) (hy : rd e y = some (.c c)) (h : (appM t b c st nx).Is v st' nx') : OpX o e st nx v st' nx' :=
  .of_ym fun H X a hs hk => by
    obtain ⟨h1, h2⟩ := hk x (by simp [ho, Op.operands, Call.operands]) _ hx
    obtain ⟨h3, h4⟩ := hk y (by simp [ho, Op.operands, Call.operands]) _ hy
    cases h1 with | c h1 => cases h3 with | c h3 =>
    obtain ⟨r, X', k1, k2, k3, k4, k5, k6⟩ := h.sat (appM_ok o.type hs h1 (fun nm hn => h2 nm (.c hn)) h3)
    refine ⟨.value r, r, X', ?_, .inl rfl, k2, k3, k4, k5, k6⟩
    simp [execOp, ho, resolve, invoke, builtin, k1]
theorem OpX.of_clear {o : Oper} {e : Nat → Option V} {st : Nat → Option B} {nx t : Nat} {x : Operand} {b : C} {v : V} {st' : Nat → Option B} {nx' : Nat}
    (ho : o.op = .call { callee := .builtin .clear, args := #[x], argTypes := #[t] }) (hx : rd e x = some (.c b)) (h : (clearM t b st nx).Is v st' nx') : OpX o e st nx v st' nx' :=
  .of_ym fun H X a hs hk => by
    obtain ⟨h1, h2⟩ := hk x (by simp [ho, Op.operands, Call.operands]) _ hx
    cases h1 with | c h1 =>
    obtain ⟨r, X', k1, k2, k3, k4, k5, k6⟩ := h.sat (clearM_ok o.type hs h1)
    refine ⟨.value r, r, X', ?_, .inl rfl, k2, k3, k4, k5, k6⟩
    simp [execOp, ho, resolve, invoke, builtin, k1]
theorem OpX.of_copy {o : Oper} {e : Nat → Option V} {st : Nat → Option B} {nx t : Nat} {x y : Operand} {b c : C} {v : V} {st' : Nat → Option B} {nx' : Nat}
    (ho : o.op = .call { callee := .builtin .copy, args := #[x, y], argTypes := #[t, t] }) (hx : rd e x = some (.c b)) (hy : rd e y = some (.c c)) (h : (copyM t b c st nx).Is v st' nx') : OpX o e st nx v st' nx' :=
  .of_ym fun H X a hs hk => by
    obtain ⟨h1, h2⟩ := hk x (by simp [ho, Op.operands, Call.operands]) _ hx
    obtain ⟨h3, h4⟩ := hk y (by simp [ho, Op.operands, Call.operands]) _ hy
    cases h1 with | c h1 => cases h3 with | c h3 =>
    obtain ⟨r, X', k1, k2, k3, k4, k5, k6⟩ := h.sat (copyM_ok o.type hs h1 h3)
    refine ⟨.value r, r, X', ?_, .inl rfl, k2, k3, k4, k5, k6⟩
    simp [execOp, ho, resolve, invoke, builtin, k1]
structure CallX (f : Nat) (vs : List V) (st : Nat → Option B) (nx : Nat) (v : V) (st' : Nat → Option B) (nx' : Nat) : Prop where
  enter : ∃ fn, P.funcs[f]? = some fn ∧ fn.body.isSome = true ∧ (fn.name == "runtime.NumGoroutine") = false
  le : nx ≤ nx'
  has : ∀ nm, v.Has nm → nm < nx'
  run : ∀ (H : Hp) (X : Ctx) (us : List Value), Hs H st nx X → us.length = vs.length → (∀ (i : Nat) v u, vs[i]? = some v → us[i]? = some u → VDen X v u ∧ ∀ nm, v.Has nm → nm < nx) →
    Calls P f us.toArray X.w fun e w' => ∃ u X', e = .returned u ∧ X'.w = w' ∧ Hs H st' nx' X' ∧ Step nx X X' ∧ VDen X' v u
inductive CallQ (f : Nat) (vs : List V) (st : Nat → Option B) (nx : Nat) (K : V → (Nat → Option B) → Nat → Prop) : Prop
  | mk (v : V) (st' : Nat → Option B) (nx' : Nat) (h : CallX f vs st nx v st' nx') (hk : K v st' nx')
theorem rds_seen {o : Oper} {e : Nat → Option V} {a : Act} {X : Ctx} {nx : Nat} (h : Seen o e a X nx) : ∀ {xs : List Operand} {vs : List V}, (∀ x ∈ xs, x ∈ o.op.operands) → rds (rd e) xs = some vs →
    (xs.map a.eval).length = vs.length ∧ ∀ (i : Nat) v u, vs[i]? = some v → (xs.map a.eval)[i]? = some u → VDen X v u ∧ ∀ nm, v.Has nm → nm < nx
  | [], vs, _, hr => by simp [rds] at hr; subst hr; exact ⟨rfl, fun i v u h => by simp at h⟩
  | x :: r, vs, hm, hr => by
    simp only [rds] at hr
    split at hr
    · rename_i v hv
      split at hr
      · rename_i vs' hvs
        cases hr
        obtain ⟨h1, h2⟩ := rds_seen h (xs := r) (fun y hy => hm y (by simp [hy])) hvs
        refine ⟨by simpa using h1, fun i w u hw hu => ?_⟩
        cases i with
        | zero => simp at hw hu; subst hw; subst hu; exact h x (hm x (by simp)) v hv
        | succ i => exact h2 i w u (by simpa using hw) (by simpa using hu)
      · cases hr
    · cases hr
theorem OpX.of_call {o : Oper} {e : Nat → Option V} {st : Nat → Option B} {nx f : Nat} {args : Array Operand} {ts : Array TypeId} {vs : List V} {v : V} {st' : Nat → Option B} {nx' : Nat}
    (ho : o.op = .call { callee := .value (.func f), args := args, argTypes := ts }) (hvs : rds (rd e) args.toList = some vs) (h : CallX f vs st nx v st' nx') : OpX o e st nx v st' nx' := by
  intro H X a K Q hs hk hK
  obtain ⟨fn, hf, hb, hn⟩ := h.enter
  obtain ⟨h1, h2⟩ := rds_seen hk (xs := args.toList) (fun x hx => by simp [ho, Op.operands, Call.operands]; exact .inr (by simpa using hx)) hvs
  have hrun : (execOp a.eval o).run P X.w = .ok (.enter f (args.map a.eval)) X.w := by
    have hb' : fn.body ≠ none := fun hq => by rw [hq] at hb; cases hb
    have hn' : fn.name ≠ "runtime.NumGoroutine" := fun hq => by rw [hq] at hn; simp at hn
    simp [execOp, ho, resolve, invoke, Deferred.ofValue, Act.eval, callFunc, hf, hn', hb']
  unfold Oper.wp
  rw [hrun, Oper.upon_enter]
  have := h.run H X (args.toList.map a.eval) hs h1 h2
  have ha : (args.toList.map a.eval).toArray = args.map a.eval := by apply Array.ext'; simp
  rw [ha] at this
  refine this.mono fun en w' hen => ?_
  obtain ⟨u, X', rfl, rfl, k1, k2, k3⟩ := hen
  exact hK X' u k1 k2 h.le k3 h.has
end Go.SX
