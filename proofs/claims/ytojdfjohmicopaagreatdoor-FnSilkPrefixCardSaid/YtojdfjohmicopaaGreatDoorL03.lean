/- A part of the proof: the SILK decoder of the given program, walked by an executor that is proved sound. No statement of the program is proved in this text. -/
import Derived.Test.YtojdfjohmicopaaGreatDoorL02
set_option linter.all false
set_option maxRecDepth 100000
namespace Go.SX
open Go
inductive M where
  | no
  | ok (v : V) (st : Nat → Option B) (nx : Nat)
  | cond (φ : Prop) (v : V) (st : Nat → Option B) (nx : Nat)
def R.toM (r : R) (st : Nat → Option B) (nx : Nat) : M :=
  match r with
  | .no => .no
  | .ok v => .ok v st nx
  | .cond φ v => .cond φ v st nx
def C.one : C → Bool
  | .kv x => x.oneCell'
  | .any => false
  | _ => true
def setL : List C → Nat → C → Option (List C)
  | [], _, _ => none
  | _ :: r, 0, c => some (c :: r)
  | x :: r, n + 1, c => match setL r n c with
    | some r' => some (x :: r')
    | none => none
def spliceL : List C → Nat → List C → Option (List C)
  | cs, 0, [] => some cs
  | [], _ + 1, _ => none
  | [], 0, _ :: _ => none
  | _ :: r, 0, d :: ds => match spliceL r 0 ds with
    | some r' => some (d :: r')
    | none => none
  | x :: r, n + 1, ds => match spliceL r n ds with
    | some r' => some (x :: r')
    | none => none
def allOne : List C → Bool
  | [] => true
  | c :: r => c.one && allOne r
def loadM (t : Nat) (off : Nat) : B → R
  | .st cs => partOf t cs off
  | .ar _ k xs => match (ty t).d with
    | .int _ => .cond (off < xs.length) (.c (.i k (xs.getD off 0)))
    | _ => .no
  | .bl _ xs => match (ty t).d with
    | .bool => .cond (off < xs.length) (.c (.b (xs.getD off false)))
    | _ => .no
  | .ss _ k xss => match (ty t).d with
    | .slice _ => .cond (off < xss.length) (.c (.is k (xss.getD off [])))
    | _ => .no
  | .rs .. => .no
  | .un .. => .no
inductive SB where
  | no
  | ok (x : B)
  | cond (φ : Prop) (x : B)
def storeB (t : Nat) (off : Nat) (v : V) : B → SB
  | .st cs => match v with
    | .c c => match (ty t).sz, c.one with
      | 1, true => match setL cs off c with
        | some cs' => .ok (.st cs')
        | none => .no
      | _, _ => .no
    | .ag ds => match Nat.beq ds.length (ty t).sz, allOne ds, Nat.beq (ty t).sz 0 with
      | true, true, false => match spliceL cs off ds with
        | some cs' => .ok (.st cs')
        | none => .no
      | _, _, _ => .no
    | _ => .no
  | .ar o k xs => match v with
    | .c (.i k' n) => match (ty t).sz, kEq k k' with
      | 1, true => .cond (off < xs.length) (.ar o k (xs.set off n))
      | _, _ => .no
    | _ => .no
  | .bl o xs => match v with
    | .c (.b b) => match (ty t).sz with
      | 1 => .cond (off < xs.length) (.bl o (xs.set off b))
      | _ => .no
    | _ => .no
  | _ => .no
def isZ (k : IntKind) : C → Bool
  | .i k' (.ofNat 0) => kEq k k'
  | _ => false
def allZ (k : IntKind) : List C → Bool
  | [] => true
  | c :: r => isZ k c && allZ k r
def intArr : Nat → Nat → Option IntKind
  | 0, _ => none
  | n + 1, t => match (ty t).d with
    | .arr _ e => intArr n e
    | .int k => some k
    | _ => none
def zeroB (t : Nat) : Option B :=
  match (ty t).z with
  | [] => none
  | c :: r => match (ty t).d with
    | .arr _ _ => match intArr 4 t with
      | some k => bif allZ k (c :: r) then some (.ar false k (List.replicate (ty t).sz 0)) else none
      | none => some (.st (c :: r))
    | _ => some (.st (c :: r))
def asInts (k : IntKind) : List V → Option (List Int)
  | [] => some []
  | .c (.i k' n) :: r => bif kEq k k' then match asInts k r with
      | some l => some (n :: l)
      | none => none
    else none
  | _ => none
def asBools : List V → Option (List Bool)
  | [] => some []
  | .c (.b x) :: r => match asBools r with
    | some l => some (x :: l)
    | none => none
  | _ => none
def asCells (sz : Nat) : List V → Option (List C)
  | [] => some []
  | .c c :: r => match sz, c.one with
    | 1, true => match asCells 1 r with
      | some l => some (c :: l)
      | none => none
    | _, _ => none
  | .ag cs :: r => bif Nat.beq cs.length sz && allOne cs then match asCells sz r with
      | some l => some (cs ++ l)
      | none => none
    else none
  | _ => none
def inRow : Nat → List (Nat × Operand) → Option (List Operand)
  | _, [] => some []
  | i, (j, x) :: r => bif Nat.beq i j then match inRow (i + 1) r with
      | some l => some (x :: l)
      | none => none
    else none
def rowB (e : Nat) (vs : List V) : Option B :=
  match (ty e).d with
  | .int k => match asInts k vs with
    | some l => some (.ar true k l)
    | none => none
  | .bool => match asBools vs with
    | some l => some (.bl true l)
    | none => none
  | .other => none
  | _ => match asCells (ty e).sz vs with
    | some l => some (.st l)
    | none => none
def rowV (e nx len : Nat) : V :=
  match (ty e).d with
  | .int _ | .bool => .c (.osl nx len)
  | _ => .c (.sl nx 0 len len)
def fillL (s : Nat) (ρ : Operand → Option V) : List (Nat × Operand) → List C → Option (List C)
  | [], cs => some cs
  | (f, x) :: r, cs => match fieldOf s f with
    | some (o, t) => match ρ x with
      | some (.c c) => match (ty t).sz, c.one, setL cs o c with
        | 1, true, some cs' => fillL s ρ r cs'
        | _, _, _ => none
      | some (.ag ds) => match Nat.beq ds.length (ty t).sz, Nat.beq (ty t).sz 0, spliceL cs o ds with
        | true, false, some cs' => fillL s ρ r cs'
        | _, _, _ => none
      | _ => none
    | none => none
def madeB (e n : Nat) : Option B :=
  match (ty e).d with
  | .int k => some (.ar false k (List.replicate n 0))
  | .bool => some (.bl false (List.replicate n false))
  | .slice _ => some (.st (List.replicate n .nsl))
  | _ => none
def memV (op : Op) (ρ : Operand → Option V) (st : Nat → Option B) (nx : Nat) : M :=
  match op with
  | .load t x => match ρ x with
    | some (.c (.p nm off)) => match st nm with
      | some b => (loadM t off b).toM st nx
      | none => .no
    | _ => .no
  | .store t x y => match ρ x with
    | some (.c (.p nm off)) => match ρ y with
      | some v => match st nm with
        | some b => match storeB t off v b with
          | .ok b' => .ok (.tu []) (upd st nm b') nx
          | .cond φ b' => .cond φ (.tu []) (upd st nm b') nx
          | .no => .no
        | none => .no
      | none => .no
    | _ => .no
  | .alloc t => match zeroB t with
    | some b => .ok (.c (.p nx 0)) (upd st nx b) (nx + 1)
    | none => .no
  | .box t x => match ρ x with
    | some (.c c) => match (ty t).sz, c.one with
      | 1, true => .ok (.c (.p nx 0)) (upd st nx (.st [c])) (nx + 1)
      | _, _ => .no
    | some (.ag cs) => .ok (.c (.p nx 0)) (upd st nx (.st cs)) (nx + 1)
    | _ => .no
  | .build t ps => match (ty t).d, (ty t).z with
    | .st _, c :: r => match fillL t ρ ps.toList (c :: r) with
      | some cs => .ok (.ag cs) st nx
      | none => .no
    | _, _ => .no
  | .buildSlice t len ps => match (ty t).d with
    | .slice e => match inRow 0 ps.toList with
      | some xs => match Nat.beq xs.length len, rds ρ xs with
        | true, some vs => match rowB e vs, (ty e).z, Nat.ble (len * (ty e).sz) 16777216 with
          | some b, _ :: _, true => .ok (rowV e nx len) (upd st nx b) (nx + 1)
          | _, _, _ => .no
        | _, _ => .no
      | none => .no
    | _ => .no
  | .makeSlice t l c => match (ty t).d with
    | .slice e => match ρ l with
      | some (.c (.i _ n)) => match ρ c with
        | some (.c (.i _ m)) => match madeB e m.toNat, Nat.ble (ty e).by_ 64 with
          | some b, true => .cond (0 ≤ n ∧ n ≤ m ∧ m ≤ 1099511627776) (.c (.sl nx 0 n.toNat m.toNat)) (upd st nx b) (nx + 1)
          | _, _ => .no
        | _ => .no
      | _ => .no
    | _ => .no
  | .convert src dst x => match ρ x with
    | some (.c (.s s)) => match (ty src).d, (ty dst).d with
      | .str, .slice e => match (ty e).d with
        | .int .u8 => .ok (.c (.is .u8 (s.data.toList.map fun b => (b.toNat : Int)))) st nx
        | _ => .no
      | _, _ => .no
    | _ => .no
  | _ => .no
def M.sat (m : M) (Q : V → (Nat → Option B) → Nat → Prop) : Prop :=
  match m with
  | .no => True
  | .ok v st nx => Q v st nx
  | .cond φ v st nx => φ → Q v st nx
def Ym (H : Hp) (X : Ctx) (nx : Nat) (res : Result Next) (v : V) (st' : Nat → Option B) (nx' : Nat) : Prop :=
  ∃ r u X', res = .ok r X'.w ∧ (r = .value u ∨ (r = .skip ∧ u = undef)) ∧ Hs H st' nx' X' ∧ Step nx X X' ∧ nx ≤ nx' ∧ VDen X' v u ∧ ∀ nm, v.Has nm → nm < nx'
theorem cell_block {w : World} {bl j : Nat} {cur : Array Value} {ty : TypeId} {fr : Nat × Nat} (h : w.heap[bl]? = some (.cells cur ty fr)) : w.cell? ⟨bl, j, none⟩ = cur[j]? := by simp [World.cell?, h]
theorem loadM_ok {X : Ctx} {nx t off : Nat} {b : B} {bl c : Nat} {cur : Array Value} {tb : TypeId} (hh : X.w.heap[bl]? = some (.cells cur tb (0, 0))) (hc : Cells X b cur c) (hb : ∀ m, b.Has m → m < nx) :
    (loadM t off b).sat (Yv X nx (loadVar t ⟨bl, off, none⟩)) := by
  have one : ∀ (hd : (ty t).d ≠ .other) (_ : (ty t).d.agg = false) (u : Value), cur[off]? = some u → (loadVar t ⟨bl, off, none⟩).run P X.w = .ok u X.w := fun hd ha u hu => by
    simp [loadVar, run_isAgg hd, ha, cell_block hh, hu]
  cases b with
  | st cs =>
    have sc : ∀ (hd : (ty t).d ≠ .other) (_ : (ty t).d.agg = false), (match cs[off]? with | some c => R.ok (.c c) | none => .no).sat (Yv X nx (loadVar t ⟨bl, off, none⟩)) := by
      intro hd ha
      cases hcs : cs[off]? with
      | none => trivial
      | some x =>
        obtain ⟨u, hu, hbc⟩ := hc.cell off (List.getElem?_eq_some_iff.1 hcs).1
        cases hbc with
        | st hj hden =>
          rw [hcs] at hj; cases hj
          exact ⟨u, one hd ha u hu, .c hden, fun nm h => by cases h with | c h => exact hb nm (.st (List.mem_of_getElem? hcs) h)⟩
    have many : ∀ (hd : (ty t).d ≠ .other) (_ : (ty t).d.agg = true), (bif Nat.ble (off + (ty t).sz) cs.length then R.ok (.ag ((cs.drop off).take (ty t).sz)) else .no).sat (Yv X nx (loadVar t ⟨bl, off, none⟩)) := by
      intro hd ha
      cases hle : Nat.ble (off + (ty t).sz) cs.length with
      | false => trivial
      | true =>
        have hle := Nat.le_of_ble_eq_true hle
        have hcs : cs.length ≤ cur.size := hc.le
        have hl : (loadCells ⟨bl, off, none⟩ (ty t).sz).run P X.w = .ok ((cur.toList.drop off).take (ty t).sz).toArray X.w := by
          have := run_loadCells_list (P := P) (w := X.w) ⟨bl, off, none⟩ ((cur.toList.drop off).take (ty t).sz) (fun j v hj => by
            rw [add_some, cell_block hh]
            rw [List.getElem?_take] at hj
            split at hj
            · rw [List.getElem?_drop] at hj; simpa using hj
            · cases hj)
          have hlen : ((cur.toList.drop off).take (ty t).sz).length = (ty t).sz := by simp; omega
          rw [hlen] at this
          exact this
        refine ⟨.agg ((cur.toList.drop off).take (ty t).sz).toArray, by simp [loadVar, run_isAgg hd, ha, ty_sz hd, hl], .ag (by simp; omega) fun i x u hi hu => ?_, fun nm h => ?_⟩
        · rw [List.getElem?_take] at hi
          split at hi
          · rename_i hlt
            rw [List.getElem?_drop] at hi
            obtain ⟨u', hu', hbc⟩ := hc.cell (off + i) (List.getElem?_eq_some_iff.1 hi).1
            simp [hlt] at hu
            rw [hu'] at hu; cases hu
            cases hbc with | st hj hden => rw [hi] at hj; cases hj; exact hden
          · cases hi
        · cases h with | ag hm hx => exact hb nm (.st (List.mem_of_mem_drop (List.mem_of_mem_take hm)) hx)
    unfold loadM partOf
    cases hd : (ty t).d with
    | other => trivial
    | st fs => exact many (by rw [hd]; simp) (by rw [hd]; rfl)
    | arr n e => exact many (by rw [hd]; simp) (by rw [hd]; rfl)
    | _ => exact sc (by rw [hd]; simp) (by rw [hd]; rfl)
  | ar o k xs =>
    unfold loadM
    dsimp only
    split
    · rename_i k' hd
      intro hlt
      obtain ⟨u, hu, hbc⟩ := hc.cell off hlt
      cases hbc with
      | ar hj =>
        exact ⟨_, one (by rw [hd]; simp) (by rw [hd]; rfl) _ hu, by rw [List.getD_eq_getElem?_getD, hj]; exact .c .i, fun _=>no_i⟩
    · trivial
  | bl o xs =>
    unfold loadM
    dsimp only
    split
    · rename_i hd
      intro hlt
      obtain ⟨u, hu, hbc⟩ := hc.cell off hlt
      cases hbc with
      | bl hj =>
        exact ⟨_, one (by rw [hd]; simp) (by rw [hd]; rfl) _ hu, by rw [List.getD_eq_getElem?_getD, hj]; exact .c .b, fun _=>no_b⟩
    · trivial
  | ss o k xss =>
    unfold loadM
    dsimp only
    split
    · rename_i e hd
      intro hlt
      obtain ⟨u, hu, hbc⟩ := hc.cell off hlt
      cases hbc with
      | ss hj hden =>
        exact ⟨_, one (by rw [hd]; simp) (by rw [hd]; rfl) _ hu, by rw [List.getD_eq_getElem?_getD, hj]; exact .c hden, fun _=>no_is⟩
    · trivial
  | rs => trivial
  | un => trivial
theorem setL_ok : ∀ {cs : List C} {n : Nat} {c : C} {cs' : List C}, setL cs n c = some cs' → n < cs.length ∧ cs' = cs.set n c
  | [], _, _, _, h => by simp [setL] at h
  | _ :: _, 0, _, _, h => by simp [setL] at h; subst h; simp
  | x :: r, n + 1, c, cs', h => by
    unfold setL at h
    split at h
    · rename_i r' hr
      cases h
      obtain ⟨h1, h2⟩ := setL_ok hr
      exact ⟨by simpa using h1, by simp [h2]⟩
    · cases h
theorem spliceL_ok : ∀ {cs : List C} {n : Nat} {ds cs' : List C}, spliceL cs n ds = some cs' → n + ds.length ≤ cs.length ∧ cs' = cs.take n ++ ds ++ cs.drop (n + ds.length)
  | cs, 0, [], _, h => by
    have : spliceL cs 0 [] = some cs := by cases cs <;> rfl
    rw [this] at h; cases h; simp
  | [], n + 1, ds, _, h => by simp [spliceL] at h
  | [], 0, _ :: _, _, h => by simp [spliceL] at h
  | x :: r, 0, d :: ds, cs', h => by
    unfold spliceL at h
    split at h
    · rename_i r' hr
      cases h
      obtain ⟨h1, h2⟩ := spliceL_ok hr
      refine ⟨by simp at h1 ⊢; omega, ?_⟩
      simp at h2
      simp [h2]
    · cases h
  | x :: r, n + 1, ds, cs', h => by
    unfold spliceL at h
    split at h
    · rename_i r' hr
      cases h
      obtain ⟨h1, h2⟩ := spliceL_ok hr
      refine ⟨by simp at h1 ⊢; omega, ?_⟩
      rw [h2]
      simp [Nat.add_right_comm n 1]
    · cases h
theorem Den.one {X : Ctx} {c : C} {u : Value} (h : Den X c u) (ho : c.one = true) : u.oneCell' = true := by
  cases h with
  | kv => exact ho
  | any => cases ho
  | _ => rfl
theorem allOne_mem : ∀ {ds : List C}, allOne ds = true → ∀ c ∈ ds, c.one = true
  | [], _, _, h => by cases h
  | d :: r, h, c, hc => by
    simp only [allOne, Bool.and_eq_true] at h
    cases hc with
    | head => exact h.1
    | tail _ hc => exact allOne_mem h.2 c hc
theorem store_cells {X : Ctx} {t off bl : Nat} {cur : Array Value} {tb : TypeId} {v : Value} (hd : (ty t).d ≠ .other) (hs : v.cells.size = (ty t).sz) (hh : X.w.heap[bl]? = some (.cells cur tb (0, 0)))
    (hle : off + v.cells.size ≤ cur.size) (h1 : ∀ u ∈ v.cells.toList, u.oneCell' = true) :
    (storeVar t ⟨bl, off, none⟩ v).run P X.w = .ok () (X.w.setRow bl (cur.toList.take off ++ v.cells.toList ++ cur.toList.drop (off + v.cells.size)).toArray) := by
  have := run_storeCells_at P bl off tb v.cells.toList 0 cur X.w hh (by simpa using hle) h1
  simp only [Nat.add_zero, Array.length_toList] at this
  simp [storeVar, ty_sz hd, hs]
  rw [hs] at this
  simpa using this
theorem getElem?_splice {α : Type} (cur : Array α) (vs : List α) (off j : Nat) (hle : off + vs.length ≤ cur.size) :
    (cur.toList.take off ++ vs ++ cur.toList.drop (off + vs.length)).toArray[j]? = if j < off then cur[j]? else if j < off + vs.length then vs[j - off]? else cur[j]? := by
  have h1 : (cur.toList.take off).length = off := by simp; omega
  simp only [List.getElem?_toArray]
  by_cases hj : j < off
  · rw [if_pos hj, List.append_assoc, List.getElem?_append_left (by omega), List.getElem?_take, if_pos hj]; simp
  · rw [if_neg hj, List.append_assoc, List.getElem?_append_right (by omega), h1]
    by_cases hj2 : j < off + vs.length
    · rw [if_pos hj2, List.getElem?_append_left (by omega)]
    · rw [if_neg hj2, List.getElem?_append_right (by omega), List.getElem?_drop]
      have : off + vs.length + (j - off - vs.length) = j := by omega
      rw [this]; simp
theorem size_splice {α : Type} (cur : Array α) (vs : List α) (off : Nat) (hle : off + vs.length ≤ cur.size) : (cur.toList.take off ++ vs ++ cur.toList.drop (off + vs.length)).toArray.size = cur.size := by
  simp; omega
def SB.sat (r : SB) (Q : B → Prop) : Prop :=
  match r with
  | .no => True
  | .ok b => Q b
  | .cond φ b => φ → Q b
theorem storeB_ok {X : Ctx} {nx t off : Nat} {b : B} {bl c : Nat} {cur : Array Value} {tb : TypeId} (hh : X.w.heap[bl]? = some (.cells cur tb (0, 0))) (hc : Cells X b cur c) (hb : ∀ m, b.Has m → m < nx)
    {v : V} {u : Value} (hv : VDen X v u) (hn : ∀ nm, v.Has nm → nm < nx) :
    (storeB t off v b).sat fun b' => ∃ cur', (storeVar t ⟨bl, off, none⟩ u).run P X.w = .ok () (X.w.setRow bl cur') ∧ Cells X b' cur' c ∧ ∀ m, b'.Has m → m < nx := by
  cases b with
  | st cs =>
    unfold storeB
    dsimp only
    split
    · rename_i x
      split
      · rename_i hs ho
        split
        · rename_i cs' hset
          obtain ⟨hlt, rfl⟩ := setL_ok hset
          cases hv with
          | c hx =>
            have hone := hx.one ho
            have huc : u.cells = #[u] := by cases u <;> first | rfl | (simp [Value.oneCell'] at hone)
            have hle : off + 1 ≤ cur.size := by have : cs.length ≤ cur.size := hc.le; omega
            have hle' : off + [u].length ≤ cur.size := hle
            refine ⟨(cur.toList.take off ++ [u] ++ cur.toList.drop (off + [u].length)).toArray, ?_, ⟨?_, fun j hj => ?_, fun sz h => by cases h⟩, fun m h => ?_⟩
            · have := store_cells (X := X) (t := t) (off := off) (v := u) (ty_pos (by omega)) (by rw [huc, hs]; rfl) hh (by rw [huc]; exact hle) (by rw [huc]; intro y hy; simp at hy; subst hy; exact hone)
              rw [huc] at this
              exact this
            · rw [size_splice cur [u] off hle']; simpa [B.size] using hc.le
            · have hj' : j < cs.length := by simpa [B.size] using hj
              rw [getElem?_splice cur [u] off j hle']
              by_cases he : j = off
              · subst he
                refine ⟨u, by simp, .st (c := x) (by simp [hj']) hx⟩
              · obtain ⟨y, hy, hbc⟩ := hc.cell j hj'
                refine ⟨y, ?_, ?_⟩
                · simp only [List.length_cons, List.length_nil]
                  split
                  · exact hy
                  · rw [if_neg (by omega)]; exact hy
                · cases hbc with | st h1 h2 => exact .st (by rw [List.getElem?_set_ne (Ne.symm he)]; exact h1) h2
            · cases h with
              | st hm hx' =>
                rcases List.mem_or_eq_of_mem_set hm with h | h
                · exact hb m (.st h hx')
                · subst h; exact hn m (.c hx')
        · trivial
      · trivial
    · rename_i ds
      split
      · rename_i hl ho hz
        split
        · rename_i cs' hsp
          obtain ⟨hlt, rfl⟩ := spliceL_ok hsp
          have hlen := Nat.eq_of_beq_eq_true hl
          have hz' : (ty t).sz ≠ 0 := fun e => by rw [e] at hz; exact absurd hz (by decide)
          cases hv with
          | @ag _ us hs hx =>
            have huc : (Value.agg us).cells = us := rfl
            have hle : off + us.toList.length ≤ cur.size := by have : cs.length ≤ cur.size := hc.le; simp; omega
            have hones : ∀ y ∈ us.toList, y.oneCell' = true := fun y hy => by
              obtain ⟨i, hi⟩ := List.mem_iff_getElem?.1 hy
              have hilt : i < ds.length := by rw [← hs]; simpa using (List.getElem?_eq_some_iff.1 hi).1
              exact (hx i ds[i] y (by simp [hilt]) (by simpa using hi)).one (allOne_mem ho _ (List.getElem_mem _))
            refine ⟨(cur.toList.take off ++ us.toList ++ cur.toList.drop (off + us.toList.length)).toArray, ?_, ⟨?_, fun j hj => ?_, fun sz h => by cases h⟩, fun m h => ?_⟩
            · have := store_cells (X := X) (t := t) (off := off) (v := .agg us) (ty_pos hz') (by rw [huc, hs, hlen]) hh (by rw [huc]; simpa using hle) (by rw [huc]; exact hones)
              rw [huc] at this
              simpa using this
            · rw [size_splice cur us.toList off hle]
              have : cs.length ≤ cur.size := hc.le
              simp [B.size]; omega
            · rw [getElem?_splice cur us.toList off j hle]
              have hj' : j < cs.length := by simp [B.size] at hj; omega
              have hul : us.toList.length = ds.length := by simpa using hs
              by_cases h1 : j < off
              · obtain ⟨y, hy, hbc⟩ := hc.cell j hj'
                refine ⟨y, by rw [if_pos h1]; exact hy, ?_⟩
                cases hbc with | st h2 h3 => exact .st (by rw [List.append_assoc, List.getElem?_append_left (by simp; omega), List.getElem?_take, if_pos h1]; exact h2) h3
              · by_cases h2 : j < off + us.toList.length
                · have hjl : j - off < us.toList.length := by omega
                  have hjd : j - off < ds.length := by omega
                  refine ⟨us.toList[j - off], by rw [if_neg h1, if_pos h2]; simp, .st (c := ds[j - off]) ?_ (hx (j - off) _ _ (by simp [hjd]) (by simp at hjl; simp [hjl]))⟩
                  rw [List.append_assoc, List.getElem?_append_right (by simp; omega), List.getElem?_append_left (by simp; omega)]
                  have : (cs.take off).length = off := by simp; omega
                  rw [this]; simp [hjd]
                · obtain ⟨y, hy, hbc⟩ := hc.cell j hj'
                  refine ⟨y, by rw [if_neg h1, if_neg h2]; exact hy, ?_⟩
                  have e1 : (cs.take off).length = off := by simp; omega
                  cases hbc with
                  | st h3 h4 =>
                    refine .st (c := _) ?_ h4
                    rw [List.append_assoc, List.getElem?_append_right (by omega), List.getElem?_append_right (by omega), List.getElem?_drop, e1]
                    have : off + ds.length + (j - off - ds.length) = j := by omega
                    rw [this]; exact h3
            · cases h with
              | st hm hx' =>
                simp only [List.mem_append] at hm
                rcases hm with (h | h) | h
                · exact hb m (.st (List.mem_of_mem_take h) hx')
                · exact hn m (.ag h hx')
                · exact hb m (.st (List.mem_of_mem_drop h) hx')
        · trivial
      · trivial
    · trivial
  | ar o k xs =>
    unfold storeB
    dsimp only
    split
    · rename_i k' n
      split
      · rename_i hs hk
        obtain rfl := kEq_eq hk
        intro hlt
        cases hv with
        | c hx =>
          cases hx
          have hle' : off + [Value.int k n].length ≤ cur.size := by have : xs.length ≤ cur.size := hc.le; simp; omega
          refine ⟨(cur.toList.take off ++ [Value.int k n] ++ cur.toList.drop (off + [Value.int k n].length)).toArray, ?_, ⟨?_, fun j hj => ?_, fun sz h => ?_⟩, fun m h => by cases h⟩
          · exact store_cells (X := X) (t := t) (off := off) (v := .int k n) (ty_pos (by omega)) (by rw [hs]; rfl) hh hle' (by intro y hy; simp [Value.cells] at hy; subst hy; rfl)
          · rw [size_splice cur _ off hle']; simpa [B.size] using hc.le
          · have hj' : j < xs.length := by simpa [B.size] using hj
            rw [getElem?_splice cur _ off j hle']
            by_cases he : j = off
            · subst he
              exact ⟨_, by simp; rfl, .ar (by simp [hj'])⟩
            · obtain ⟨y, hy, hbc⟩ := hc.cell j hj'
              refine ⟨y, ?_, ?_⟩
              · simp only [List.length_cons, List.length_nil]
                split
                · exact hy
                · rw [if_neg (by omega)]; exact hy
              · cases hbc with | ar h1 => exact .ar (by rw [List.getElem?_set_ne (Ne.symm he)]; exact h1)
          · rw [size_splice cur _ off hle']; exact hc.own sz (by cases o <;> exact h)
      · trivial
    · trivial
  | bl o xs =>
    unfold storeB
    dsimp only
    split
    · rename_i b
      split
      · rename_i hs
        intro hlt
        cases hv with
        | c hx =>
          cases hx
          have hle' : off + [Value.bool b].length ≤ cur.size := by have : xs.length ≤ cur.size := hc.le; simp; omega
          refine ⟨(cur.toList.take off ++ [Value.bool b] ++ cur.toList.drop (off + [Value.bool b].length)).toArray, ?_, ⟨?_, fun j hj => ?_, fun sz h => ?_⟩, fun m h => by cases h⟩
          · exact store_cells (X := X) (t := t) (off := off) (v := .bool b) (ty_pos (by omega)) (by rw [hs]; rfl) hh hle' (by intro y hy; simp [Value.cells] at hy; subst hy; rfl)
          · rw [size_splice cur _ off hle']; simpa [B.size] using hc.le
          · have hj' : j < xs.length := by simpa [B.size] using hj
            rw [getElem?_splice cur _ off j hle']
            by_cases he : j = off
            · subst he
              exact ⟨_, by simp; rfl, .bl (by simp [hj'])⟩
            · obtain ⟨y, hy, hbc⟩ := hc.cell j hj'
              refine ⟨y, ?_, ?_⟩
              · simp only [List.length_cons, List.length_nil]
                split
                · exact hy
                · rw [if_neg (by omega)]; exact hy
              · cases hbc with | bl h1 => exact .bl (by rw [List.getElem?_set_ne (Ne.symm he)]; exact h1)
          · rw [size_splice cur _ off hle']; exact hc.own sz (by cases o <;> exact h)
      · trivial
    · trivial
  | ss => trivial
  | rs => trivial
  | un => trivial
theorem cIs_den {X : Ctx} {c : C} {u : Value} (h : cIs c u = true) : Den X c u := by
  unfold cIs at h
  split at h
  · simp only [Bool.and_eq_true, decide_eq_true_eq] at h
    obtain ⟨h1, rfl⟩ := h
    rw [kEq_eq h1]; exact .i
  · rw [eq_of_beq h]; exact .b
  · rename_i x y
    simp only [Bool.and_eq_true] at h
    have h1 := Nat.eq_of_beq_eq_true h.1
    have h2 := Nat.eq_of_beq_eq_true h.2
    have : ∀ z : ByteArray, z.size = 0 → z = ByteArray.empty := fun z hz => by
      cases z with | mk d => have hd : d = #[] := Array.eq_empty_of_size_eq_zero hz; subst hd; rfl
    rw [this x h1, this y h2]; exact .s
  · exact .np
  · exact .nsl
  · exact .kv
  · exact .kv
  · simp only [Bool.and_eq_true, decide_eq_true_eq] at h
    obtain ⟨rfl, h2⟩ := h
    rw [Nat.eq_of_beq_eq_true h2]; exact .kv
  · cases h
theorem cIs_no {c : C} {u : Value} (h : cIs c u = true) (nm : Nat) : ¬ c.Has nm := by
  unfold cIs at h
  split at h <;> first | exact fun h => h | cases h
theorem zero_of {t : Nat} {c : C} {r : List C} (hz : (ty t).z = c :: r) : (ty t).d ≠ .other ∧ ∃ i v, P.info? t = some i ∧ i.zero = some v ∧ i.size = (ty t).sz ∧ i.bytes = (ty t).by_ ∧ v.cells.size = (c :: r).length ∧
    ∀ (j : Nat) x u, (c :: r)[j]? = some x → v.cells[j]? = some u → cIs x u = true := by
  have hd : (ty t).d ≠ .other := by
    intro hd
    have hall : tyTab.all (fun t => match t.d with | .other => t.z.isEmpty | _ => true) = true := by kernel_rfl
    unfold ty at hd hz
    rw [List.getD_eq_getElem?_getD] at hd hz
    cases hx : tyTab[t]? with
    | none => simp [hx] at hz
    | some x =>
      simp only [hx, Option.getD_some] at hd hz
      have := List.all_eq_true.1 hall x (List.mem_of_getElem? hx)
      rw [hd, hz] at this
      cases this
  refine ⟨hd, ?_⟩
  obtain ⟨i, hi, hs, hb, ho⟩ := (ty_d hd).2
  rw [hz] at ho
  unfold zOk at ho
  split at ho
  · cases ho
  · rename_i v hv
    simp only [List.isEmpty_cons, Bool.false_or, Bool.and_eq_true] at ho
    refine ⟨i, v, hi, hv, hs, hb, (Nat.eq_of_beq_eq_true ho.1).symm, fun j x u hj hu => ?_⟩
    have hz : ((c :: r).zip v.cells.toList)[j]? = some (x, u) := by
      rw [List.getElem?_zip_eq_some]
      exact ⟨hj, by simpa using hu⟩
    exact List.all_eq_true.1 ho.2 _ (List.mem_of_getElem? hz)
theorem zero_len {t : Nat} {c : C} {r : List C} (hz : (ty t).z = c :: r) : (ty t).sz = (c :: r).length := by
  have hall : tyTab.all (fun t => t.z.isEmpty || Nat.beq t.z.length t.sz) = true := by kernel_rfl
  unfold ty at hz ⊢
  rw [List.getD_eq_getElem?_getD] at hz ⊢
  cases hx : tyTab[t]? with
  | none => simp [hx] at hz
  | some x =>
    simp only [hx, Option.getD_some] at hz ⊢
    have := List.all_eq_true.1 hall x (List.mem_of_getElem? hx)
    rw [hz] at this
    exact (Nat.eq_of_beq_eq_true (by simpa using this)).symm
theorem run_zeroValue {t : Nat} {c : C} {r : List C} (hz : (ty t).z = c :: r) : ∃ v, (∀ w, (zeroValue t).run P w = .ok v w) ∧ v.cells.size = (c :: r).length ∧
    ∀ (j : Nat) x u, (c :: r)[j]? = some x → v.cells[j]? = some u → cIs x u = true := by
  obtain ⟨_, i, v, hi, hv, _, _, h1, h2⟩ := zero_of hz
  exact ⟨v, fun w => by simp [zeroValue, typeInfo, hi, hv], h1, h2⟩
theorem st_cells {X : Ctx} {cs : List C} {cur : Array Value} {c : Nat} (hs : cur.size = cs.length) (h : ∀ (j : Nat) x u, cs[j]? = some x → cur[j]? = some u → Den X x u) : Cells X (.st cs) cur c :=
  ⟨by simp [B.size, hs], fun j hj => by
    have hj' : j < cs.length := hj
    have hj2 : j < cur.size := by omega
    exact ⟨cur[j], by simp [hj2], .st (c := cs[j]) (by simp [hj']) (h j _ _ (by simp [hj']) (by simp [hj2]))⟩, fun sz h => by cases h⟩
theorem allZ_get {k : IntKind} : ∀ {cs : List C}, allZ k cs = true → ∀ (j : Nat) x, cs[j]? = some x → x = .i k 0
  | [], _, j, x, h => by simp at h
  | d :: r, h, j, x, hj => by
    simp only [allZ, Bool.and_eq_true] at h
    cases j with
    | zero =>
      simp at hj; subst hj
      have := h.1
      unfold isZ at this
      split at this
      · rw [kEq_eq this]; rfl
      · cases this
    | succ j => simp at hj; exact allZ_get h.2 j x hj
theorem zeroB_ok {X : Ctx} {t : Nat} {b : B} (h : zeroB t = some b) (c : Nat) : ∃ v, (∀ w, (zeroValue t).run P w = .ok v w) ∧ Cells X b v.cells c ∧ ∀ m, ¬ b.Has m := by
  unfold zeroB at h
  split at h
  · cases h
  · rename_i x r hz
    obtain ⟨v, h1, h2, h3⟩ := run_zeroValue hz
    have st : Cells X (.st (x :: r)) v.cells c ∧ ∀ m, ¬ (B.st (x :: r)).Has m :=
      ⟨st_cells h2 fun j y u hy hu => cIs_den (h3 j y u hy hu), fun m hm => by
        cases hm with
        | st hm hh =>
          obtain ⟨j, hj⟩ := List.mem_iff_getElem?.1 hm
          have hlt : j < v.cells.size := by rw [h2]; exact (List.getElem?_eq_some_iff.1 hj).1
          exact cIs_no (h3 j _ v.cells[j] hj (by simp [hlt])) m hh⟩
    refine ⟨v, h1, ?_⟩
    split at h
    · split at h
      · rename_i k hk
        cases hz' : allZ k (x :: r) with
        | false => rw [hz'] at h; cases h
        | true =>
          rw [hz'] at h
          cases h
          have hsz : (ty t).sz = (x :: r).length := zero_len hz
          refine ⟨⟨by simp [B.size, h2, hsz], fun j hj => ?_, fun sz h => by cases h⟩, fun m hm => by cases hm⟩
          have hj' : j < (x :: r).length := by simpa [B.size, hsz] using hj
          have hj2 : j < v.cells.size := by omega
          have hc := h3 j (x :: r)[j] v.cells[j] (by simp) (by simp [hj2])
          have he := allZ_get hz' j (x :: r)[j] (by simp)
          rw [he] at hc
          have hden : Den X (.i k 0) v.cells[j] := cIs_den hc
          refine ⟨v.cells[j], by simp [hj2], ?_⟩
          generalize v.cells[j] = u at hden
          cases hden
          exact .ar (by simp [List.getElem?_replicate, hsz]; exact hj')
      · cases h; exact st
    · cases h; exact st
theorem fill_one {place : Nat → Option (Nat × Nat)} {cells : Array Value} {i off size : Nat} {v : Value} {rest : List (Nat × Value)} (hp : place i = some (off, size)) (hs : v.cells.size = size) (hle : off + size ≤ cells.size) :
    Instr.fill place cells ((i, v) :: rest) = Instr.fill place (cells.toList.take off ++ v.cells.toList ++ cells.toList.drop (off + v.cells.toList.length)).toArray rest := by
  have hf : ∀ (l : List Value) (k : Nat) (cs : Array Value), off + k + l.length ≤ cs.size →
      (l.zipIdx k).foldl (fun cs (c, j) => cs.setIfInBounds (off + j) c) cs = (cs.toList.take (off + k) ++ l ++ cs.toList.drop (off + k + l.length)).toArray := by
    intro l
    induction l with
    | nil => intro k cs _; simp
    | cons x l ih =>
      intro k cs hk
      simp only [List.length_cons] at hk
      simp only [List.zipIdx_cons, List.foldl_cons]
      rw [ih (k + 1) _ (by simp; omega)]
      have h1 : off + (k + 1) = off + k + 1 := by omega
      rw [h1]
      apply Array.ext_getElem?
      intro j
      rw [getElem?_splice _ l _ j (by simp; omega), getElem?_splice cs (x :: l) (off + k) j (by simp; omega)]
      simp only [List.length_cons]
      by_cases hj : j < off + k
      · rw [if_pos (by omega), if_pos hj, Array.getElem?_setIfInBounds_ne (by omega)]
      · rw [if_neg hj]
        by_cases hj2 : j = off + k
        · subst hj2
          have hlt : off + k < cs.size := by omega
          rw [if_pos (by omega), if_pos (by omega)]
          simp [hlt]
        · rw [if_neg (by omega)]
          by_cases hj3 : j < off + k + 1 + l.length
          · rw [if_pos hj3, if_pos (by omega)]
            obtain ⟨m, rfl⟩ : ∃ m, j = off + k + 1 + m := ⟨j - (off + k + 1), by omega⟩
            have e3 : off + k + 1 + m - (off + k + 1) = m := by omega
            have e4 : off + k + 1 + m - (off + k) = m + 1 := by omega
            rw [e3, e4]; rfl
          · rw [if_neg hj3, if_neg (by omega), Array.getElem?_setIfInBounds_ne (by omega)]
  have := hf v.cells.toList 0 cells (by simpa [hs] using hle)
  simp only [Nat.add_zero] at this
  simp only [Instr.fill, hp]
  rw [if_neg (by simp [hs]; omega)]
  congr 1
  rw [← this, ← Array.foldl_toList]
  simp
end Go.SX
