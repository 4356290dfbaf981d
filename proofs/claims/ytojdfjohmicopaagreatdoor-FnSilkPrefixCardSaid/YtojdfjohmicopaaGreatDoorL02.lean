/- A part of the proof: the SILK decoder of the given program, walked by an executor that is proved sound. No statement of the program is proved in this text. -/
import Derived.Test.YtojdfjohmicopaaGreatDoorL01
set_option linter.all false
set_option maxRecDepth 100000
namespace Go.SX
open Go
def R.sat (r : R) (Q : V → Prop) : Prop :=
  match r with
  | .no => True
  | .ok v => Q v
  | .cond φ v => φ → Q v
theorem R.sat_mono {r : R} {Q Q' : V → Prop} (h : r.sat Q) (hq : ∀ v, Q v → Q' v) : r.sat Q' := by
  cases r with
  | no => trivial
  | ok v => exact hq v h
  | cond φ v => exact fun p => hq v (h p)
def Yv (X : Ctx) (nx : Nat) (m : Sem Value) (v : V) : Prop := ∃ u, m.run P X.w = .ok u X.w ∧ VDen X v u ∧ ∀ nm, v.Has nm → nm < nx
theorem no_i {k n nm nx} : (V.c (.i k n)).Has nm → nm < nx := fun h => by cases h with | c h => exact h.elim
theorem no_b {x nm nx} : (V.c (.b x)).Has nm → nm < nx := fun h => by cases h with | c h => exact h.elim
theorem no_s {x nm nx} : (V.c (.s x)).Has nm → nm < nx := fun h => by cases h with | c h => exact h.elim
theorem no_ca {x nm nx} : (V.c (.ca x)).Has nm → nm < nx := fun h => by cases h with | c h => exact h.elim
theorem no_ra {x nm nx} : (V.c (.ra x)).Has nm → nm < nx := fun h => by cases h with | c h => exact h.elim
theorem no_is {k x nm nx} : (V.c (.is k x)).Has nm → nm < nx := fun h => by cases h with | c h => exact h.elim
theorem no_irs {k x nm nx} : (V.c (.irs k x)).Has nm → nm < nx := fun h => by cases h with | c h => exact h.elim
theorem binI_ok (X : Ctx) (nx : Nat) (op : BinOp) (k k' : IntKind) (x y : Int) (t : Nat) (xo yo : Operand) :
    (binI op k k' x y).sat (Yv X nx (do eqGuard op t xo yo (.int k x) (.int k' y); binOp op t (.int k x) (.int k' y))) := by
  by_cases hk : kEq k k' = true
  · obtain rfl := kEq_eq hk
    cases op <;> simp only [binI, hk, cond_true, R.sat, Yv]
    case shl => intro h; exact ⟨_, by simp [binOp, Op.shift, Int.not_lt.2 h]; rfl, .c .i, fun _=>no_i⟩
    case shr => intro h; exact ⟨_, by simp [binOp, Op.shift, Int.not_lt.2 h]; rfl, .c .i, fun _=>no_i⟩
    case quo => intro h; exact ⟨_, by simp [binOp, Op.intDiv, h]; rfl, .c .i, fun _=>no_i⟩
    case rem => intro h; exact ⟨_, by simp [binOp, Op.intDiv, h]; rfl, .c .i, fun _=>no_i⟩
    all_goals first
      | exact ⟨_, by simp [binOp, Op.intArith]; rfl, .c .i, fun _=>no_i⟩
      | exact ⟨_, by simp [intBits_and, intBits_or, intBits_xor, intBits_andNot, binOp]; rfl, .c .i, fun _=>no_i⟩
      | exact ⟨_, by simp [binOp, Op.intCmp]; rfl, .c .b, fun _=>no_b⟩
  · have hk' : kEq k k' = false := by simpa using hk
    cases op <;> simp only [binI, hk', cond_false, R.sat, Yv]
    case shl => intro h; exact ⟨_, by simp [binOp, Op.shift, Int.not_lt.2 h]; rfl, .c .i, fun _=>no_i⟩
    case shr => intro h; exact ⟨_, by simp [binOp, Op.shift, Int.not_lt.2 h]; rfl, .c .i, fun _=>no_i⟩
section
variable (w : World) {t : Nat}
theorem eqlIn_bool (d : Nat) (h : (ty t).d = .bool) (x y : Bool) : (Op.equalIn (d + 1) t (.bool x) (.bool y)).run P w = .ok (x == y) w := by simp [Op.equalIn, run_underlying (ty_bool h)]
theorem eql_bool (h : (ty t).d = .bool) (x y : Bool) : (Op.equal t (.bool x) (.bool y)).run P w = .ok (x == y) w := eqlIn_bool w 9999 h x y
theorem eqlIn_ptr (d : Nat) {e : Nat} (h : (ty t).d = .ptr e) (x : Option Addr) : (Op.equalIn (d + 1) t (.pointer x) (.pointer none)).run P w = .ok x.isNone w := by cases x <;> simp [Op.equalIn, run_underlying (ty_ptr h)]
theorem eql_ptr {e : Nat} (h : (ty t).d = .ptr e) (x : Option Addr) : (Op.equal t (.pointer x) (.pointer none)).run P w = .ok x.isNone w := eqlIn_ptr w 9999 h x
theorem eqlIn_slice (d : Nat) {e : Nat} (h : (ty t).d = .slice e) (x : Option Addr) (n m : Nat) : (Op.equalIn (d + 1) t (.slice x n m) (.slice none 0 0)).run P w = .ok x.isNone w := by cases x <;> simp [Op.equalIn, run_underlying (ty_slice h)]
theorem eql_slice {e : Nat} (h : (ty t).d = .slice e) (x : Option Addr) (n m : Nat) : (Op.equal t (.slice x n m) (.slice none 0 0)).run P w = .ok x.isNone w := eqlIn_slice w 9999 h x n m
theorem eqlIn_nilI (d : Nat) (h : (ty t).d = .iface) : (Op.equalIn (d + 1) t .nilIface .nilIface).run P w = .ok true w := by obtain ⟨ms, h⟩ := ty_iface h; simp [Op.equalIn, run_underlying h]
theorem eql_nilI (h : (ty t).d = .iface) : (Op.equal t .nilIface .nilIface).run P w = .ok true w := eqlIn_nilI w 9999 h
end
theorem isConst_of {y : Operand} (h : isConst y = true) : ∃ c, y = .const c := by cases y <;> simp [isConst] at h; exact ⟨_, rfl⟩
theorem binC_ok (X : Ctx) (nx : Nat) (op : BinOp) (t : Nat) (xo yo : Operand) (a b : C) (u v : Value) (ha : Den X a u) (hb : Den X b v) :
    (binC op t yo a b).sat (Yv X nx (do eqGuard op t xo yo u v; binOp op t u v)) := by
  unfold binC
  split
  · cases ha; cases hb; exact binI_ok ..
  · cases ha; cases hb
    split
    · rename_i h; exact ⟨_, by simp [eqGuard_at_bool]; simp only [binOp]; simp [eql_bool _ h], .c .b, fun _=>no_b⟩
    · rename_i h; exact ⟨_, by simp [eqGuard_at_bool]; simp only [binOp]; simp [eql_bool _ h], .c .b, fun _=>no_b⟩
    · trivial
  · rename_i x z
    cases ha; cases hb
    split
    · intro h; exact ⟨_, by simp [eqGuard_at_string]; simp only [binOp]; rw [run_string_add_sum (w := X.w) x z h], .c .s, fun _=>no_s⟩
    · exact ⟨_, by simp [eqGuard_at_string]; simp only [binOp]; simp [Op.stringOp], .c .b, fun _=>no_b⟩
    · exact ⟨_, by simp [eqGuard_at_string]; simp only [binOp]; simp [Op.stringOp], .c .b, fun _=>no_b⟩
    · trivial
  · cases ha; cases hb
    split
    · rename_i h; exact ⟨_, by simp [eqGuard_at_pointer]; simp only [binOp]; simp [eql_ptr _ h], .c .b, fun _=>no_b⟩
    · rename_i h; exact ⟨_, by simp [eqGuard_at_pointer]; simp only [binOp]; simp [eql_ptr _ h], .c .b, fun _=>no_b⟩
    · trivial
  · cases ha; cases hb
    split
    · rename_i h; exact ⟨_, by simp [eqGuard_at_pointer]; simp only [binOp]; simp [eql_ptr _ h], .c .b, fun _=>no_b⟩
    · rename_i h; exact ⟨_, by simp [eqGuard_at_pointer]; simp only [binOp]; simp [eql_ptr _ h], .c .b, fun _=>no_b⟩
    · trivial
  · cases ha; cases hb
    split
    · rename_i h; exact ⟨_, by simp [eqGuard_at_slice]; simp only [binOp]; simp [eql_slice _ h], .c .b, fun _=>no_b⟩
    · rename_i h; exact ⟨_, by simp [eqGuard_at_slice]; simp only [binOp]; simp [eql_slice _ h], .c .b, fun _=>no_b⟩
    · trivial
  · cases hb
    split
    · rename_i h; intro hl; cases ha with
      | sl _ => exact ⟨_, by simp [eqGuard_at_slice]; simp only [binOp]; simp [eql_slice _ h], .c .b, fun _=>no_b⟩
      | sl0 _ => exact absurd hl (Nat.lt_irrefl 0)
    · rename_i h; intro hl; cases ha with
      | sl _ => exact ⟨_, by simp [eqGuard_at_slice]; simp only [binOp]; simp [eql_slice _ h], .c .b, fun _=>no_b⟩
      | sl0 _ => exact absurd hl (Nat.lt_irrefl 0)
    · trivial
  · cases ha; cases hb
    split
    · rename_i hc h
      obtain ⟨c, rfl⟩ := isConst_of hc
      exact ⟨.bool false, by rw [eqGuard_nil_constR]; simp; simp only [binOp]; simp [eql_nilI _ h], .c .b, fun _=>no_b⟩
    · rename_i hc h
      obtain ⟨c, rfl⟩ := isConst_of hc
      exact ⟨.bool true, by rw [eqGuard_nil_constR]; simp; simp only [binOp]; simp [eql_nilI _ h], .c .b, fun _=>no_b⟩
    · trivial
  · trivial
theorem execOp_v {o : Oper} {a : Act} {X : Ctx} {nx : Nat} {v : V} {m : Sem Value} (h : Yv X nx m v) (ho : execOp a.eval o = (do pure (.value (← m)) : Sem Next)) :
    ∃ u, (execOp a.eval o).run P X.w = .ok (.value u) X.w ∧ VDen X v u ∧ ∀ nm, v.Has nm → nm < nx := by
  obtain ⟨u, h1, h2, h3⟩ := h
  exact ⟨u, by rw [ho]; simp [h1], h2, h3⟩
def Known (ρ : Operand → Option V) (a : Act) (X : Ctx) (nx : Nat) : Prop := ∀ x v, ρ x = some v → VDen X v (a.eval x) ∧ ∀ nm, v.Has nm → nm < nx
theorem asAgg_part (X : Ctx) (nx t off : Nat) (cs : List C) (cells : Array Value) (hs : cells.size = cs.length)
    (h : ∀ (i : Nat) c u, cs[i]? = some c → cells[i]? = some u → Den X c u) (hn : ∀ nm, (V.ag cs).Has nm → nm < nx) :
    (partOf t cs off).sat (Yv X nx (part t cells off)) := by
  have one : ∀ (hd : (ty t).d ≠ .other) (_ : (ty t).d.agg = false), (match cs[off]? with | some c => R.ok (.c c) | none => .no).sat (Yv X nx (part t cells off)) := by
    intro hd ha
    cases hc : cs[off]? with
    | none => trivial
    | some c =>
      have hlt : off < cells.size := by rw [hs]; exact (List.getElem?_eq_some_iff.1 hc).1
      refine ⟨cells[off], ?_, .c (h off c _ hc (by simp [hlt])), fun nm hm => hn nm ?_⟩
      · simp [part, run_isAgg hd, ha, hlt]
      · cases hm with | c hm => exact .ag (List.mem_of_getElem? hc) hm
  have many : ∀ (hd : (ty t).d ≠ .other) (_ : (ty t).d.agg = true), (bif Nat.ble (off + (ty t).sz) cs.length then R.ok (.ag ((cs.drop off).take (ty t).sz)) else .no).sat (Yv X nx (part t cells off)) := by
    intro hd ha
    cases hb : Nat.ble (off + (ty t).sz) cs.length with
    | false => trivial
    | true =>
      have hle := Nat.le_of_ble_eq_true hb
      refine ⟨.agg (cells.extract off (off + (ty t).sz)), by simp [part, run_isAgg hd, ha, ty_sz hd], .ag (by simp; omega) fun i c u hi hu => ?_, fun nm hm => hn nm ?_⟩
      · rw [List.getElem?_take] at hi
        split at hi
        · rw [List.getElem?_drop] at hi
          refine h (off + i) c u hi ?_
          rw [Array.getElem?_extract] at hu
          split at hu
          · exact hu
          · cases hu
        · cases hi
      · cases hm with | ag hm hc => exact .ag (List.mem_of_mem_drop (List.mem_of_mem_take hm)) hc
  unfold partOf
  cases hd : (ty t).d with
  | other => trivial
  | st fs => exact many (by rw [hd]; simp) (by rw [hd]; rfl)
  | arr n e => exact many (by rw [hd]; simp) (by rw [hd]; rfl)
  | _ => exact one (by rw [hd]; simp) (by rw [hd]; rfl)
theorem mulSz_ok {e off n o : Nat} (h : mulSz e off n = some o) : (ty e).d ≠ .other ∧ o = off + n * (ty e).sz := by
  unfold mulSz at h
  split at h
  · cases h
  · rename_i hs; cases h; exact ⟨ty_pos (by omega), by rw [hs]; simp⟩
  · rename_i s hs; cases h; exact ⟨ty_pos (by omega), by rw [hs]⟩
theorem add_some (b o n : Nat) : Addr.add ⟨b, o, none⟩ n = ⟨b, o + n, none⟩ := Addr.add_lit b o n
theorem no_p {m : Nat} {x : C} {o : Nat} {nx : Nat} (hx : x.Has m) (hn : ∀ nm, x.Has nm → nm < nx) : ∀ nm, (V.c (.p m o)).Has nm → nm < nx := fun nm h => by
  cases h with | c h => obtain rfl : m = nm := h; exact hn _ hx
theorem idxC_ok (X : Ctx) (nx t : Nat) (x : C) (k : IntKind) (n : Int) (u : Value) (hx : Den X x u) (hn : ∀ nm, x.Has nm → nm < nx) :
    (idxC t x n).sat (Yv X nx (Instr.indexAt t u (.int k n))) := by
  have sl : ∀ {e : Nat} (_ : (ty t).d = .slice e) (_ : (ty e).d ≠ .other) (b o len cap : Nat), 0 ≤ n ∧ n < len →
      (Instr.indexAt t (.slice (some ⟨b, o, none⟩) len cap) (.int k n)).run P X.w = .ok (.pointer (some ⟨b, o + n.toNat * (ty e).sz, none⟩)) X.w := by
    intro e hd he b o len cap h
    simp [Instr.indexAt, run_underlying (ty_slice hd), asIntOf, h, ty_sz he, add_some]
  have ge : ∀ {α : Type} (l : List α) (d : α), 0 ≤ n ∧ n < l.length → l[n.toNat]? = some (l.getD n.toNat d) := fun l d h => by
    have : n.toNat < l.length := by omega
    rw [List.getD_eq_getElem?_getD, List.getElem?_eq_getElem this]; rfl
  unfold idxC
  split
  · rename_i e nm off len cap hd
    split
    · rename_i o ho
      obtain ⟨he, rfl⟩ := mulSz_ok ho
      intro h
      cases hx with
      | sl hν => exact ⟨_, sl hd he _ _ _ _ h, .c (.p hν), no_p (x := .sl nm off len cap) rfl hn⟩
      | sl0 _ => simp at h; omega
    · trivial
  · rename_i e nm len hd
    split
    · rename_i o ho
      obtain ⟨he, rfl⟩ := mulSz_ok ho
      intro h
      cases hx with
      | osl hν hl => exact ⟨_, sl hd he _ _ _ _ h, .c (.p hν), no_p (x := .osl nm len) rfl hn⟩
      | osl0 _ => simp at h; omega
    · trivial
  · rename_i e k' xs hd
    cases hb : Nat.beq (ty e).sz 1 with
    | false => trivial
    | true =>
      have hs := Nat.eq_of_beq_eq_true hb
      intro h
      cases hx with
      | is hI _ hc => exact ⟨_, sl hd (ty_pos (by omega)) _ _ _ _ h, .c (.ca hI (by rw [hs, Nat.mul_one]; exact hc _ _ (ge xs 0 h)) (fun _ h => h) .i), fun _=>no_ca⟩
      | is0 => simp at h; omega
  · rename_i e xs hd
    cases hb : Nat.beq (ty e).sz 1 with
    | false => trivial
    | true =>
      have hs := Nat.eq_of_beq_eq_true hb
      intro h
      cases hx with
      | ibs hI _ hc => exact ⟨_, sl hd (ty_pos (by omega)) _ _ _ _ h, .c (.ca hI (by rw [hs, Nat.mul_one]; exact hc _ _ (ge xs false h)) (fun _ h => h) .b), fun _=>no_ca⟩
      | ibs0 => simp at h; omega
  · rename_i e k' xss hd
    cases hb : Nat.beq (ty e).sz 1 with
    | false => trivial
    | true =>
      have hs := Nat.eq_of_beq_eq_true hb
      intro h
      cases hx with
      | iss f hI _ hc hdn => exact ⟨_, sl hd (ty_pos (by omega)) _ _ _ _ h, .c (.ca hI (by rw [hs, Nat.mul_one]; exact hc _ _ (ge xss [] h)) (fun _ h => h) (hdn _ _ (ge xss [] h))), fun _=>no_ca⟩
      | iss0 => simp at h; omega
  · rename_i e sz rs hd
    cases hb : Nat.beq (ty e).sz (sz + 1) with
    | false => trivial
    | true =>
      have hs := Nat.eq_of_beq_eq_true hb
      intro h
      cases hx with
      | irs f hI _ hsz hc hcl hdn =>
        refine ⟨_, sl hd (ty_pos (by omega)) _ _ _ _ h, .c (.ra (f n.toNat) hI (fun i c hi => ?_) (fun i c hi => hcl _ _ i c (ge rs [] h) hi) (fun i c hi => hdn _ _ i c (ge rs [] h) hi)), fun _=>no_ra⟩
        rw [hs, Nat.add_assoc]
        exact hc _ _ i c (ge rs [] h) hi
      | irs0 => simp at h; omega
  · rename_i m e nm off hd
    split
    · rename_i o ho
      obtain ⟨he, rfl⟩ := mulSz_ok ho
      intro h
      cases hx with
      | p hν =>
        refine ⟨_, ?_, .c (.p hν), no_p (x := .p nm off) rfl hn⟩
        simp [Instr.indexAt, run_underlying (ty_arr hd), asIntOf, h, ty_sz he, add_some, Instr.sureAddr]
    · trivial
  · trivial
theorem bound_ok {ρ : Operand → Option V} {a : Act} {X : Ctx} {nx : Nat} (hk : Known ρ a X nx) {d l : Int} {lo : Option Operand} (h : bound ρ d lo = some l) :
    (lo = none ∧ l = d) ∨ ∃ x k, lo = some x ∧ a.eval x = .int k l := by
  unfold bound at h
  split at h
  · cases h; exact .inl ⟨rfl, rfl⟩
  · rename_i x
    split at h
    · rename_i k n hx
      cases h
      have := (hk x _ hx).1
      generalize hv : a.eval x = v at this
      cases this with | c h => cases h; exact .inr ⟨x, k, rfl, hv⟩
    · cases h
theorem run_bounds {ρ : Operand → Option V} {a : Act} {X : Ctx} {nx : Nat} (hk : Known ρ a X nx) {l h : Int} {lo hi : Option Operand} (isSlice : Bool) (len cap : Nat)
    (hl : bound ρ 0 lo = some l) (hh : bound ρ len hi = some h) (h0 : 0 ≤ l) (h1 : l ≤ h) (h2 : h ≤ cap) :
    (Instr.sliceBounds isSlice len cap (lo.map a.eval) (hi.map a.eval) none).run P X.w = .ok (l.toNat, h.toNat, cap) X.w := by
  have eh : (h.toNat : Int) = h := Int.toNat_of_nonneg (by omega)
  have hh' : 0 ≤ h := by omega
  rcases bound_ok hk hl with ⟨rfl, rfl⟩ | ⟨x, k, rfl, hx⟩ <;> rcases bound_ok hk hh with ⟨rfl, rfl⟩ | ⟨y, k', rfl, hy⟩ <;>
    simp [Instr.sliceBounds, run_sliceBound, *]
theorem sliceC_ok (a : Act) (X : Ctx) (nx t : Nat) (x : C) (lo hi : Option Operand) (ρ : Operand → Option V) (hk : Known ρ a X nx) (u : Value) (hx : Den X x u) (hn : ∀ nm, x.Has nm → nm < nx) :
    (sliceC t x lo hi ρ).sat (Yv X nx (Instr.sliceAt t u (lo.map a.eval) (hi.map a.eval) none)) := by
  unfold sliceC
  split
  · rename_i e nm off len cap hd
    split
    · rename_i l h hl hh
      split
      · split
        · trivial
        · rename_i s hs
          have he : (ty e).d ≠ .other := ty_pos (by omega)
          rintro ⟨h0, h1⟩
          have hl0 : l = 0 := by simp [bound] at hl; exact hl.symm
          subst hl0
          cases hx with
          | @sl _ _ _ _ bl c hν =>
            refine ⟨.slice (some ⟨bl, off, none⟩) h.toNat cap, ?_, .c (.sl hν), fun nm' h => ?_⟩
            · have hb := run_bounds hk true len cap hl hh (by omega) h0 h1
              simp only [Option.map_none] at hb
              simp [Instr.sliceAt, run_underlying (ty_slice hd), Instr.slice, hb, ty_sz he, add_some]
            · cases h with | c h => obtain rfl : nm = nm' := h; exact hn nm rfl
          | sl0 hν =>
            have : h = 0 := by simp at h1; omega
            subst this
            refine ⟨.slice none 0 0, ?_, .c (.sl0 hν), fun nm' h => ?_⟩
            · have hb := run_bounds hk true 0 0 hl hh (by omega) h0 h1
              simp only [Option.map_none] at hb
              simp [Instr.sliceAt, run_underlying (ty_slice hd), Instr.slice, hb, ty_sz he]
            · cases h with | c h => obtain rfl : nm = nm' := h; exact hn nm rfl
      · split
        · rename_i o ho
          obtain ⟨he, rfl⟩ := mulSz_ok ho
          rintro ⟨h0, h1, h2, h3⟩
          have hb := run_bounds hk true len cap hl hh h0 h1 h2
          simp only [Option.map_some] at hb
          cases hx with
          | @sl _ _ _ _ bl c hν =>
            refine ⟨.slice (some ⟨bl, off + l.toNat * (ty e).sz, none⟩) (h.toNat - l.toNat) (cap - l.toNat), ?_, .c (.sl hν), fun nm' h => ?_⟩
            · have hne : cap ≠ l.toNat := by omega
              simp [Instr.sliceAt, run_underlying (ty_slice hd), Instr.slice, hb, ty_sz he, add_some, hne]
            · cases h with | c h => obtain rfl : nm = nm' := h; exact hn nm rfl
          | sl0 hν => simp at h3; omega
        · trivial
    · trivial
  · rename_i e k xs hd
    cases hb : Nat.beq (ty e).sz 1 with
    | false => trivial
    | true =>
      have hs := Nat.eq_of_beq_eq_true hb
      simp only [cond_true]
      split
      · rename_i l h hl hh
        rintro ⟨h0, h1, h2⟩
        cases hx with
        | @is _ _ bl off cap hI hle hc =>
          have hlen : ((xs.take h.toNat).drop l.toNat).length = h.toNat - l.toNat := by simp; omega
          have hbd := run_bounds hk true xs.length cap hl hh h0 h1 (by omega)
          refine ⟨.slice (some ⟨bl, if cap = l.toNat then off else off + l.toNat, none⟩) ((xs.take h.toNat).drop l.toNat).length (cap - l.toNat), ?_, .c (.is hI (by rw [hlen]; omega) fun j n hj => ?_), fun _=>no_is⟩
          · rw [hlen]
            simp [Instr.sliceAt, run_underlying (ty_slice hd), Instr.slice, hbd, ty_sz (ty_pos (t := e) (by omega)), add_some, hs]
            split <;> rfl
          · rw [List.getElem?_drop, List.getElem?_take] at hj
            split at hj
            · have hlt : l.toNat + j < xs.length := (List.getElem?_eq_some_iff.1 hj).1
              rw [if_neg (by omega), Nat.add_assoc]
              exact hc _ _ hj
            · cases hj
        | is0 =>
          have e1 : h = 0 := by simp at h2; omega
          have e2 : l = 0 := by omega
          subst e1; subst e2
          have hbd := run_bounds hk true 0 0 hl hh (by omega) h0 h1
          refine ⟨.slice none 0 0, ?_, .c .is0, fun _=>no_is⟩
          simp [Instr.sliceAt, run_underlying (ty_slice hd), Instr.slice, hbd, ty_sz (ty_pos (t := e) (by omega))]
      · trivial
  · rename_i e sz rs hd
    cases hb : Nat.beq (ty e).sz (sz + 1) with
    | false => trivial
    | true =>
      have hs := Nat.eq_of_beq_eq_true hb
      simp only [cond_true]
      split
      · rename_i l h hl hh
        rintro ⟨h0, h1, h2⟩
        cases hx with
        | @irs _ _ bl off cap f hI hle hsz hc hcl hdn =>
          have hlen : ((rs.take h.toNat).drop l.toNat).length = h.toNat - l.toNat := by simp; omega
          have hbd := run_bounds hk true rs.length cap hl hh h0 h1 (by omega)
          have hget : ∀ (j : Nat) cs, ((rs.take h.toNat).drop l.toNat)[j]? = some cs → rs[l.toNat + j]? = some cs := fun j cs hj => by
            rw [List.getElem?_drop, List.getElem?_take] at hj
            split at hj
            · exact hj
            · cases hj
          refine ⟨.slice (some ⟨bl, if cap = l.toNat then off else off + l.toNat * (sz + 1), none⟩) ((rs.take h.toNat).drop l.toNat).length (cap - l.toNat), ?_, .c (.irs (fun j i => f (l.toNat + j) i) hI (by rw [hlen]; omega) (fun j cs hj => hsz _ _ (hget j cs hj)) (fun j cs i c hj hi => ?_) (fun j cs i c hj hi => hcl _ _ _ _ (hget j cs hj) hi) (fun j cs i c hj hi => hdn _ _ _ _ (hget j cs hj) hi)), fun _=>no_irs⟩
          · rw [hlen]
            simp [Instr.sliceAt, run_underlying (ty_slice hd), Instr.slice, hbd, ty_sz (ty_pos (t := e) (by omega)), add_some, hs]
            split <;> rfl
          · have hlt : l.toNat + j < rs.length := (List.getElem?_eq_some_iff.1 (hget j cs hj)).1
            have := hc _ _ i c (hget j cs hj) hi
            rw [if_neg (by omega)]
            rw [Nat.add_mul] at this
            rw [show off + l.toNat * (sz + 1) + (j * (sz + 1) + i) = off + (l.toNat * (sz + 1) + j * (sz + 1) + i) by omega]
            exact this
        | irs0 =>
          have e1 : h = 0 := by simp at h2; omega
          have e2 : l = 0 := by omega
          subst e1; subst e2
          have hbd := run_bounds hk true 0 0 hl hh (by omega) h0 h1
          refine ⟨.slice none 0 0, ?_, .c .irs0, fun _=>no_irs⟩
          simp [Instr.sliceAt, run_underlying (ty_slice hd), Instr.slice, hbd, ty_sz (ty_pos (t := e) (by omega))]
      · trivial
  · rename_i m e nm off hd
    split
    · rename_i l h hl hh
      split
      · split
        · trivial
        · rename_i s hs
          have he : (ty e).d ≠ .other := ty_pos (by omega)
          rintro ⟨h0, h1⟩
          have hl0 : l = 0 := by simp [bound] at hl; exact hl.symm
          subst hl0
          cases hx with
          | @p _ _ bl c hν =>
            refine ⟨.slice (some ⟨bl, off, none⟩) h.toNat m, ?_, .c (.sl hν), fun nm' h => ?_⟩
            · have hb := run_bounds hk false m m hl hh (by omega) h0 h1
              simp only [Option.map_none] at hb
              simp [Instr.sliceAt, run_underlying (ty_arr hd), Instr.sureAddr, hb, ty_sz he, add_some]
            · cases h with | c h => obtain rfl : nm = nm' := h; exact hn nm rfl
      · split
        · rename_i o ho
          obtain ⟨he, rfl⟩ := mulSz_ok ho
          rintro ⟨h0, h1, h2, h3⟩
          have hb := run_bounds hk false m m hl hh h0 h1 h2
          simp only [Option.map_some] at hb
          cases hx with
          | @p _ _ bl c hν =>
            refine ⟨.slice (some ⟨bl, off + l.toNat * (ty e).sz, none⟩) (h.toNat - l.toNat) (m - l.toNat), ?_, .c (.sl hν), fun nm' h => ?_⟩
            · have hne : m ≠ l.toNat := by omega
              simp [Instr.sliceAt, run_underlying (ty_arr hd), Instr.sureAddr, hb, ty_sz he, add_some, hne]
            · cases h with | c h => obtain rfl : nm = nm' := h; exact hn nm rfl
        · trivial
    · trivial
  · rename_i s hd
    split
    · rename_i l h hl hh
      rintro ⟨h0, h1, h2⟩
      have hb := run_bounds hk false s.size s.size hl hh h0 h1 h2
      cases hx
      exact ⟨_, by simp [Instr.sliceAt, run_underlying (ty_str hd), Instr.slice, hb], .c .s, fun _=>no_s⟩
    · trivial
  · trivial
theorem lenC_ok {t : Nat} {x : C} {n : Int} {X : Ctx} {u : Value} (h : lenC t x = some n) (hx : Den X x u) (ty' : TypeId) : (Builtin.len_ #[t] ty' #[u]).run P X.w = .ok (.int .i64 n) X.w := by
  unfold lenC at h
  split at h <;> try (cases h; done)
  all_goals
    split at h <;> cases h
    rename_i hd
    cases hx <;> first
      | simp [Builtin.len_, run_underlying (ty_slice hd), goInt]
      | simp [Builtin.len_, run_underlying (ty_str hd), goInt]
theorem builtinV_ok (X : Ctx) (nx : Nat) (b : Builtin) (ts : Array TypeId) (ty' : TypeId) (cs : Array Bool) (vs : List V) (us : List Value)
    (h : us.length = vs.length) (hd : ∀ (i : Nat) v u, vs[i]? = some v → us[i]? = some u → VDen X v u) :
    (builtinV b ts vs).sat (fun v => ∃ u, (builtin b ts ty' cs us.toArray).run P X.w = .ok (.value u) X.w ∧ VDen X v u ∧ ∀ nm, v.Has nm → nm < nx) := by
  unfold builtinV
  split
  · rename_i t x hts
    match us, h with
    | [u], _ =>
      split
      · rename_i n hl
        have := hd 0 _ _ rfl rfl
        cases this with
        | c hx =>
          have ht : ts = #[t] := by rw [← Array.toArray_toList (xs := ts), hts]
          exact ⟨.int .i64 n, by simp [builtin, ht, lenC_ok hl hx], .c .i, fun _=>no_i⟩
      · trivial
  · rename_i t nm off len cap hts
    match us, h with
    | [u], _ =>
      split
      · rename_i e he
        have := hd 0 _ _ rfl rfl
        have ht : ts = #[t] := by rw [← Array.toArray_toList (xs := ts), hts]
        cases this with
        | c hx => cases hx <;> exact ⟨_, by simp [builtin, ht, Builtin.cap_, run_underlying (ty_slice he), goInt], .c .i, fun _=>no_i⟩
      · trivial
  · rename_i t hts
    match us, h with
    | [u], _ =>
      split
      · rename_i e he
        have := hd 0 _ _ rfl rfl
        have ht : ts = #[t] := by rw [← Array.toArray_toList (xs := ts), hts]
        cases this with
        | c hx => cases hx; exact ⟨_, by simp [builtin, ht, Builtin.cap_, run_underlying (ty_slice he), goInt], .c .i, fun _=>no_i⟩
      · trivial
  · match us, h with
    | [u, v], _ =>
      have h0 := hd 0 _ _ rfl rfl
      have h1 := hd 1 _ _ rfl rfl
      cases h0 with | c h0 => cases h1 with | c h1 => cases h0; cases h1; exact ⟨_, by simp [builtin, Builtin.min_, Builtin.min2], .c .i, fun _=>no_i⟩
  · match us, h with
    | [u, v], _ =>
      have h0 := hd 0 _ _ rfl rfl
      have h1 := hd 1 _ _ rfl rfl
      cases h0 with | c h0 => cases h1 with | c h1 => cases h0; cases h1; exact ⟨_, by simp [builtin, Builtin.max_, Builtin.max2], .c .i, fun _=>no_i⟩
  · trivial
theorem rds_ok {ρ : Operand → Option V} {a : Act} {X : Ctx} {nx : Nat} (hk : Known ρ a X nx) : ∀ (xs : List Operand) (vs : List V), rds ρ xs = some vs →
    (xs.map a.eval).length = vs.length ∧ (∀ (i : Nat) v u, vs[i]? = some v → (xs.map a.eval)[i]? = some u → VDen X v u) ∧ ∀ v ∈ vs, ∀ nm, v.Has nm → nm < nx
  | [], vs, h => by simp [rds] at h; subst h; simp
  | x :: xs, vs, h => by
    unfold rds at h
    split at h
    · rename_i v hv
      split at h
      · rename_i vs' hvs
        cases h
        obtain ⟨h1, h2, h3⟩ := rds_ok hk xs vs' hvs
        refine ⟨by simpa using h1, fun i w u hi hu => ?_, fun w hw => ?_⟩
        · cases i with
          | zero => simp at hi hu; subst hi; subst hu; exact (hk x v hv).1
          | succ i => simp at hi hu; exact h2 i w u hi (by simpa using hu)
        · cases hw with
          | head => exact (hk x v hv).2
          | tail _ hw => exact h3 w hw
      · cases h
    · cases h
def Yo (o : Oper) (a : Act) (X : Ctx) (nx : Nat) (v : V) : Prop := ∃ u, (execOp a.eval o).run P X.w = .ok (.value u) X.w ∧ VDen X v u ∧ ∀ nm, v.Has nm → nm < nx
theorem Yo_of {o : Oper} {a : Act} {X : Ctx} {nx : Nat} {r : R} {m : Sem Value} (h : r.sat (Yv X nx m)) (ho : execOp a.eval o = (do pure (.value (← m)) : Sem Next)) : r.sat (Yo o a X nx) :=
  R.sat_mono h fun _ hv => execOp_v hv ho
theorem pureV_ok (o : Oper) (a : Act) (X : Ctx) (nx : Nat) (ρ : Operand → Option V) (hk : Known ρ a X nx) : (pureV o.op ρ).sat (Yo o a X nx) := by
  obtain ⟨dst, op, type, pos, after, guard⟩ := o
  have mv : ∀ (x : Operand), (match ρ x with | some v => R.ok v | none => .no).sat (fun v => ∃ u, u = a.eval x ∧ VDen X v u ∧ ∀ nm, v.Has nm → nm < nx) := fun x => by
    cases hx : ρ x with
    | none => trivial
    | some v => exact ⟨_, rfl, hk x v hx⟩
  have one : ∀ {x : Operand} {c : C}, ρ x = some (.c c) → Den X c (a.eval x) ∧ ∀ nm, c.Has nm → nm < nx := fun {x c} h => by
    obtain ⟨h1, h2⟩ := hk x _ h
    cases h1 with | c h1 => exact ⟨h1, fun nm hn => h2 nm (.c hn)⟩
  dsimp only
  unfold pureV
  split
  · rename_i x; exact R.sat_mono (mv x) fun v ⟨u, hu, h⟩ => ⟨u, by simp [execOp, hu], h⟩
  · rename_i x; exact R.sat_mono (mv x) fun v ⟨u, hu, h⟩ => ⟨u, by simp [execOp, hu], h⟩
  · rename_i c x y
    split
    · rename_i b hc
      have h1 := (one hc).1
      generalize hv : a.eval c = v at h1
      cases h1
      split
      · exact R.sat_mono (mv x) fun v ⟨u, hu, h⟩ => ⟨u, by simp [execOp, hv, asBool, hu], h⟩
      · exact R.sat_mono (mv y) fun v ⟨u, hu, h⟩ => ⟨u, by simp [execOp, hv, asBool, hu], h⟩
    · trivial
  · rename_i x
    split
    · rename_i nm off hx
      obtain ⟨h1, h2⟩ := one hx
      generalize hv : a.eval x = v at h1
      cases h1 with | p h => exact ⟨_, by simp [execOp, hv], .c (.p h), fun nm' h' => by cases h' with | c h' => exact h2 nm' h'⟩
    · rename_i c hx
      obtain ⟨h1, h2⟩ := one hx
      generalize hv : a.eval x = v at h1
      cases h1 with | ca hI hc hn hd => exact ⟨_, by simp [execOp, hv], .c (.ca hI hc hn hd), fun _=>no_ca⟩
    · rename_i c hx
      obtain ⟨h1, h2⟩ := one hx
      generalize hv : a.eval x = v at h1
      cases h1 with | ra f hI hc hn hd => exact ⟨_, by simp [execOp, hv], .c (.ra f hI hc hn hd), fun _=>no_ra⟩
    · trivial
  · rename_i op t x y yt
    split
    · rename_i p hx
      split
      · rename_i q hy
        exact Yo_of (binC_ok X nx op t x y p q _ _ (one hx).1 (one hy).1) rfl
      · trivial
    · trivial
  · rename_i op t x
    split
    · rename_i k n hx
      split
      · have h1 := (one hx).1
        generalize hv : a.eval x = v at h1
        cases h1; exact ⟨_, by simp [execOp, hv, Op.unary, Op.intArith], .c .i, fun _=>no_i⟩
      · trivial
    · rename_i b hx
      split
      · have h1 := (one hx).1
        generalize hv : a.eval x = v at h1
        cases h1; exact ⟨_, by simp [execOp, hv, Op.unary], .c .b, fun _=>no_b⟩
      · trivial
    · trivial
  · rename_i src dst x
    split
    · rename_i k n hx
      split
      · rename_i k1 k2 hs hd
        have h1 := (one hx).1
        generalize hv : a.eval x = v at h1
        cases h1
        exact ⟨_, by simp [execOp, hv, convert, run_underlying (ty_int hs), run_underlying (ty_int hd), Conv.intToInt], .c .i, fun _=>no_i⟩
      · trivial
    · trivial
  · rename_i s x f
    split
    · rename_i o t hf
      unfold fieldOf at hf
      split at hf
      · rename_i fs hd
        obtain ⟨fs', hu, hfs⟩ := ty_st hd
        obtain ⟨f', hf', ho, ht⟩ := hfs f o t hf
        split
        · trivial
        · rename_i sz hsz
          have htd : (ty t).d ≠ .other := ty_pos (by omega)
          have hz : (sizeOf f'.type).run P X.w = .ok (sz + 1) X.w := by rw [ht, ty_sz htd, hsz]
          have run : ∀ b o', (Instr.fieldAt s (.pointer (some ⟨b, o', none⟩)) f).run P X.w = .ok (.pointer (some ⟨b, o' + o, none⟩)) X.w := fun b o' => by
            simp [Instr.fieldAt, run_underlying hu, hf', Instr.sureAddr, fieldPlace, hz, ho, add_some]
          split
          · rename_i nm off hx
            obtain ⟨h1, h2⟩ := one hx
            generalize hv : a.eval x = v at h1
            cases h1 with | p h => exact ⟨_, by simp [execOp, hv, run], .c (.p h), no_p (x := .p nm off) rfl h2⟩
          · rename_i cs hx
            split
            · rename_i c hag hc
              obtain ⟨h1, h2⟩ := one hx
              generalize hv : a.eval x = v at h1
              cases h1 with | ra g hI hcs hns hds => exact ⟨_, by simp [execOp, hv, run], .c (.ca hI (hcs _ _ hc) (hns _ _ hc) (hds _ _ hc)), fun _=>no_ca⟩
            · trivial
          · trivial
      · cases hf
    · trivial
  · rename_i s x f
    split
    · rename_i o t hf
      unfold fieldOf at hf
      split at hf
      · rename_i fs hd
        obtain ⟨fs', hu, hfs⟩ := ty_st hd
        obtain ⟨f', hf', ho, ht⟩ := hfs f o t hf
        split
        · rename_i cs hx
          obtain ⟨h1, h2⟩ := hk x _ hx
          generalize hv : a.eval x = v at h1
          cases h1 with
          | @ag _ cells hs h =>
            refine R.sat_mono (asAgg_part X nx t o cs cells hs h h2) fun v ⟨u, hu', h⟩ => ⟨u, ?_, h⟩
            simp [execOp, hv, Instr.field, run_underlying hu, hf', asAgg, ho, ht, hu']
        · trivial
      · cases hf
    · trivial
  · rename_i t x ix
    split
    · rename_i p hx
      split
      · rename_i k n hi
        obtain ⟨h1, h2⟩ := one hx
        have h3 := (one hi).1
        generalize hv : a.eval ix = v at h3
        cases h3
        exact Yo_of (idxC_ok X nx t p k n _ h1 h2) (by simp [execOp, hv])
      · trivial
    · trivial
  · rename_i t x ix
    split
    · rename_i s hx
      split
      · rename_i k n hi
        split
        · rename_i hd
          rintro ⟨h0, hlt⟩
          have h1 := (one hx).1
          have h3 := (one hi).1
          generalize hv : a.eval ix = v at h3
          generalize hw : a.eval x = w at h1
          cases h3; cases h1
          have hsz : n.toNat < s.data.size := by have : s.size = s.data.size := rfl; omega
          refine ⟨.int .u8 (s.data.getD n.toNat 0).toNat, ?_, .c .i, fun _=>no_i⟩
          have hg : s[n.toNat]? = some (s.data.getD n.toNat 0) := by
            show (if h : n.toNat < s.size then some s[n.toNat] else none) = _
            rw [dif_pos (by exact hsz)]
            rw [Array.getD_eq_getD_getElem?, Array.getElem?_eq_getElem hsz]
            rfl
          simp [execOp, hv, hw, Instr.index, asIntOf, run_underlying (ty_str hd), h0, hg]
        · trivial
      · trivial
    · trivial
  · rename_i t x lo hi
    split
    · rename_i p hx
      obtain ⟨h1, h2⟩ := one hx
      exact Yo_of (sliceC_ok a X nx t p lo hi ρ hk _ h1 h2) rfl
    · trivial
  · rename_i x i
    split
    · rename_i vs hx
      split
      · rename_i v hi
        obtain ⟨h1, h2⟩ := hk x _ hx
        generalize hv : a.eval x = w at h1
        cases h1 with
        | @tu _ us hs h =>
          have hlt : i < us.size := by rw [hs]; exact (List.getElem?_eq_some_iff.1 hi).1
          exact ⟨us[i], by simp [execOp, hv, Instr.extract, hlt], h i v _ hi (by simp [hlt]), fun nm hn => h2 nm (.tu (List.mem_of_getElem? hi) hn)⟩
      · trivial
    · trivial
  · rename_i t x
    split
    · rename_i c hx
      split
      · trivial
      · rename_i hag hno
        have hd : (ty t).d ≠ .other := fun e => hno e
        have h1 := (one hx).1
        generalize hv : a.eval x = w at h1
        cases h1 with
        | ca hI hc hn hdn =>
          exact ⟨_, by simp [execOp, hv, Instr.loadAt, Instr.sureAddr, loadVar, run_isAgg hd, hag, hc], .c hdn, fun nm h => by cases h with | c h => exact (hn nm h).elim⟩
      · trivial
    · rename_i cs hx
      split
      · rename_i hag
        have hd : (ty t).d ≠ .other := fun e => by rw [e] at hag; cases hag
        intro hlen
        have h1 := (one hx).1
        generalize hv : a.eval x = w at h1
        cases h1 with
        | @ra _ bl off f hI hc hn hdn =>
          have hl : (loadCells ⟨bl, off, none⟩ cs.length).run P X.w = .ok ((List.range cs.length).map f).toArray X.w := by
            have := run_loadCells_list (P := P) (w := X.w) ⟨bl, off, none⟩ ((List.range cs.length).map f) (fun j v hj => by
              rw [add_some]
              rw [List.getElem?_map] at hj
              by_cases hlt : j < cs.length
              · simp [hlt] at hj; subst hj
                exact hc j _ (List.getElem?_eq_getElem hlt)
              · rw [List.getElem?_eq_none (by simpa using hlt)] at hj; simp at hj)
            simpa using this
          refine ⟨.agg ((List.range cs.length).map f).toArray, ?_, .ag (by simp) fun i c u hi hu => ?_, fun nm h => ?_⟩
          · simp [execOp, hv, Instr.loadAt, Instr.sureAddr, loadVar, run_isAgg hd, hag, ty_sz hd, ← hlen, hl]
          · have hlt : i < cs.length := (List.getElem?_eq_some_iff.1 hi).1
            simp [hlt] at hu
            subst hu
            exact hdn i c hi
          · cases h with
            | ag hm hc' =>
              obtain ⟨i, hi⟩ := List.mem_iff_getElem?.1 hm
              exact (hn i _ hi nm hc').elim
      · trivial
    · trivial
  · rename_i c
    split
    · rename_i b hb
      split
      · rename_i vs hvs
        obtain ⟨h1, h2, h3⟩ := rds_ok hk _ _ hvs
        refine R.sat_mono (builtinV_ok X nx b c.argTypes type (c.args.map fun | .const _ => true | _ => false) vs _ h1 h2) fun v ⟨u, hu, h⟩ => ⟨u, ?_, h⟩
        have he : (c.args.map a.eval) = (c.args.toList.map a.eval).toArray := by rw [← Array.toList_map, Array.toArray_toList]
        rw [← he] at hu
        simp only [execOp, resolve, hb, invoke, Sem.run_bind, Sem.run_pure, Result.andThen_ok]
        exact hu
      · trivial
    · trivial
  · trivial
end Go.SX
