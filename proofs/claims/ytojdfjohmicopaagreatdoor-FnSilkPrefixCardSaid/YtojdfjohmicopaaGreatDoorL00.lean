/- A part of the proof: the SILK decoder of the given program, walked by an executor that is proved sound. No statement of the program is proved in this text. -/
import Derived.Test.YtojdfjohmicopaaGreatDoorProg
import Derived.Lib.ItoaNum
import Derived.WalkKit
set_option linter.all false
set_option maxRecDepth 100000
namespace Go.SX
open Go
def GL : List (Nat × Array Value) := [(1, (Lib.pow10Tab.map fun z => Value.int .u64 z).toArray)]
inductive C where
  | i (k : IntKind) (n : Int)
  | b (x : Bool)
  | s (x : ByteArray)
  | p (nm off : Nat)
  | np
  | sl (nm off len cap : Nat)
  | osl (nm len : Nat)
  | nsl
  | kv (x : Value)
  | is (k : IntKind) (xs : List Int)
  | ibs (xs : List Bool)
  | iss (k : IntKind) (xss : List (List Int))
  | irs (sz : Nat) (rs : List (List C))
  | ca (c : C)
  | ra (cs : List C)
  | any
structure Ctx where
  ν : Nat → Option (Nat × Nat)
  I : Nat → Prop
  w : World
def C.Has : C → Nat → Prop
  | .p nm _, m | .sl nm _ _ _, m | .osl nm _, m => nm = m
  | _, _ => False
inductive Den : Ctx → C → Value → Prop
  | i {X k n} : Den X (.i k n) (.int k n)
  | b {X x} : Den X (.b x) (.bool x)
  | s {X x} : Den X (.s x) (.string x)
  | p {X nm off bl c} (h : X.ν nm = some (bl, c)) : Den X (.p nm off) (.pointer (some ⟨bl, off, none⟩))
  | np {X} : Den X .np (.pointer none)
  | sl {X nm off len cap bl c} (h : X.ν nm = some (bl, c)) : Den X (.sl nm off len cap) (.slice (some ⟨bl, off, none⟩) len cap)
  | sl0 {X nm} (h : X.ν nm = none) : Den X (.sl nm 0 0 0) (.slice none 0 0)
  | osl {X nm len bl c} (h : X.ν nm = some (bl, c)) (hl : len ≤ c) : Den X (.osl nm len) (.slice (some ⟨bl, 0, none⟩) len c)
  | osl0 {X nm} (h : X.ν nm = none) : Den X (.osl nm 0) (.slice none 0 0)
  | nsl {X} : Den X .nsl (.slice none 0 0)
  | any {X x} : Den X .any x
  | kv {X x} : Den X (.kv x) x
  | is0 {X k} : Den X (.is k []) (.slice none 0 0)
  | is {X k} {xs : List Int} {bl off cap} (hI : X.I bl) (hle : xs.length ≤ cap) (h : ∀ (j : Nat) n, xs[j]? = some n → X.w.cell? ⟨bl, off + j, none⟩ = some (.int k n)) :
      Den X (.is k xs) (.slice (some ⟨bl, off, none⟩) xs.length cap)
  | ibs0 {X} : Den X (.ibs []) (.slice none 0 0)
  | ibs {X} {xs : List Bool} {bl off cap} (hI : X.I bl) (hle : xs.length ≤ cap) (h : ∀ (j : Nat) x, xs[j]? = some x → X.w.cell? ⟨bl, off + j, none⟩ = some (.bool x)) :
      Den X (.ibs xs) (.slice (some ⟨bl, off, none⟩) xs.length cap)
  | iss0 {X k} : Den X (.iss k []) (.slice none 0 0)
  | iss {X k} {xss : List (List Int)} {bl off cap} (u : Nat → Value) (hI : X.I bl) (hle : xss.length ≤ cap) (hc : ∀ (j : Nat) xs, xss[j]? = some xs → X.w.cell? ⟨bl, off + j, none⟩ = some (u j))
      (hd : ∀ (j : Nat) xs, xss[j]? = some xs → Den X (.is k xs) (u j)) : Den X (.iss k xss) (.slice (some ⟨bl, off, none⟩) xss.length cap)
  | irs0 {X sz} : Den X (.irs sz []) (.slice none 0 0)
  | irs {X sz} {rs : List (List C)} {bl off cap} (u : Nat → Nat → Value) (hI : X.I bl) (hle : rs.length ≤ cap) (hsz : ∀ (j : Nat) (cs : List C), rs[j]? = some cs → cs.length = sz)
      (hc : ∀ (j : Nat) (cs : List C) (i : Nat) c, rs[j]? = some cs → cs[i]? = some c → X.w.cell? ⟨bl, off + (j * sz + i), none⟩ = some (u j i))
      (hn : ∀ (j : Nat) (cs : List C) (i : Nat) c, rs[j]? = some cs → cs[i]? = some c → ∀ nm, ¬ c.Has nm)
      (hd : ∀ (j : Nat) (cs : List C) (i : Nat) c, rs[j]? = some cs → cs[i]? = some c → Den X c (u j i)) : Den X (.irs sz rs) (.slice (some ⟨bl, off, none⟩) rs.length cap)
  | ca {X c bl off u} (hI : X.I bl) (hc : X.w.cell? ⟨bl, off, none⟩ = some u) (hn : ∀ nm, ¬ c.Has nm) (hd : Den X c u) : Den X (.ca c) (.pointer (some ⟨bl, off, none⟩))
  | ra {X} {cs : List C} {bl off} (u : Nat → Value) (hI : X.I bl) (hc : ∀ (i : Nat) c, cs[i]? = some c → X.w.cell? ⟨bl, off + i, none⟩ = some (u i))
      (hn : ∀ (i : Nat) c, cs[i]? = some c → ∀ nm, ¬ c.Has nm) (hd : ∀ (i : Nat) c, cs[i]? = some c → Den X c (u i)) : Den X (.ra cs) (.pointer (some ⟨bl, off, none⟩))
theorem Den.mono {X : Ctx} {c : C} {v : Value} (h : Den X c v) : ∀ X' : Ctx, (∀ nm, c.Has nm → X'.ν nm = X.ν nm) → (∀ b, X.I b → X'.I b) →
    (∀ a u, X.I a.block → X.w.cell? a = some u → X'.w.cell? a = some u) → Den X' c v := by
  induction h with
  | i => exact fun _ _ _ _ => .i
  | b => exact fun _ _ _ _ => .b
  | s => exact fun _ _ _ _ => .s
  | p h => exact fun _ hn _ _ => .p ((hn _ rfl).trans h)
  | np => exact fun _ _ _ _ => .np
  | sl h => exact fun _ hn _ _ => .sl ((hn _ rfl).trans h)
  | sl0 h => exact fun _ hn _ _ => .sl0 ((hn _ rfl).trans h)
  | osl h hl => exact fun _ hn _ _ => .osl ((hn _ rfl).trans h) hl
  | osl0 h => exact fun _ hn _ _ => .osl0 ((hn _ rfl).trans h)
  | nsl => exact fun _ _ _ _ => .nsl
  | any => exact fun _ _ _ _ => .any
  | kv => exact fun _ _ _ _ => .kv
  | is0 => exact fun _ _ _ _ => .is0
  | is hI hle h => exact fun _ _ hI' hc => .is (hI' _ hI) hle fun j n hj => hc _ _ hI (h j n hj)
  | ibs0 => exact fun _ _ _ _ => .ibs0
  | ibs hI hle h => exact fun _ _ hI' hc => .ibs (hI' _ hI) hle fun j n hj => hc _ _ hI (h j n hj)
  | iss0 => exact fun _ _ _ _ => .iss0
  | iss u hI hle hc _ ih => exact fun X' _ hI' hc' => .iss u (hI' _ hI) hle (fun j xs hj => hc' _ _ hI (hc j xs hj)) fun j xs hj => ih j xs hj X' (fun _ h => h.elim) hI' hc'
  | irs0 => exact fun _ _ _ _ => .irs0
  | irs u hI hle hsz hc hn _ ih => exact fun X' _ hI' hc' => .irs u (hI' _ hI) hle hsz (fun j cs i c hj hi => hc' _ _ hI (hc j cs i c hj hi)) hn fun j cs i c hj hi => ih j cs i c hj hi X' (fun nm h => (hn j cs i c hj hi nm h).elim) hI' hc'
  | ca hI hc hn _ ih => exact fun X' _ hI' hc' => .ca (hI' _ hI) (hc' _ _ hI hc) hn (ih X' (fun nm h => (hn nm h).elim) hI' hc')
  | ra u hI hc hn _ ih => exact fun X' _ hI' hc' => .ra u (hI' _ hI) (fun i c hi => hc' _ _ hI (hc i c hi)) hn fun i c hi => ih i c hi X' (fun nm h => (hn i c hi nm h).elim) hI' hc'
inductive V where
  | c (x : C)
  | ag (cs : List C)
  | tu (vs : List V)
inductive VDen (X : Ctx) : V → Value → Prop
  | c {x v} (h : Den X x v) : VDen X (.c x) v
  | ag {cs : List C} {cells : Array Value} (hs : cells.size = cs.length) (h : ∀ (i : Nat) c u, cs[i]? = some c → cells[i]? = some u → Den X c u) : VDen X (.ag cs) (.agg cells)
  | tu {vs : List V} {us : Array Value} (hs : us.size = vs.length) (h : ∀ (i : Nat) v u, vs[i]? = some v → us[i]? = some u → VDen X v u) : VDen X (.tu vs) (.tuple us)
inductive V.Has : V → Nat → Prop
  | c {x nm} (h : x.Has nm) : V.Has (.c x) nm
  | ag {cs : List C} {c nm} (h : c ∈ cs) (hc : c.Has nm) : V.Has (.ag cs) nm
  | tu {vs : List V} {v nm} (h : v ∈ vs) (hc : V.Has v nm) : V.Has (.tu vs) nm
theorem VDen.mono {X : Ctx} {x : V} {v : Value} (h : VDen X x v) (X' : Ctx) (hν : ∀ nm, x.Has nm → X'.ν nm = X.ν nm) (hI : ∀ b, X.I b → X'.I b)
    (hc : ∀ a u, X.I a.block → X.w.cell? a = some u → X'.w.cell? a = some u) : VDen X' x v := by
  induction h with
  | c h => exact .c (h.mono X' (fun nm hn => hν nm (.c hn)) hI hc)
  | ag hs h => exact .ag hs fun i c u hi hu => (h i c u hi hu).mono X' (fun nm hn => hν nm (.ag (List.mem_of_getElem? hi) hn)) hI hc
  | tu hs _ ih => exact .tu hs fun i v u hi hu => ih i v u hi hu fun nm hn => hν nm (.tu (List.mem_of_getElem? hi) hn)
inductive B where
  | st (cs : List C)
  | ar (o : Bool) (k : IntKind) (xs : List Int)
  | bl (o : Bool) (xs : List Bool)
  | ss (o : Bool) (k : IntKind) (xss : List (List Int))
  | rs (o : Bool) (sz : Nat) (r : List (List C))
  | un (n : Nat)
inductive BCell (X : Ctx) : B → Nat → Value → Prop
  | st {cs : List C} {j : Nat} {c u} (hj : cs[j]? = some c) (h : Den X c u) : BCell X (.st cs) j u
  | ar {o k} {xs : List Int} {j : Nat} {n} (hj : xs[j]? = some n) : BCell X (.ar o k xs) j (.int k n)
  | bl {o} {xs : List Bool} {j : Nat} {x} (hj : xs[j]? = some x) : BCell X (.bl o xs) j (.bool x)
  | ss {o k} {xss : List (List Int)} {j : Nat} {xs u} (hj : xss[j]? = some xs) (h : Den X (.is k xs) u) : BCell X (.ss o k xss) j u
  | rs {o sz} {r : List (List C)} {j i : Nat} {cs : List C} {c u} (hj : r[j]? = some cs) (hs : cs.length = sz) (hi : cs[i]? = some c) (hn : ∀ nm, ¬ c.Has nm) (h : Den X c u) : BCell X (.rs o sz r) (j * sz + i) u
  | un {n j u} : BCell X (.un n) j u
def B.size : B → Nat
  | .st cs => cs.length
  | .ar _ _ xs => xs.length
  | .bl _ xs => xs.length
  | .ss _ _ xss => xss.length
  | .rs _ sz r => r.length * sz
  | .un n => n
def B.own : B → Option Nat
  | .ar true _ _ | .bl true _ | .ss true _ _ => some 1
  | .rs true sz _ => some sz
  | _ => none
inductive B.Has : B → Nat → Prop
  | st {cs : List C} {c nm} (h : c ∈ cs) (hc : c.Has nm) : B.Has (.st cs) nm
theorem BCell.mono {X : Ctx} {x : B} {j : Nat} {u : Value} (h : BCell X x j u) (X' : Ctx) (hν : ∀ nm, x.Has nm → X'.ν nm = X.ν nm) (hI : ∀ b, X.I b → X'.I b)
    (hc : ∀ a u, X.I a.block → X.w.cell? a = some u → X'.w.cell? a = some u) : BCell X' x j u := by
  cases h with
  | st hj h => exact .st hj (h.mono X' (fun nm hn => hν nm (.st (List.mem_of_getElem? hj) hn)) hI hc)
  | ar hj => exact .ar hj
  | bl hj => exact .bl hj
  | ss hj h => exact .ss hj (h.mono X' (fun _ h => h.elim) hI hc)
  | rs hj hs hi hn h => exact .rs hj hs hi hn (h.mono X' (fun nm h => (hn nm h).elim) hI hc)
  | un => exact .un
structure Cells (X : Ctx) (x : B) (cur : Array Value) (c : Nat) : Prop where
  le : x.size ≤ cur.size
  cell : ∀ j, j < x.size → ∃ u, cur[j]? = some u ∧ BCell X x j u
  own : ∀ sz, x.own = some sz → cur.size = c * sz
theorem Cells.mono {X : Ctx} {x : B} {cur : Array Value} {c : Nat} (h : Cells X x cur c) (X' : Ctx) (hν : ∀ nm, x.Has nm → X'.ν nm = X.ν nm) (hI : ∀ b, X.I b → X'.I b)
    (hc : ∀ a u, X.I a.block → X.w.cell? a = some u → X'.w.cell? a = some u) : Cells X' x cur c :=
  ⟨h.le, fun j hj => let ⟨u, h1, h2⟩ := h.cell j hj; ⟨u, h1, h2.mono X' hν hI hc⟩, h.own⟩
def BDen (X : Ctx) (nm : Nat) (x : B) : Prop :=
  match X.ν nm with
  | none => x.size = 0
  | some (bl, c) => ∃ cur ty, X.w.heap[bl]? = some (.cells cur ty (0, 0)) ∧ Cells X x cur c
theorem BDen.mono {X : Ctx} {nm : Nat} {x : B} (h : BDen X nm x) (X' : Ctx) (hn : X'.ν nm = X.ν nm) (hb : ∀ bl c, X.ν nm = some (bl, c) → X'.w.heap[bl]? = X.w.heap[bl]?)
    (hν : ∀ nm, x.Has nm → X'.ν nm = X.ν nm) (hI : ∀ b, X.I b → X'.I b)
    (hc : ∀ a u, X.I a.block → X.w.cell? a = some u → X'.w.cell? a = some u) : BDen X' nm x := by
  unfold BDen at *
  rw [hn]
  cases hx : X.ν nm with
  | none => simpa [hx] using h
  | some q =>
    obtain ⟨bl, c⟩ := q
    simp only [hx] at h ⊢
    obtain ⟨cur, ty, h1, h2⟩ := h
    exact ⟨cur, ty, (hb bl c hx).trans h1, h2.mono X' hν hI hc⟩
structure S where
  env : Nat → Option V
  st : Nat → Option B
  nx : Nat
  n : Nat
def upd {α : Type} (f : Nat → Option α) (t : Nat) (v : α) : Nat → Option α := fun x => bif Nat.beq x t then some v else f x
def del {α : Type} (f : Nat → Option α) (t : Nat) : Nat → Option α := fun x => bif Nat.beq x t then none else f x
theorem beq_ne {t x : Nat} (h : x ≠ t) : Nat.beq x t = false := by rw [← Bool.not_eq_true]; exact fun e => h (Nat.eq_of_beq_eq_true e)
theorem upd_same {α : Type} (f : Nat → Option α) (t : Nat) (v : α) : upd f t v t = some v := by simp [upd, Nat.beq_refl]
theorem upd_other {α : Type} (f : Nat → Option α) {t x : Nat} (v : α) (h : x ≠ t) : upd f t v x = f x := by simp [upd, beq_ne h]
theorem del_same {α : Type} (f : Nat → Option α) (t : Nat) : del f t t = none := by simp [del, Nat.beq_refl]
theorem del_other {α : Type} (f : Nat → Option α) {t x : Nat} (h : x ≠ t) : del f t x = f x := by simp [del, beq_ne h]
theorem upd_upd {α : Type} (f : Nat → Option α) {t u : Nat} (v x : α) (h : t ≠ u) : upd (upd f t v) u x = upd (upd f u x) t v := by
  funext y
  by_cases h1 : y = t
  · subst h1; rw [upd_same, upd_other _ _ h, upd_same]
  · rw [upd_other _ _ h1]
    by_cases h2 : y = u
    · subst h2; rw [upd_same, upd_same]
    · rw [upd_other _ _ h2, upd_other _ _ h1, upd_other _ _ h2]
theorem upd_del {α : Type} (f : Nat → Option α) {t u : Nat} (v : α) (h : t ≠ u) : del (upd f t v) u = upd (del f u) t v := by
  funext y
  by_cases h1 : y = t
  · subst h1; rw [upd_same, del_other _ h, upd_same]
  · rw [upd_other _ _ h1]
    by_cases h2 : y = u
    · subst h2; rw [del_same, del_same]
    · rw [del_other _ h2, del_other _ h2, upd_other _ _ h1]
structure Hp where
  w0 : World
  own0 : Nat → Prop
  I0 : Nat → Prop
  ds : List Deferred
def Gl (X : Ctx) : Prop := ∀ p, p ∈ GL → X.I p.1 ∧ ∃ ty fr, X.w.heap[p.1]? = some (.cells p.2 ty fr)
theorem Gl.mono {X X' : Ctx} (h : Gl X) (hI : ∀ b, X.I b → X'.I b) (hh : ∀ b, X.I b → X'.w.heap[b]? = X.w.heap[b]?) : Gl X' := fun p hp =>
  let ⟨h1, ty, fr, h2⟩ := h p hp; ⟨hI _ h1, ty, fr, (hh _ h1).trans h2⟩
structure Hs (H : Hp) (st : Nat → Option B) (nx : Nat) (X : Ctx) : Prop where
  blk : ∀ nm x, st nm = some x → BDen X nm x
  inj : ∀ nm nm' b c c', st nm ≠ none → st nm' ≠ none → X.ν nm = some (b, c) → X.ν nm' = some (b, c') → nm = nm'
  sep : ∀ nm b c, st nm ≠ none → X.ν nm = some (b, c) → ¬ X.I b ∧ (H.own0 b ∨ H.w0.heap.size ≤ b)
  bd : ∀ nm x, st nm = some x → nm < nx ∧ ∀ m, x.Has m → m < nx
  fr : ∀ b, b < H.w0.heap.size → ¬ H.own0 b → X.w.heap[b]? = H.w0.heap[b]?
  sz : H.w0.heap.size ≤ X.w.heap.size
  imm : ∀ b, X.I b → b < X.w.heap.size ∧ (H.I0 b ∨ H.own0 b ∨ H.w0.heap.size ≤ b)
  out : X.w.os = H.w0.os ∧ X.w.output = H.w0.output
  gl : Gl X
theorem Hs.ds {H : Hp} {st : Nat → Option B} {nx : Nat} {X : Ctx} (g : Hs H st nx X) (l : List Deferred) : Hs { H with ds := l } st nx X := ⟨g.blk, g.inj, g.sep, g.bd, g.fr, g.sz, g.imm, g.out, g.gl⟩
theorem Hs.nods {H : Hp} {st : Nat → Option B} {nx : Nat} {X : Ctx} {l : List Deferred} (g : Hs { H with ds := l } st nx X) : Hs H st nx X := ⟨g.blk, g.inj, g.sep, g.bd, g.fr, g.sz, g.imm, g.out, g.gl⟩
structure Step (nx : Nat) (X X' : Ctx) : Prop where
  ν : ∀ nm, nm < nx → X'.ν nm = X.ν nm
  I : ∀ b, X.I b → X'.I b
  cell : ∀ a u, X.I a.block → X.w.cell? a = some u → X'.w.cell? a = some u
theorem Step.refl (nx : Nat) (X : Ctx) : Step nx X X := ⟨fun _ _ => rfl, fun _ h => h, fun _ _ _ h => h⟩
theorem Step.trans {n m : Nat} {X Y Z : Ctx} (h : Step n X Y) (h' : Step m Y Z) (hn : n ≤ m) : Step n X Z :=
  ⟨fun nm hl => (h'.ν nm (Nat.lt_of_lt_of_le hl hn)).trans (h.ν nm hl), fun b hb => h'.I b (h.I b hb), fun a u hI hc => h'.cell a u (h.I _ hI) (h.cell a u hI hc)⟩
theorem VDen.step {X X' : Ctx} {v : V} {u : Value} {nx : Nat} (h : VDen X v u) (hs : Step nx X X') (hb : ∀ nm, v.Has nm → nm < nx) : VDen X' v u :=
  h.mono X' (fun nm hn => hs.ν nm (hb nm hn)) hs.I hs.cell
theorem Den.step {X X' : Ctx} {v : C} {u : Value} {nx : Nat} (h : Den X v u) (hs : Step nx X X') (hb : ∀ nm, v.Has nm → nm < nx) : Den X' v u :=
  h.mono X' (fun nm hn => hs.ν nm (hb nm hn)) hs.I hs.cell
theorem Cells.step {X X' : Ctx} {x : B} {cur : Array Value} {c nx : Nat} (h : Cells X x cur c) (hs : Step nx X X') (hb : ∀ nm, x.Has nm → nm < nx) : Cells X' x cur c :=
  h.mono X' (fun nm hn => hs.ν nm (hb nm hn)) hs.I hs.cell
structure Γ (H : Hp) (s : S) (X : Ctx) (a : Act) : Prop extends Hs H s.st s.nx X where
  dn : a.defers = H.ds
  n : s.n ≤ a.tmps.size
  env : ∀ t v, s.env t = some v → (∃ u, a.tmps[t]? = some u ∧ VDen X v u) ∧ ∀ nm, v.Has nm → nm < s.nx
theorem Hs.lt {H : Hp} {st : Nat → Option B} {nx : Nat} {X : Ctx} (g : Hs H st nx X) {nm : Nat} {x : B} {bl c : Nat} (h : st nm = some x) (hn : X.ν nm = some (bl, c)) : bl < X.w.heap.size := by
  have := g.blk nm x h
  simp only [BDen, hn] at this
  obtain ⟨cur, ty, h1, _⟩ := this
  exact (Array.getElem?_eq_some_iff.1 h1).1
theorem cell_of_heap {w w' : World} {a : Addr} (h : w'.heap[a.block]? = w.heap[a.block]?) : w'.cell? a = w.cell? a := by simp [World.cell?, h]
theorem Γ.step {H : Hp} {s : S} {X X' : Ctx} {a : Act} (g : Γ H s X a) {st' : Nat → Option B} {nx' : Nat} (h : Hs H st' nx' X') (hs : Step s.nx X X') (hn : s.nx ≤ nx') :
    Γ H ⟨s.env, st', nx', s.n⟩ X' a :=
  { toHs := h, dn := g.dn, n := g.n, env := fun t v he => let ⟨⟨u, h1, h2⟩, hb⟩ := g.env t v he; ⟨⟨u, h1, h2.step hs hb⟩, fun nm hh => Nat.lt_of_lt_of_le (hb nm hh) hn⟩ }
section
variable {H : Hp} {st : Nat → Option B} {nx : Nat} {X : Ctx}
theorem Hs.world (g : Hs H st nx X) (w' : World) (hw : w'.heap = X.w.heap) (ho : w'.os = X.w.os ∧ w'.output = X.w.output := by exact ⟨rfl, rfl⟩) : Hs H st nx ⟨X.ν, X.I, w'⟩ ∧ Step nx X ⟨X.ν, X.I, w'⟩ := by
  have hc : ∀ (b : Addr) u, X.I b.block → X.w.cell? b = some u → w'.cell? b = some u := fun b u _ h => by rw [cell_of_heap (w := X.w) (by rw [hw])]; exact h
  exact ⟨{ blk := fun nm x h => (g.blk nm x h).mono _ rfl (fun _ _ _ => by show w'.heap[_]? = _; rw [hw]) (fun _ _ => rfl) (fun _ h => h) hc
           inj := g.inj, sep := g.sep, bd := g.bd
           fr := fun b h1 h2 => by show w'.heap[b]? = _; rw [hw]; exact g.fr b h1 h2
           sz := by show _ ≤ w'.heap.size; rw [hw]; exact g.sz
           imm := fun b h => by show b < w'.heap.size ∧ _; rw [hw]; exact g.imm b h
           out := ⟨ho.1.trans g.out.1, ho.2.trans g.out.2⟩
           gl := g.gl.mono (fun _ h => h) fun b _ => by show w'.heap[b]? = _; rw [hw] }, ⟨fun _ _ => rfl, fun _ h => h, hc⟩⟩
theorem Hs.setB (g : Hs H st nx X) {nm : Nat} {x x' : B} {bl c : Nat} {cur cur' : Array Value} {ty : TypeId}
    (hs : st nm = some x) (hn : X.ν nm = some (bl, c)) (hh : X.w.heap[bl]? = some (.cells cur ty (0, 0)))
    (hc : Cells X x' cur' c) (hb : ∀ m, x'.Has m → m < nx) : Hs H (upd st nm x') nx ⟨X.ν, X.I, X.w.setRow bl cur'⟩ ∧ Step nx X ⟨X.ν, X.I, X.w.setRow bl cur'⟩ := by
  have hI : ¬ X.I bl := (g.sep nm bl c (by rw [hs]; simp) hn).1
  have hoth : ∀ b, b ≠ bl → (X.w.setRow bl cur').heap[b]? = X.w.heap[b]? := fun b hb => setRow_other X.w bl b cur' hb
  have hcell : ∀ (b : Addr) u, X.I b.block → X.w.cell? b = some u → (X.w.setRow bl cur').cell? b = some u := fun b u hb h => by
    rw [cell_of_heap (w := X.w) (hoth _ (fun e => hI (e ▸ hb)))]; exact h
  have hsize : (X.w.setRow bl cur').heap.size = X.w.heap.size := by simp
  have e0 : ∀ n1, upd st nm x' n1 ≠ none → st n1 ≠ none := fun n1 h1 => by
    by_cases he : n1 = nm
    · subst he; rw [hs]; simp
    · simpa [upd_other _ _ he] using h1
  refine ⟨{ blk := fun nm' y h => ?_, inj := fun n1 n2 b c1 c2 h1 h2 => g.inj n1 n2 b c1 c2 (e0 _ h1) (e0 _ h2), sep := fun n1 b c1 h1 => g.sep n1 b c1 (e0 _ h1), bd := ?_, fr := fun b h1 h2 => ?_, sz := by show _ ≤ (X.w.setRow bl cur').heap.size; rw [hsize]; exact g.sz, imm := fun b h => by show b < (X.w.setRow bl cur').heap.size ∧ _; rw [hsize]; exact g.imm b h, out := g.out, gl := g.gl.mono (fun _ h => h) fun b hb => hoth b fun e => hI (e ▸ hb) }, ⟨fun _ _ => rfl, fun _ h => h, hcell⟩⟩
  · by_cases he : nm' = nm
    · subst he
      simp only [upd_same, Option.some.injEq] at h
      subst h
      simp only [BDen, hn]
      exact ⟨cur', ty, setRow_heap X.w bl cur cur' ty (0, 0) hh, hc.mono _ (fun _ _ => rfl) (fun _ h => h) hcell⟩
    · simp only [upd_other _ _ he] at h
      refine (g.blk nm' y h).mono _ rfl (fun b' c' hb' => ?_) (fun _ _ => rfl) (fun _ h => h) hcell
      refine hoth b' fun e => he ?_
      subst e
      exact g.inj nm' nm b' c' c (by rw [h]; simp) (by rw [hs]; simp) hb' hn
  · intro nm' y h
    by_cases he : nm' = nm
    · subst he
      simp only [upd_same, Option.some.injEq] at h
      subst h
      exact ⟨(g.bd nm' x hs).1, hb⟩
    · simp only [upd_other _ _ he] at h
      exact g.bd nm' y h
  · show (X.w.setRow bl cur').heap[b]? = _
    rw [hoth b ?_]
    · exact g.fr b h1 h2
    · rintro rfl
      rcases (g.sep nm b c (by rw [hs]; simp) hn).2 with h | h
      · exact h2 h
      · omega
def Ctx.newB (X : Ctx) (nm cap : Nat) (o : Obj) : Ctx := ⟨upd X.ν nm (X.w.heap.size, cap), X.I, X.w.alloc o⟩
theorem Hs.newB (g : Hs H st nx X) {x : B} {cur : Array Value} {ty : TypeId} {cap : Nat}
    (hc : Cells X x cur cap) (hb : ∀ m, x.Has m → m < nx) : Hs H (upd st nx x) (nx + 1) (X.newB nx cap (.cells cur ty)) ∧ Step nx X (X.newB nx cap (.cells cur ty)) := by
  have hν : ∀ nm, nm < nx → (X.newB nx cap (.cells cur ty)).ν nm = X.ν nm := fun nm h => upd_other _ _ (Nat.ne_of_lt h)
  have hcell : ∀ (b : Addr) u, X.I b.block → X.w.cell? b = some u → (X.newB nx cap (.cells cur ty)).w.cell? b = some u := fun b u hb h => by
    show (X.w.alloc _).cell? b = some u
    rw [World.cell?_alloc_lt _ _ _ (g.imm _ hb).1]; exact h
  have hne : ∀ n1, upd st nx x n1 ≠ none → n1 = nx ∨ (n1 < nx ∧ st n1 ≠ none) := fun n1 h => by
    by_cases he : n1 = nx
    · exact .inl he
    · simp only [upd_other _ _ he] at h
      obtain ⟨y, hy⟩ := Option.ne_none_iff_exists'.1 h
      exact .inr ⟨(g.bd n1 y hy).1, h⟩
  have hold : ∀ n1 b c1, n1 < nx → st n1 ≠ none → (X.newB nx cap (.cells cur ty)).ν n1 = some (b, c1) → X.ν n1 = some (b, c1) ∧ b < X.w.heap.size := fun n1 b c1 hl h1 h2 => by
    rw [hν n1 hl] at h2
    obtain ⟨y, hy⟩ := Option.ne_none_iff_exists'.1 h1
    exact ⟨h2, g.lt hy h2⟩
  have hnew : ∀ b c1, (X.newB nx cap (.cells cur ty)).ν nx = some (b, c1) → b = X.w.heap.size := fun b c1 h => by
    simp only [Ctx.newB, upd_same, Option.some.injEq, Prod.mk.injEq] at h
    exact h.1.symm
  refine ⟨{ blk := fun nm' y h => ?_, inj := ?_, sep := ?_, bd := ?_, fr := fun b h1 h2 => ?_, sz := ?_, imm := ?_, out := g.out, gl := g.gl.mono (fun _ h => h) fun b hb => heap_alloc_old _ _ (g.imm b hb).1 }, ⟨hν, fun _ h => h, hcell⟩⟩
  · by_cases he : nm' = nx
    · subst he
      simp only [upd_same, Option.some.injEq] at h
      subst h
      simp only [BDen, Ctx.newB, upd_same]
      exact ⟨cur, ty, heap_alloc_new _ _, hc.mono _ (fun nm hn => hν nm (hb nm hn)) (fun _ h => h) hcell⟩
    · simp only [upd_other _ _ he] at h
      exact (g.blk nm' y h).mono _ (hν nm' (g.bd nm' y h).1) (fun b' c' hb' => heap_alloc_old _ _ (g.lt h hb')) (fun nm hn => hν nm ((g.bd nm' y h).2 nm hn)) (fun _ h => h) hcell
  · intro n1 n2 b c1 c2 h1 h2 e1 e2
    rcases hne n1 h1 with rfl | ⟨l1, k1⟩ <;> rcases hne n2 h2 with rfl | ⟨l2, k2⟩
    · rfl
    · have := hnew _ _ e1; have := (hold _ _ _ l2 k2 e2).2; omega
    · have := hnew _ _ e2; have := (hold _ _ _ l1 k1 e1).2; omega
    · exact g.inj n1 n2 b c1 c2 k1 k2 (hold _ _ _ l1 k1 e1).1 (hold _ _ _ l2 k2 e2).1
  · intro n1 b c1 h1 e1
    rcases hne n1 h1 with rfl | ⟨l1, k1⟩
    · have := hnew _ _ e1
      subst this
      exact ⟨fun h => Nat.lt_irrefl _ (g.imm _ h).1, .inr g.sz⟩
    · exact g.sep n1 b c1 k1 (hold _ _ _ l1 k1 e1).1
  · intro nm' y h
    by_cases he : nm' = nx
    · subst he
      simp only [upd_same, Option.some.injEq] at h
      subst h
      exact ⟨Nat.lt_succ_self _, fun m hm => Nat.lt_succ_of_lt (hb m hm)⟩
    · simp only [upd_other _ _ he] at h
      exact ⟨Nat.lt_succ_of_lt (g.bd nm' y h).1, fun m hm => Nat.lt_succ_of_lt ((g.bd nm' y h).2 m hm)⟩
  · show (X.w.alloc _).heap[b]? = _
    rw [heap_alloc_old _ _ (Nat.lt_of_lt_of_le h1 g.sz)]
    exact g.fr b h1 h2
  · show _ ≤ (X.w.alloc _).heap.size
    have := g.sz
    simp; omega
  · intro b h
    have := g.imm b h
    refine ⟨?_, this.2⟩
    show b < (X.w.alloc _).heap.size
    simp; omega
theorem Hs.newNil (g : Hs H st nx X) {x : B} (hx : x.size = 0) (hb : ∀ m, x.Has m → m < nx) :
    Hs H (upd st nx x) (nx + 1) ⟨fun n => bif Nat.beq n nx then none else X.ν n, X.I, X.w⟩ ∧ Step nx X ⟨fun n => bif Nat.beq n nx then none else X.ν n, X.I, X.w⟩ := by
  have hν : ∀ nm, nm < nx → (bif Nat.beq nm nx then none else X.ν nm) = X.ν nm := fun nm h => by simp [beq_ne (Nat.ne_of_lt h)]
  have hne : ∀ n1, upd st nx x n1 ≠ none → n1 = nx ∨ (n1 < nx ∧ st n1 ≠ none) := fun n1 h => by
    by_cases he : n1 = nx
    · exact .inl he
    · simp only [upd_other _ _ he] at h
      obtain ⟨y, hy⟩ := Option.ne_none_iff_exists'.1 h
      exact .inr ⟨(g.bd n1 y hy).1, h⟩
  refine ⟨{ blk := fun nm' y h => ?_, inj := ?_, sep := ?_, bd := ?_, fr := g.fr, sz := g.sz, imm := g.imm, out := g.out, gl := g.gl }, ⟨hν, fun _ h => h, fun _ _ _ h => h⟩⟩
  · by_cases he : nm' = nx
    · subst he
      simp only [upd_same, Option.some.injEq] at h
      subst h
      simpa [BDen, Nat.beq_refl] using hx
    · simp only [upd_other _ _ he] at h
      exact (g.blk nm' y h).mono _ (hν nm' (g.bd nm' y h).1) (fun _ _ _ => rfl) (fun nm hn => hν nm ((g.bd nm' y h).2 nm hn)) (fun _ h => h) (fun _ _ _ h => h)
  · intro n1 n2 b c1 c2 h1 h2 e1 e2
    rcases hne n1 h1 with rfl | ⟨l1, k1⟩
    · simp [Nat.beq_refl] at e1
    rcases hne n2 h2 with rfl | ⟨l2, k2⟩
    · simp [Nat.beq_refl] at e2
    · dsimp only at e1 e2
      rw [hν _ l1] at e1; rw [hν _ l2] at e2
      exact g.inj n1 n2 b c1 c2 k1 k2 e1 e2
  · intro n1 b c1 h1 e1
    rcases hne n1 h1 with rfl | ⟨l1, k1⟩
    · simp [Nat.beq_refl] at e1
    · dsimp only at e1
      rw [hν _ l1] at e1
      exact g.sep n1 b c1 k1 e1
  · intro nm' y h
    by_cases he : nm' = nx
    · subst he
      simp only [upd_same, Option.some.injEq] at h
      subst h
      exact ⟨Nat.lt_succ_self _, fun m hm => Nat.lt_succ_of_lt (hb m hm)⟩
    · simp only [upd_other _ _ he] at h
      exact ⟨Nat.lt_succ_of_lt (g.bd nm' y h).1, fun m hm => Nat.lt_succ_of_lt ((g.bd nm' y h).2 m hm)⟩
def Ctx.newI (X : Ctx) (o : Obj) : Ctx := ⟨X.ν, fun b => X.I b ∨ b = X.w.heap.size, X.w.alloc o⟩
theorem Hs.newI (g : Hs H st nx X) (o : Obj) : Hs H st nx (X.newI o) ∧ Step nx X (X.newI o) := by
  have hcell : ∀ (b : Addr) u, X.I b.block → X.w.cell? b = some u → (X.newI o).w.cell? b = some u := fun b u hb h => by
    show (X.w.alloc _).cell? b = some u
    rw [World.cell?_alloc_lt _ _ _ (g.imm _ hb).1]; exact h
  refine ⟨{ blk := fun nm' y h => ?_, inj := g.inj, sep := ?_, bd := g.bd, fr := fun b h1 h2 => ?_, sz := ?_, imm := ?_, out := g.out, gl := g.gl.mono (fun _ h => .inl h) fun b hb => heap_alloc_old _ _ (g.imm b hb).1 }, ⟨fun _ _ => rfl, fun _ h => .inl h, hcell⟩⟩
  · exact (g.blk nm' y h).mono _ rfl (fun b' c' hb' => heap_alloc_old _ _ (g.lt h hb')) (fun _ _ => rfl) (fun _ h => .inl h) hcell
  · intro n1 b c1 h1 e1
    obtain ⟨y, hy⟩ := Option.ne_none_iff_exists'.1 h1
    have hlt := g.lt hy e1
    have := g.sep n1 b c1 h1 e1
    refine ⟨fun h => ?_, this.2⟩
    rcases h with h | h
    · exact this.1 h
    · omega
  · show (X.w.alloc _).heap[b]? = _
    rw [heap_alloc_old _ _ (Nat.lt_of_lt_of_le h1 g.sz)]
    exact g.fr b h1 h2
  · show _ ≤ (X.w.alloc _).heap.size
    have := g.sz
    simp; omega
  · intro b h
    show b < (X.w.alloc _).heap.size ∧ _
    rcases h with h | h
    · have := g.imm b h
      exact ⟨by simp; omega, this.2⟩
    · have := g.sz
      exact ⟨by simp; omega, .inr (.inr (by omega))⟩
theorem Hs.drop (g : Hs H st nx X) (nm : Nat) : Hs H (del st nm) nx X := by
  have hh : ∀ n x, del st nm n = some x → st n = some x := fun n x h => by
    by_cases he : n = nm
    · subst he; simp [del_same] at h
    · simpa [del_other _ he] using h
  have hn : ∀ n, del st nm n ≠ none → st n ≠ none := fun n h => by
    obtain ⟨y, hy⟩ := Option.ne_none_iff_exists'.1 h
    rw [hh n y hy]; simp
  exact { blk := fun n x h => g.blk n x (hh n x h), inj := fun n1 n2 b c c' h1 h2 => g.inj n1 n2 b c c' (hn _ h1) (hn _ h2),
          sep := fun n b c h => g.sep n b c (hn _ h), bd := fun n x h => g.bd n x (hh n x h), fr := g.fr, sz := g.sz, imm := g.imm, out := g.out, gl := g.gl }
theorem Hs.more (g : Hs H st nx X) {nx' : Nat} (h : nx ≤ nx') : Hs H st nx' X :=
  { blk := g.blk, inj := g.inj, sep := g.sep, bd := fun n x h' => ⟨Nat.lt_of_lt_of_le (g.bd n x h').1 h, fun m hm => Nat.lt_of_lt_of_le ((g.bd n x h').2 m hm) h⟩, fr := g.fr, sz := g.sz, imm := g.imm, out := g.out, gl := g.gl }
def Ctx.keep (X : Ctx) (bl : Nat) : Ctx := ⟨X.ν, fun b => X.I b ∨ b = bl, X.w⟩
theorem Hs.keep (g : Hs H st nx X) {nm : Nat} {x : B} {bl c : Nat} (hs : st nm = some x) (hn : X.ν nm = some (bl, c)) :
    Hs H (del st nm) nx (X.keep bl) ∧ Step nx X (X.keep bl) := by
  have g' := g.drop nm
  refine ⟨{ blk := fun nm' y h => ?_, inj := g'.inj, sep := ?_, bd := g'.bd, fr := g'.fr, sz := g'.sz, imm := ?_, out := g'.out, gl := g.gl.mono (fun _ h => .inl h) fun _ _ => rfl }, ⟨fun _ _ => rfl, fun _ h => .inl h, fun _ _ _ h => h⟩⟩
  · exact (g'.blk nm' y h).mono _ rfl (fun _ _ _ => rfl) (fun _ _ => rfl) (fun _ h => .inl h) (fun _ _ _ h => h)
  · intro n1 b c1 h1 e1
    have := g'.sep n1 b c1 h1 e1
    refine ⟨fun h => ?_, this.2⟩
    rcases h with h | h
    · exact this.1 h
    · subst h
      have hne : n1 ≠ nm := fun e => h1 (by subst e; simp [del_same])
      have h1' : st n1 ≠ none := by simpa [del_other _ hne] using h1
      exact hne (g.inj n1 nm b c1 c h1' (by rw [hs]; simp) e1 hn)
  · intro b h
    rcases h with h | h
    · exact g.imm b h
    · subst h
      have := (g.sep nm b c (by rw [hs]; simp) hn).2
      exact ⟨g.lt hs hn, this.elim (fun h => .inr (.inl h)) (fun h => .inr (.inr h))⟩
end
theorem Γ.put {H : Hp} {s : S} {X : Ctx} {a : Act} (g : Γ H s X a) {t : Nat} {v : V} {u : Value} (ht : t < s.n) (hv : VDen X v u) (hb : ∀ nm, v.Has nm → nm < s.nx) :
    Γ H ⟨upd s.env t v, s.st, s.nx, s.n⟩ X (a.put (some t) u) := by
  refine { toHs := g.toHs, dn := g.dn, n := by simpa [Act.put] using g.n, env := ?_ }
  intro t' v' h
  have hlt : t < a.tmps.size := Nat.lt_of_lt_of_le ht g.n
  by_cases he : t' = t
  · subst he
    simp only [upd_same, Option.some.injEq] at h
    subst h
    exact ⟨⟨u, by simp [Act.put, hlt], hv⟩, hb⟩
  · simp only [upd_other _ _ he] at h
    obtain ⟨⟨u', h1, h2⟩, h3⟩ := g.env t' v' h
    exact ⟨⟨u', by simp only [Act.put]; rw [Array.getElem?_setIfInBounds_ne (Ne.symm he)]; exact h1, h2⟩, h3⟩
theorem Γ.lose {H : Hp} {s : S} {X : Ctx} {a : Act} (g : Γ H s X a) (t : Nat) (u : Value) : Γ H ⟨del s.env t, s.st, s.nx, s.n⟩ X (a.put (some t) u) := by
  refine { toHs := g.toHs, dn := g.dn, n := by simpa [Act.put] using g.n, env := ?_ }
  intro t' v' h
  by_cases he : t' = t
  · subst he; simp [del_same] at h
  · simp only [del_other _ he] at h
    obtain ⟨⟨u', h1, h2⟩, h3⟩ := g.env t' v' h
    exact ⟨⟨u', by simp only [Act.put]; rw [Array.getElem?_setIfInBounds_ne (Ne.symm he)]; exact h1, h2⟩, h3⟩
end Go.SX
