/- A part of the proof: the SILK decoder of the given program, walked by an executor that is proved sound. No statement of the program is proved in this text. -/
import Derived.Test.YtojdfjohmicopaaGreatDoorL09
set_option linter.all false
set_option maxRecDepth 100000
namespace Go.SX
open Go
def RunS (b : Nat) (c : Code) (s : S) (e : Exit) (s' : S) : Prop :=
  ∀ (H : Hp) (X : Ctx) (a : Act), b ≤ s.nx → Γ H s X a → c.wp P (fun e' a' w' => e' = e ∧ ∃ X', X'.w = w' ∧ Γ H s' X' a' ∧ Step b X X' ∧ b ≤ s'.nx) a X.w
inductive WpS (b : Nat) (c : Code) (s : S) (Q : Exit → S → Prop) : Prop
  | mk (e : Exit) (s' : S) (hq : Q e s') (h : RunS b c s e s')
theorem WpS.mono {b : Nat} {c : Code} {s : S} {Q Q' : Exit → S → Prop} (h : WpS b c s Q) (hq : ∀ e s', Q e s' → Q' e s') : WpS b c s Q' :=
  let ⟨e, s', h1, h2⟩ := h; ⟨e, s', hq _ _ h1, h2⟩
theorem Step.low {n m : Nat} {X Y : Ctx} (h : Step n X Y) (hm : m ≤ n) : Step m X Y := ⟨fun nm hl => h.ν nm (Nat.lt_of_lt_of_le hl hm), h.I, h.cell⟩
def thenQ (K : S → Prop) (Q : Exit → S → Prop) : Exit → S → Prop
  | .normal, s => K s
  | e, s => Q e s
def seqK (K : (Nat → Option V) → (Nat → Option B) → Nat → Prop) (Q : Exit → (Nat → Option V) → (Nat → Option B) → Nat → Prop) : Exit → (Nat → Option V) → (Nat → Option B) → Nat → Prop
  | .normal, e, st, nx => K e st nx
  | x, e, st, nx => Q x e st nx
def blkK (id : Nat) (Q : Exit → (Nat → Option V) → (Nat → Option B) → Nat → Prop) : Exit → (Nat → Option V) → (Nat → Option B) → Nat → Prop
  | .exit k, e, st, nx => match Nat.beq k id with
    | true => Q .normal e st nx
    | false => Q (.exit k) e st nx
  | x, e, st, nx => Q x e st nx
def VC (b n : Nat) : Code → (Nat → Option V) → (Nat → Option B) → Nat → (Exit → (Nat → Option V) → (Nat → Option B) → Nat → Prop) → Prop
  | .skip, e, st, nx, Q => Q .normal e st nx
  | .region id ops d, e, st, nx, Q => match d with
    | false => VOs n ops.toList ops.toList e st nx (Q .normal)
    | true => (drawOk ops = true ∧ VDs n nx ops.toList false ops.toList e st nx (Q .normal)) ∨ WpS b (.region id ops true) ⟨e, st, nx, n⟩ fun x s => s.n = n ∧ Q x s.env s.st s.nx
  | .seq x y, e, st, nx, Q => VC b n x e st nx (seqK (fun e st nx => VC b n y e st nx Q) Q)
  | .cond c x y, e, st, nx, Q => match rd e c with
    | some (.c (.b t)) => (t = true → VC b n x e st nx Q) ∧ (t = false → VC b n y e st nx Q)
    | _ => False
  | .block id c, e, st, nx, Q => VC b n c e st nx (blkK id Q)
  | .loop c, e, st, nx, Q => WpS b (.loop c) ⟨e, st, nx, n⟩ fun x s => s.n = n ∧ Q x s.env s.st s.nx
  | .exit id, e, st, nx, Q => Q (.exit id) e st nx
  | .ret, e, st, nx, Q => Q .ret e st nx
  | _, _, _, _, _ => False
theorem RunS.seq {b : Nat} {x y : Code} {s s1 s2 : S} {e : Exit} (h1 : RunS b x s .normal s1) (h2 : RunS b y s1 e s2) : RunS b (.seq x y) s e s2 := by
  intro H X a hb g
  refine wp_seq (wp_mono (h1 H X a hb g) fun e' a' w' ⟨he, X', hw, g', hs, hb'⟩ => ?_)
  subst he hw
  exact wp_mono (h2 H X' a' hb' g') fun e2 a2 w2 ⟨he2, X2, hw2, g2, hs2, hb2⟩ => ⟨he2, X2, hw2, g2, hs.trans hs2 (Nat.le_refl _), hb2⟩
theorem RunS.seq_out {b : Nat} {x y : Code} {s s1 : S} {e : Exit} (h1 : RunS b x s e s1) (he : e ≠ .normal) : RunS b (.seq x y) s e s1 := by
  intro H X a hb g
  refine wp_seq (wp_mono (h1 H X a hb g) fun e' a' w' ⟨he', h⟩ => ?_)
  subst he'
  cases e' <;> first | exact (he rfl).elim | exact ⟨rfl, h⟩
theorem wpQ_eval {H : Hp} {s : S} {X : Ctx} {a : Act} (g : Γ H s X a) {c : Operand} {t : Bool} (h : rd s.env c = some (.c (.b t))) : a.eval c = .bool t := by
  have := g.seen ⟨none, .move c, 0, "", #[], none⟩ c (by simp [Op.operands]) _ h
  cases this.1 with | c h => generalize a.eval c = u at h; cases h; rfl
theorem VC_run {b n : Nat} : ∀ (c : Code) (e : Nat → Option V) (st : Nat → Option B) (nx : Nat) (Q : Exit → (Nat → Option V) → (Nat → Option B) → Nat → Prop), VC b n c e st nx Q →
    ∃ x e' st' nx', Q x e' st' nx' ∧ RunS b c ⟨e, st, nx, n⟩ x ⟨e', st', nx', n⟩ := by
  intro c
  induction c with
  | skip =>
    intro e st nx Q h
    exact ⟨.normal, e, st, nx, h, fun H X a hb g => wp_skip ⟨rfl, X, rfl, g, .refl _ _, hb⟩⟩
  | region id ops d =>
    intro e st nx Q h
    cases d with
    | false =>
      simp only [VC] at h
      obtain ⟨e', st', nx', h1, h2⟩ := VOs_ok (ops := ops) h
      exact ⟨.normal, e', st', nx', h1, fun H X a hb g => wp_region_list (h2 H X a _ g fun X' a' k1 k2 k3 => ⟨rfl, X', rfl, k1, k2.low hb, Nat.le_trans hb k3⟩)⟩
    | true =>
      simp only [VC] at h
      rcases h with ⟨hok, h⟩ | ⟨x, s', ⟨hn, h1⟩, h2⟩
      · obtain ⟨e', st', nx', h1, h2⟩ := VDs_ok (ops := ops) (cl := clF (clL false ops.toList)) (st0 := st) (k := 0) (fun j => by simp) (fun i => by simp) (fun _ _ _ => rfl) h
        refine ⟨.normal, e', st', nx', h1, fun H X a hb g => wp_region_any (by rfl) ?_⟩
        obtain ⟨k1, k2⟩ := g.toHs.world { X.w with drawn := X.w.drawn + 1 } rfl
        have g' := g.step k1 k2 (Nat.le_refl _)
        have hrem : rem ops (Array.replicate ops.size false) = List.range' 0 ops.toList.length := by
          unfold rem
          rw [List.filter_eq_self.2 fun j hj => ?_, List.range_eq_range', Array.length_toList]
          simp only [List.mem_range] at hj
          simp [hj]
        refine por (M := Mold nx st) (s' := ⟨e', st', nx', n⟩) hok ops.size _ _ a _ (fun j o _ hj => by rw [getD_replicate_false'] at hj; cases hj) (by simp) g' (by rw [hrem]; exact h2) (by rw [hrem]; simp) fun X' a' m1 m2 m3 => ?_
        exact ⟨rfl, X', rfl, m1, (k2.trans m2 (Nat.le_refl _)).low hb, Nat.le_trans hb m3⟩
      · obtain ⟨e', st', nx', n'⟩ := s'
        cases hn
        exact ⟨x, e', st', nx', h1, h2⟩
  | seq x y ihx ihy =>
    intro e st nx Q h
    obtain ⟨z, e1, st1, nx1, h1, h2⟩ := ihx e st nx _ h
    by_cases he : z = .normal
    · subst he
      obtain ⟨z2, e2, st2, nx2, k1, k2⟩ := ihy e1 st1 nx1 Q h1
      exact ⟨z2, e2, st2, nx2, k1, h2.seq k2⟩
    · refine ⟨z, e1, st1, nx1, ?_, h2.seq_out he⟩
      cases z <;> first | exact (he rfl).elim | exact h1
  | cond c x y ihx ihy =>
    intro e st nx Q h
    simp only [VC] at h
    split at h
    · rename_i t hc
      cases t with
      | true =>
        obtain ⟨z, e', st', nx', h1, h2⟩ := ihx e st nx Q (h.1 rfl)
        exact ⟨z, e', st', nx', h1, fun H X a hb g => wp_cond_true (wpQ_eval g hc) (h2 H X a hb g)⟩
      | false =>
        obtain ⟨z, e', st', nx', h1, h2⟩ := ihy e st nx Q (h.2 rfl)
        exact ⟨z, e', st', nx', h1, fun H X a hb g => wp_cond_false (wpQ_eval g hc) (h2 H X a hb g)⟩
    · exact h.elim
  | block id c ih =>
    intro e st nx Q h
    obtain ⟨z, e', st', nx', h1, h2⟩ := ih e st nx _ h
    by_cases he : z = .exit id
    · subst he
      refine ⟨.normal, e', st', nx', by simpa [blkK, Nat.beq_refl] using h1, fun H X a hb g => wp_block (wp_mono (h2 H X a hb g) fun z' a' w' ⟨h3, h4⟩ => ?_)⟩
      subst h3
      simp only [Exit.inBlock, if_true]
      exact ⟨trivial, h4⟩
    · refine ⟨z, e', st', nx', ?_, fun H X a hb g => wp_block (wp_mono (h2 H X a hb g) fun z' a' w' ⟨h3, h4⟩ => ?_)⟩
      · cases z with
        | exit k =>
          have : Nat.beq k id = false := beq_ne fun hn => he (by rw [hn])
          simpa [blkK, this] using h1
        | _ => exact h1
      · subst h3
        cases z' with
        | exit k =>
          have : k ≠ id := fun hn => he (by rw [hn])
          simp only [Exit.inBlock, this, if_false]
          exact ⟨trivial, h4⟩
        | _ => exact ⟨rfl, h4⟩
  | loop c ih =>
    intro e st nx Q h
    obtain ⟨x, ⟨e', st', nx', n'⟩, ⟨hn, h1⟩, h2⟩ := h
    cases hn
    exact ⟨x, e', st', nx', h1, h2⟩
  | exit id =>
    intro e st nx Q h
    exact ⟨.exit id, e, st, nx, h, fun H X a hb g => wp_exit ⟨rfl, X, rfl, g, .refl _ _, hb⟩⟩
  | ret =>
    intro e st nx Q h
    exact ⟨.ret, e, st, nx, h, fun H X a hb g => wp_ret ⟨rfl, X, rfl, g, .refl _ _, hb⟩⟩
  | _ => exact fun e st nx Q h => h.elim
theorem VC_ok {b n : Nat} {c : Code} {e : Nat → Option V} {st : Nat → Option B} {nx : Nat} {Q : Exit → S → Prop} (h : VC b n c e st nx fun x e st nx => Q x ⟨e, st, nx, n⟩) : WpS b c ⟨e, st, nx, n⟩ Q :=
  let ⟨x, e', st', nx', h1, h2⟩ := VC_run c e st nx _ h; ⟨x, ⟨e', st', nx', n⟩, h1, h2⟩
inductive LRun (b : Nat) (c : Code) : S → Exit → S → Nat → Prop
  | out {s e s'} (h : RunS b c s e s') (he : e ≠ .normal) : LRun b c s e s' 0
  | more {s s1 e s' n} (h : RunS b c s .normal s1) (h' : LRun b c s1 e s' n) : LRun b c s e s' (n + 1)
theorem least {p : Nat → Prop} (h : ∃ n, p n) : ∃ n, p n ∧ ∀ m, p m → n ≤ m := by
  obtain ⟨n, hn⟩ := h
  induction n using Nat.strongRecOn with
  | _ n ih =>
    by_cases h : ∃ m, m < n ∧ p m
    · obtain ⟨m, h1, h2⟩ := h; exact ih m h1 h2
    · exact ⟨n, hn, fun m hm => Nat.le_of_not_lt fun hl => h ⟨m, hl, hm⟩⟩
open Classical in
theorem LRun.run {b : Nat} {c : Code} {s : S} {e : Exit} {s' : S} {n : Nat} (h : LRun b c s e s' n) : RunS b (.loop c) s e s' := by
  intro H X a hb g
  let J : Nat → Act → World → Prop := fun m a' w' => ∃ s1 X1, LRun b c s1 e s' m ∧ Γ H s1 X1 a' ∧ X1.w = w' ∧ Step b X X1 ∧ b ≤ s1.nx
  let μ : Act → World → Nat := fun a' w' => if h : ∃ m, J m a' w' then Classical.choose (least h) else 0
  refine wp_loop (fun a' w' => ∃ m, J m a' w') μ ⟨n, s, X, h, g, rfl, .refl _ _, hb⟩ fun a1 w1 hI => ?_
  have hμ : μ a1 w1 = Classical.choose (least hI) := dif_pos hI
  obtain ⟨s1, X1, h1, g1, rfl, hs1, hb1⟩ := (Classical.choose_spec (least hI)).1
  generalize hn : Classical.choose (least hI) = m0 at h1
  cases h1 with
  | out hr he =>
    refine wp_mono (hr H X1 a1 hb1 g1) fun e' a' w' ⟨h3, X', h4, h5, h6, h7⟩ => ?_
    subst h3
    cases e' <;> first | exact (he rfl).elim | exact ⟨rfl, X', h4, h5, hs1.trans h6 (Nat.le_refl _), h7⟩
  | @more _ s2 _ _ m hr h' =>
    refine wp_mono (hr H X1 a1 hb1 g1) fun e' a' w' ⟨h3, X', h4, h5, h6, h7⟩ => ?_
    subst h3
    have hJ : J m a' w' := ⟨s2, X', h', h5, h4, hs1.trans h6 (Nat.le_refl _), h7⟩
    refine ⟨⟨m, hJ⟩, ?_⟩
    have hex : ∃ m, J m a' w' := ⟨m, hJ⟩
    have : μ a' w' = Classical.choose (least hex) := dif_pos hex
    rw [this, hμ, hn]
    exact Nat.lt_succ_of_le ((Classical.choose_spec (least hex)).2 m hJ)
def C.ren (α : Nat → Nat) : C → C
  | .p nm off => .p (α nm) off
  | .sl nm off len cap => .sl (α nm) off len cap
  | .osl nm len => .osl (α nm) len
  | c => c
mutual
def V.ren (α : Nat → Nat) : V → V
  | .c x => .c (x.ren α)
  | .ag cs => .ag (cs.map (C.ren α))
  | .tu vs => .tu (renVs α vs)
def renVs (α : Nat → Nat) : List V → List V
  | [] => []
  | v :: r => v.ren α :: renVs α r
end
def B.ren (α : Nat → Nat) : B → B
  | .st cs => .st (cs.map (C.ren α))
  | b => b
theorem renVs_eq (α : Nat → Nat) : ∀ vs, renVs α vs = vs.map (V.ren α)
  | [] => rfl
  | v :: r => by simp [renVs, renVs_eq α r]
theorem Den.of_ren {α : Nat → Nat} {X Y : Ctx} {c : C} {u : Value} (h : Den X (c.ren α) u) (hν : ∀ nm, c.Has nm → Y.ν nm = X.ν (α nm)) (hI : ∀ b, X.I b → Y.I b)
    (hc : ∀ a u, X.I a.block → X.w.cell? a = some u → Y.w.cell? a = some u) : Den Y c u := by
  cases c with
  | p nm off => cases h with | p h => exact .p ((hν nm rfl).trans h)
  | sl nm off len cap =>
    simp only [C.ren] at h
    cases h with
    | sl h => exact .sl ((hν nm rfl).trans h)
    | sl0 h => exact .sl0 ((hν nm rfl).trans h)
  | osl nm len =>
    simp only [C.ren] at h
    cases h with
    | osl h hl => exact .osl ((hν nm rfl).trans h) hl
    | osl0 h => exact .osl0 ((hν nm rfl).trans h)
  | _ => exact h.mono Y (fun _ h => h.elim) hI hc
theorem Den.ren {α : Nat → Nat} {X Y : Ctx} {c : C} {u : Value} (h : Den Y c u) (hν : ∀ nm, c.Has nm → X.ν (α nm) = Y.ν nm) (hI : ∀ b, Y.I b → X.I b)
    (hc : ∀ a u, Y.I a.block → Y.w.cell? a = some u → X.w.cell? a = some u) : Den X (c.ren α) u := by
  cases c with
  | p nm off => cases h with | p h => exact .p ((hν nm rfl).trans h)
  | sl nm off len cap =>
    simp only [C.ren]
    cases h with
    | sl h => exact .sl ((hν nm rfl).trans h)
    | sl0 h => exact .sl0 ((hν nm rfl).trans h)
  | osl nm len =>
    simp only [C.ren]
    cases h with
    | osl h hl => exact .osl ((hν nm rfl).trans h) hl
    | osl0 h => exact .osl0 ((hν nm rfl).trans h)
  | _ => exact h.mono X (fun _ h => h.elim) hI hc
theorem VDen.of_ren {α : Nat → Nat} {X Y : Ctx} {v : V} {u : Value} (h : VDen X (v.ren α) u) (hν : ∀ nm, v.Has nm → Y.ν nm = X.ν (α nm)) (hI : ∀ b, X.I b → Y.I b)
    (hc : ∀ a u, X.I a.block → X.w.cell? a = some u → Y.w.cell? a = some u) : VDen Y v u := by
  generalize hq : v.ren α = q at h
  induction h generalizing v with
  | c h =>
    cases v <;> simp only [V.ren] at hq <;> cases hq
    exact .c (h.of_ren (fun nm hn => hν nm (.c hn)) hI hc)
  | ag hs h =>
    cases v <;> simp only [V.ren] at hq <;> cases hq
    rename_i cs
    refine .ag (by simpa using hs) fun i c u hi hu => (h i (c.ren α) u (by simp [hi]) hu).of_ren (fun nm hn => hν nm (.ag (List.mem_of_getElem? hi) hn)) hI hc
  | tu hs h ih =>
    cases v <;> simp only [V.ren] at hq <;> cases hq
    rename_i vs
    rw [renVs_eq] at *
    exact .tu (by simpa using hs) fun i v u hi hu => ih i (v.ren α) u (by simp [hi]) hu (fun nm hn => hν nm (.tu (List.mem_of_getElem? hi) hn)) rfl
theorem VDen.ren {α : Nat → Nat} {X Y : Ctx} {v : V} {u : Value} (h : VDen Y v u) (hν : ∀ nm, v.Has nm → X.ν (α nm) = Y.ν nm) (hI : ∀ b, Y.I b → X.I b)
    (hc : ∀ a u, Y.I a.block → Y.w.cell? a = some u → X.w.cell? a = some u) : VDen X (v.ren α) u := by
  induction h with
  | c h => exact .c (h.ren (fun nm hn => hν nm (.c hn)) hI hc)
  | @ag cs cells hs h =>
    refine .ag (by simpa using hs) fun i c u hi hu => ?_
    rw [List.getElem?_map, Option.map_eq_some_iff] at hi
    obtain ⟨c', hc', rfl⟩ := hi
    exact (h i c' u hc' hu).ren (fun nm hn => hν nm (.ag (List.mem_of_getElem? hc') hn)) hI hc
  | @tu vs us hs h ih =>
    simp only [V.ren, renVs_eq]
    refine .tu (by simpa using hs) fun i v u hi hu => ?_
    rw [List.getElem?_map, Option.map_eq_some_iff] at hi
    obtain ⟨v', hv', rfl⟩ := hi
    exact ih i v' u hv' hu fun nm hn => hν nm (.tu (List.mem_of_getElem? hv') hn)
theorem B.ren_size (α : Nat → Nat) (b : B) : (b.ren α).size = b.size := by cases b <;> simp [B.ren, B.size]
theorem B.ren_own (α : Nat → Nat) (b : B) : (b.ren α).own = b.own := by cases b <;> rfl
theorem BCell.of_ren {α : Nat → Nat} {X Y : Ctx} {b : B} {j : Nat} {u : Value} (h : BCell X (b.ren α) j u) (hν : ∀ nm, b.Has nm → Y.ν nm = X.ν (α nm)) (hI : ∀ b, X.I b → Y.I b)
    (hc : ∀ a u, X.I a.block → X.w.cell? a = some u → Y.w.cell? a = some u) : BCell Y b j u := by
  cases b with
  | st cs =>
    cases h with
    | st hj h =>
      rw [List.getElem?_map, Option.map_eq_some_iff] at hj
      obtain ⟨c', hc', rfl⟩ := hj
      exact .st hc' (h.of_ren (fun nm hn => hν nm (.st (List.mem_of_getElem? hc') hn)) hI hc)
  | _ => exact h.mono Y (fun nm hn => by cases hn) hI hc
theorem BCell.ren {α : Nat → Nat} {X Y : Ctx} {b : B} {j : Nat} {u : Value} (h : BCell Y b j u) (hν : ∀ nm, b.Has nm → X.ν (α nm) = Y.ν nm) (hI : ∀ b, Y.I b → X.I b)
    (hc : ∀ a u, Y.I a.block → Y.w.cell? a = some u → X.w.cell? a = some u) : BCell X (b.ren α) j u := by
  cases b with
  | st cs =>
    cases h with
    | @st _ _ c _ hj h => exact .st (by simp [hj]) (h.ren (fun nm hn => hν nm (.st (List.mem_of_getElem? hj) hn)) hI hc)
  | _ => exact h.mono X (fun nm hn => by cases hn) hI hc
theorem Cells.of_ren {α : Nat → Nat} {X Y : Ctx} {b : B} {cur : Array Value} {c : Nat} (h : Cells X (b.ren α) cur c) (hν : ∀ nm, b.Has nm → Y.ν nm = X.ν (α nm)) (hI : ∀ b, X.I b → Y.I b)
    (hc : ∀ a u, X.I a.block → X.w.cell? a = some u → Y.w.cell? a = some u) : Cells Y b cur c :=
  ⟨by rw [← B.ren_size α]; exact h.le, fun j hj => let ⟨u, h1, h2⟩ := h.cell j (by rw [B.ren_size]; exact hj); ⟨u, h1, h2.of_ren hν hI hc⟩, fun sz hs => h.own sz (by rw [B.ren_own]; exact hs)⟩
theorem Cells.ren {α : Nat → Nat} {X Y : Ctx} {b : B} {cur : Array Value} {c : Nat} (h : Cells Y b cur c) (hν : ∀ nm, b.Has nm → X.ν (α nm) = Y.ν nm) (hI : ∀ b, Y.I b → X.I b)
    (hc : ∀ a u, Y.I a.block → Y.w.cell? a = some u → X.w.cell? a = some u) : Cells X (b.ren α) cur c :=
  ⟨by rw [B.ren_size]; exact h.le, fun j hj => let ⟨u, h1, h2⟩ := h.cell j (by rw [B.ren_size] at hj; exact hj); ⟨u, h1, h2.ren hν hI hc⟩, fun sz hs => h.own sz (by rw [B.ren_own] at hs; exact hs)⟩
structure Ren (b : Nat) (α : Nat → Nat) (s s' : S) : Prop where
  low : ∀ m, m < b → α m = m
  env : ∀ t v, s'.env t = some v → s.env t = some (v.ren α)
  st : ∀ m x, s'.st m = some x → s.st (α m) = some (x.ren α)
  inj : ∀ m m', s'.st m ≠ none → s'.st m' ≠ none → α m = α m' → m = m'
  bdE : ∀ t v, s'.env t = some v → ∀ m, v.Has m → m < s'.nx
  bdS : ∀ m x, s'.st m = some x → m < s'.nx ∧ ∀ k, x.Has k → k < s'.nx
  n : s'.n ≤ s.n
  b : b ≤ s'.nx
def Ctx.ren (X : Ctx) (α : Nat → Nat) : Ctx := ⟨fun m => X.ν (α m), X.I, X.w⟩
theorem Γ.ren {b : Nat} {α : Nat → Nat} {s s' : S} {H : Hp} {X : Ctx} {a : Act} (g : Γ H s X a) (r : Ren b α s s') : Γ H s' (X.ren α) a ∧ Step b X (X.ren α) := by
  have hne : ∀ m, s'.st m ≠ none → s.st (α m) ≠ none := fun m h => by
    obtain ⟨y, hy⟩ := Option.ne_none_iff_exists'.1 h
    rw [r.st m y hy]; simp
  refine ⟨{ dn := g.dn, n := Nat.le_trans r.n g.n, env := fun t v hv => ?_, blk := fun m x hx => ?_, inj := fun m m' bl c c' h h' e e' => ?_, sep := fun m bl c h e => g.sep (α m) bl c (hne m h) e, bd := r.bdS, fr := g.fr, sz := g.sz, imm := g.imm, out := g.out, gl := g.gl }, ⟨fun m hm => by simp [Ctx.ren, r.low m hm], fun _ h => h, fun _ _ _ h => h⟩⟩
  · have h1 := g.blk (α m) _ (r.st m x hx)
    unfold BDen at h1 ⊢
    show match X.ν (α m) with | none => _ | some (bl, c) => _
    cases hq : X.ν (α m) with
    | none => rw [hq] at h1; simpa [B.ren_size] using h1
    | some q =>
      obtain ⟨bl, c⟩ := q
      rw [hq] at h1
      obtain ⟨cur, ty, h2, h3⟩ := h1
      exact ⟨cur, ty, h2, h3.of_ren (fun _ _ => rfl) (fun _ h => h) (fun _ _ _ h => h)⟩
  · exact r.inj m m' h h' (g.inj (α m) (α m') bl c c' (hne m h) (hne m' h') e e')
  · obtain ⟨⟨u, h1, h2⟩, _⟩ := g.env t _ (r.env t v hv)
    exact ⟨⟨u, h1, h2.of_ren (fun _ _ => rfl) (fun _ h => h) (fun _ _ _ h => h)⟩, r.bdE t v hv⟩
def Rel (b : Nat) (s s' : S) : Prop := ∀ (H : Hp) (X : Ctx) (a : Act), b ≤ s.nx → Γ H s X a → ∃ X', X'.w = X.w ∧ Γ H s' X' a ∧ Step b X X' ∧ b ≤ s'.nx
theorem Ren.rel {b : Nat} {α : Nat → Nat} {s s' : S} (r : Ren b α s s') : Rel b s s' := fun _ X _ _ g =>
  let ⟨g', hs⟩ := g.ren r; ⟨X.ren α, rfl, g', hs, r.b⟩
theorem Rel.refl (b : Nat) (s : S) : Rel b s s := fun _ X _ hb g => ⟨X, rfl, g, .refl _ _, hb⟩
theorem Rel.trans {b : Nat} {s s' s2 : S} (r : Rel b s s') (r' : Rel b s' s2) : Rel b s s2 := fun H X a hb g =>
  let ⟨X', h1, h2, h3, h4⟩ := r H X a hb g
  let ⟨X2, k1, k2, k3, k4⟩ := r' H X' a h4 h2
  ⟨X2, k1.trans h1, k2, h3.trans k3 (Nat.le_refl _), k4⟩
theorem RunS.before {b : Nat} {c : Code} {s s' s2 : S} {e : Exit} (r : Rel b s s') (h : RunS b c s' e s2) : RunS b c s e s2 := by
  intro H X a hb g
  obtain ⟨X1, hw, g', hs, hb'⟩ := r H X a hb g
  rw [← hw]
  exact wp_mono (h H X1 a hb' g') fun e' a' w' ⟨h1, X', h2, h3, h4, h5⟩ => ⟨h1, X', h2, h3, hs.trans h4 (Nat.le_refl _), h5⟩
theorem RunS.behind {b : Nat} {c : Code} {s s1 s2 : S} {e : Exit} (h : RunS b c s e s1) (r : Rel b s1 s2) : RunS b c s e s2 := by
  intro H X a hb g
  refine wp_mono (h H X a hb g) fun e' a' w' ⟨h1, X', h2, h3, h4, h5⟩ => ?_
  obtain ⟨X2, hw, g', hs, hb'⟩ := r H X' a' h5 h3
  exact ⟨h1, X2, hw.trans h2, g', h4.trans hs (Nat.le_refl _), hb'⟩
theorem WpS.weaken {b : Nat} {c : Code} {s s' : S} {Q : Exit → S → Prop} (r : Rel b s s') (h : WpS b c s' Q) : WpS b c s Q :=
  let ⟨e, s2, h1, h2⟩ := h; ⟨e, s2, h1, h2.before r⟩
theorem WpS.loop {b : Nat} {c : Code} {s : S} {Q : Exit → S → Prop} {ι : Type} (I : ι → S) (Inv : ι → Prop) (μ : ι → Nat) (x0 : ι) (h0 : Inv x0) (hr : Rel b s (I x0))
    (h : ∀ x, Inv x → WpS b c (I x) (thenQ (fun s1 => ∃ y, Inv y ∧ μ y < μ x ∧ Rel b s1 (I y)) Q)) : WpS b (.loop c) s Q := by
  have key : ∀ n x, μ x = n → Inv x → ∃ e s' m, Q e s' ∧ LRun b c (I x) e s' m := by
    intro n
    induction n using Nat.strongRecOn with
    | _ n ih =>
      intro x hn hx
      obtain ⟨e, s1, h1, h2⟩ := h x hx
      by_cases he : e = .normal
      · subst he
        obtain ⟨y, h3, h4, h5⟩ := h1
        obtain ⟨e2, s2, m, k1, k2⟩ := ih (μ y) (hn ▸ h4) y rfl h3
        exact ⟨e2, s2, m + 1, k1, .more (h2.behind h5) k2⟩
      · refine ⟨e, s1, 0, ?_, .out h2 he⟩
        cases e <;> first | exact (he rfl).elim | exact h1
  obtain ⟨e, s', m, h1, h2⟩ := key _ x0 rfl h0
  exact WpS.weaken hr ⟨e, s', h1, h2.run⟩
theorem WpS.round {b : Nat} {c : Code} {s : S} {Q : Exit → S → Prop} (h : WpS b c s (thenQ (fun s1 => ∃ e s' n, Q e s' ∧ LRun b c s1 e s' n) Q)) : ∃ e s' n, Q e s' ∧ LRun b c s e s' n := by
  obtain ⟨e, s1, h1, h2⟩ := h
  by_cases he : e = .normal
  · subst he
    obtain ⟨e2, s2, n, k1, k2⟩ := h1
    exact ⟨e2, s2, n + 1, k1, .more h2 k2⟩
  · refine ⟨e, s1, 0, ?_, .out h2 he⟩
    cases e <;> first | exact (he rfl).elim | exact h1
theorem WpS.rounds {b : Nat} {c : Code} {s : S} {Q : Exit → S → Prop} (h : ∃ e s' n, Q e s' ∧ LRun b c s e s' n) : WpS b (.loop c) s Q :=
  let ⟨e, s', _, h1, h2⟩ := h; ⟨e, s', h1, h2.run⟩
def mkE : List (Nat × V) → Nat → Option V
  | [], _ => none
  | (t, v) :: r, x => bif Nat.beq x t then some v else mkE r x
def mkS : List (Option B) → Nat → Option B
  | [], _ => none
  | x :: _, 0 => x
  | _ :: r, n + 1 => mkS r n
def C.lo (n : Nat) : C → Bool
  | .p nm _ | .sl nm _ _ _ | .osl nm _ => Nat.blt nm n
  | _ => true
def belowL (n : Nat) : List C → Bool
  | [] => true
  | c :: r => match c.lo n with
    | true => belowL n r
    | false => false
mutual
def V.lo (n : Nat) : V → Bool
  | .c x => x.lo n
  | .ag cs => belowL n cs
  | .tu vs => belowVs n vs
def belowVs (n : Nat) : List V → Bool
  | [] => true
  | v :: r => match v.lo n with
    | true => belowVs n r
    | false => false
end
def B.lo (n : Nat) : B → Bool
  | .st cs => belowL n cs
  | _ => true
theorem C.lo_ok {n : Nat} {c : C} (h : c.lo n = true) : ∀ m, c.Has m → m < n := by
  intro m hm
  cases c <;> simp only [C.Has] at hm
  all_goals (subst hm; exact Nat.le_of_ble_eq_true h)
theorem belowL_ok {n : Nat} : ∀ {cs : List C}, belowL n cs = true → ∀ c ∈ cs, c.lo n = true
  | [], _, c, hc => by simp at hc
  | x :: r, h, c, hc => by
    simp only [belowL] at h
    split at h
    · rename_i hx
      rcases List.mem_cons.1 hc with rfl | hc
      · exact hx
      · exact belowL_ok h c hc
    · cases h
theorem belowVs_ok {n : Nat} : ∀ {vs : List V}, belowVs n vs = true → ∀ v ∈ vs, v.lo n = true
  | [], _, c, hc => by simp at hc
  | x :: r, h, c, hc => by
    simp only [belowVs] at h
    split at h
    · rename_i hx
      rcases List.mem_cons.1 hc with rfl | hc
      · exact hx
      · exact belowVs_ok h c hc
    · cases h
theorem V.lo_ok {n : Nat} {v : V} (h : v.lo n = true) : ∀ m, v.Has m → m < n := by
  intro m hm
  induction hm with
  | c h' => exact C.lo_ok h _ h'
  | ag hc h' => exact C.lo_ok (belowL_ok h _ hc) _ h'
  | tu hv _ ih => exact ih (belowVs_ok h _ hv)
theorem B.lo_ok {n : Nat} {b : B} (h : b.lo n = true) : ∀ m, b.Has m → m < n := by
  intro m hm
  cases hm with | st hc h' => exact C.lo_ok (belowL_ok h _ hc) _ h'
def envEq (e : Nat → Option V) (α : Nat → Nat) : List (Nat × V) → Prop
  | [] => True
  | (t, v) :: r => e t = some (v.ren α) ∧ envEq e α r
def stEq (st : Nat → Option B) (α : Nat → Nat) : Nat → List (Option B) → Prop
  | _, [] => True
  | i, none :: r => stEq st α (i + 1) r
  | i, some x :: r => st (α i) = some (x.ren α) ∧ stEq st α (i + 1) r
def allE (n : Nat) : List (Nat × V) → Bool
  | [] => true
  | (_, v) :: r => match v.lo n with
    | true => allE n r
    | false => false
def allS (n : Nat) : List (Option B) → Bool
  | [] => true
  | none :: r => allS n r
  | some x :: r => match x.lo n with
    | true => allS n r
    | false => false
def notIn (α : Nat → Nat) (m : Nat) : Nat → List (Option B) → Bool
  | _, [] => true
  | i, none :: r => notIn α m (i + 1) r
  | i, some _ :: r => match Nat.beq (α i) m with
    | true => false
    | false => notIn α m (i + 1) r
def injS (α : Nat → Nat) : Nat → List (Option B) → Bool
  | _, [] => true
  | i, none :: r => injS α (i + 1) r
  | i, some _ :: r => match notIn α (α i) (i + 1) r with
    | true => injS α (i + 1) r
    | false => false
def al : List (Nat × Nat) → Nat → Nat
  | [], m => m
  | (x, y) :: r, m => bif Nat.beq m x then y else al r m
def alLow (b : Nat) : List (Nat × Nat) → Bool
  | [] => true
  | (x, _) :: r => match Nat.ble b x with
    | true => alLow b r
    | false => false
theorem al_low {b : Nat} : ∀ {l : List (Nat × Nat)}, alLow b l = true → ∀ m, m < b → al l m = m
  | [], _, m, _ => rfl
  | (x, y) :: r, h, m, hm => by
    simp only [alLow] at h
    split at h
    · rename_i hx
      have := Nat.le_of_ble_eq_true hx
      simp only [al, beq_ne (show m ≠ x by omega), cond_false]
      exact al_low h m hm
    · cases h
theorem mkE_eq {e : Nat → Option V} {α : Nat → Nat} : ∀ {l : List (Nat × V)}, envEq e α l → ∀ t v, mkE l t = some v → e t = some (v.ren α)
  | [], _, t, v, h => by cases h
  | (x, y) :: r, hl, t, v, h => by
    by_cases hx : t = x
    · subst hx; simp only [mkE, Nat.beq_refl, cond_true] at h; cases h; exact hl.1
    · simp only [mkE, beq_ne hx, cond_false] at h; exact mkE_eq hl.2 t v h
theorem mkE_all {n : Nat} : ∀ {l : List (Nat × V)}, allE n l = true → ∀ t v, mkE l t = some v → ∀ m, v.Has m → m < n
  | [], _, t, v, h => by cases h
  | (x, y) :: r, hl, t, v, h => by
    simp only [allE] at hl
    split at hl
    · rename_i hb
      by_cases hx : t = x
      · subst hx; simp only [mkE, Nat.beq_refl, cond_true] at h; cases h; exact V.lo_ok hb
      · simp only [mkE, beq_ne hx, cond_false] at h; exact mkE_all hl t v h
    · cases hl
theorem mkS_eq {st : Nat → Option B} {α : Nat → Nat} : ∀ {l : List (Option B)} {i : Nat}, stEq st α i l → ∀ m x, mkS l m = some x → st (α (i + m)) = some (x.ren α)
  | [], i, _, m, x, h => by cases h
  | none :: r, i, hl, m, x, h => by
    cases m with
    | zero => cases h
    | succ m => have := mkS_eq (i := i + 1) hl m x h; rwa [show i + 1 + m = i + (m + 1) by omega] at this
  | some y :: r, i, hl, m, x, h => by
    cases m with
    | zero => cases h; exact hl.1
    | succ m => have := mkS_eq (i := i + 1) hl.2 m x h; rwa [show i + 1 + m = i + (m + 1) by omega] at this
theorem mkS_all {n : Nat} : ∀ {l : List (Option B)}, allS n l = true → ∀ m x, mkS l m = some x → m < l.length ∧ ∀ k, x.Has k → k < n
  | [], _, m, x, h => by cases h
  | none :: r, hl, m, x, h => by
    cases m with
    | zero => cases h
    | succ m => have := mkS_all (l := r) hl m x h; exact ⟨by simp; omega, this.2⟩
  | some y :: r, hl, m, x, h => by
    simp only [allS] at hl
    split at hl
    · rename_i hb
      cases m with
      | zero => cases h; exact ⟨by simp, B.lo_ok hb⟩
      | succ m => have := mkS_all (l := r) hl m x h; exact ⟨by simp; omega, this.2⟩
    · cases hl
theorem notIn_ok {α : Nat → Nat} {m : Nat} : ∀ {l : List (Option B)} {i : Nat}, notIn α m i l = true → ∀ k, mkS l k ≠ none → α (i + k) ≠ m
  | [], i, _, k, h => (h rfl).elim
  | none :: r, i, hl, k, h => by
    cases k with
    | zero => exact (h rfl).elim
    | succ k => have := notIn_ok (i := i + 1) hl k h; rwa [show i + 1 + k = i + (k + 1) by omega] at this
  | some y :: r, i, hl, k, h => by
    simp only [notIn] at hl
    split at hl
    · cases hl
    · rename_i hb
      cases k with
      | zero => intro he; rw [Nat.add_zero] at he; rw [he, Nat.beq_refl] at hb; cases hb
      | succ k => have := notIn_ok (i := i + 1) hl k h; rwa [show i + 1 + k = i + (k + 1) by omega] at this
theorem injS_ok {α : Nat → Nat} : ∀ {l : List (Option B)} {i : Nat}, injS α i l = true → ∀ k k', mkS l k ≠ none → mkS l k' ≠ none → α (i + k) = α (i + k') → k = k'
  | [], i, _, k, k', h, _, _ => (h rfl).elim
  | none :: r, i, hl, k, k', h, h', he => by
    cases k with
    | zero => exact (h rfl).elim
    | succ k => cases k' with
      | zero => exact (h' rfl).elim
      | succ k' => rw [injS_ok (i := i + 1) hl k k' h h' (by rwa [show i + 1 + k = i + (k + 1) by omega, show i + 1 + k' = i + (k' + 1) by omega])]
  | some y :: r, i, hl, k, k', h, h', he => by
    simp only [injS] at hl
    split at hl
    · rename_i hb
      cases k with
      | zero => cases k' with
        | zero => rfl
        | succ k' => exact (notIn_ok hb k' h' (by rw [show i + 1 + k' = i + (k' + 1) by omega, ← he]; rfl)).elim
      | succ k => cases k' with
        | zero => exact (notIn_ok hb k h (by rw [show i + 1 + k = i + (k + 1) by omega, he]; rfl)).elim
        | succ k' => rw [injS_ok (i := i + 1) hl k k' h h' (by rwa [show i + 1 + k = i + (k + 1) by omega, show i + 1 + k' = i + (k' + 1) by omega])]
    · cases hl
def mkSt (E : List (Nat × V)) (L : List (Option B)) (n : Nat) : S := ⟨mkE E, mkS L, L.length, n⟩
def renOk (b : Nat) (l : List (Nat × Nat)) (E : List (Nat × V)) (L : List (Option B)) (n n' : Nat) : Bool :=
  alLow b l && allE L.length E && allS L.length L && injS (al l) 0 L && Nat.ble n n' && Nat.ble b L.length
theorem Ren.of {b : Nat} {s : S} {E : List (Nat × V)} {L : List (Option B)} {n : Nat} (l : List (Nat × Nat)) (h : renOk b l E L n s.n = true) (he : envEq s.env (al l) E) (hs : stEq s.st (al l) 0 L) : Ren b (al l) s (mkSt E L n) := by
  simp only [renOk, Bool.and_eq_true] at h
  obtain ⟨⟨⟨⟨⟨h1, h2⟩, h3⟩, h4⟩, h5⟩, h6⟩ := h
  exact ⟨al_low h1, mkE_eq he, fun m x hx => by have := mkS_eq hs m x hx; rwa [Nat.zero_add] at this, fun m m' h h' e => injS_ok h4 m m' h h' (by simpa using e), mkE_all h2, fun m x hx => mkS_all h3 m x hx, Nat.le_of_ble_eq_true h5, Nat.le_of_ble_eq_true h6⟩
theorem Rel.of {b : Nat} {e : Nat → Option V} {st st' : Nat → Option B} {nx n : Nat} (E : List (Nat × V)) (he : envEq e id E) (hst : st = st') : Rel b ⟨e, st, nx, n⟩ ⟨mkE E, st', nx, n⟩ := by
  subst hst
  intro H X a hb g
  refine ⟨X, rfl, { toHs := g.toHs, dn := g.dn, n := g.n, env := fun t v hv => ?_ }, .refl _ _, hb⟩
  have h1 := g.env t _ (mkE_eq he t v hv)
  have hr : ∀ v : V, v.ren id = v := by
    have hc : C.ren id = id := funext fun c => by cases c <;> rfl
    have hm : ∀ cs : List C, cs.map (C.ren id) = cs := fun cs => by rw [hc, List.map_id]
    intro v
    induction v using V.rec (motive_2 := fun vs => renVs id vs = vs) with
    | c x => show V.c (C.ren id x) = V.c x; rw [hc]; rfl
    | ag cs => show V.ag (cs.map (C.ren id)) = V.ag cs; rw [hm]
    | tu vs ih => show V.tu (renVs id vs) = V.tu vs; rw [ih]
    | nil => rfl
    | cons v r ih1 ih2 => simp only [renVs, ih1, ih2]
  rw [hr] at h1
  exact h1
theorem Ren.relOf {b : Nat} {s : S} {E : List (Nat × V)} {L : List (Option B)} {n : Nat} (l : List (Nat × Nat)) (h : renOk b l E L n s.n = true) (he : envEq s.env (al l) E) (hs : stEq s.st (al l) 0 L) : Rel b s (mkSt E L n) := (Ren.of l h he hs).rel
end Go.SX
