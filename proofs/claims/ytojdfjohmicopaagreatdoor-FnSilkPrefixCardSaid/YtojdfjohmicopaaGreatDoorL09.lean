/- A part of the proof: the SILK decoder of the given program, walked by an executor that is proved sound. No statement of the program is proved in this text. -/
import Derived.Tactics
import Derived.Test.YtojdfjohmicopaaGreatDoorL08
set_option linter.all false
set_option maxRecDepth 100000
namespace Go.SX
open Go
theorem Γ.seen {H : Hp} {s : S} {X : Ctx} {a : Act} (g : Γ H s X a) (o : Oper) : Seen o s.env a X s.nx := by
  intro x _ v hx
  cases x with
  | tmp t =>
    obtain ⟨⟨u, h1, h2⟩, h3⟩ := g.env t v hx
    refine ⟨?_, h3⟩
    have : a.eval (.tmp t) = u := by simp [Act.eval, Array.getD_eq_getD_getElem?, h1]
    rw [this]; exact h2
  | const c =>
    simp only [rd, Option.some.injEq] at hx
    subst hx
    exact ⟨cv_den X c, fun nm h => (cv_has c nm h).elim⟩
  | _ => cases hx
theorem step_wp {H : Hp} {s : S} {X : Ctx} {a : Act} (g : Γ H s X a) {o : Oper} (hd : ∀ t, o.dst = some t → t < s.n) {v : V} {st' : Nat → Option B} {nx' : Nat} (h : OpX o s.env s.st s.nx v st' nx')
    {K : Act → World → Prop} {Q : Exit → Act → World → Prop} (hK : ∀ X' a', Γ H (s.set o.dst v st' nx') X' a' → Step s.nx X X' → s.nx ≤ nx' → K a' X'.w) : o.wp P a X.w K Q := by
  refine h H X a K Q g.toHs (g.seen o) fun X' u h1 h2 h3 h4 h5 => ?_
  have g' := g.step h1 h2 h3
  refine hK X' _ ?_ h2 h3
  cases hq : o.dst with
  | none => exact g'
  | some t => exact g'.put (hd t hq) h4 h5
theorem wanted_none {o : Oper} {y : Nat → Option Bool} (h : o.guard = none) : Region.wanted o y = true := by simp [Region.wanted, h]
theorem wanted_of {ops : Array Oper} {H : Hp} {s : S} {X : Ctx} {a : Act} (g : Γ H s X a) {o : Oper} {x : Bool} (h : gOf ops.toList o s.env = some x) : Region.wanted o (yielded ops a.tmps) = x := by
  unfold gOf at h
  cases hg : o.guard with
  | none => rw [hg] at h; cases h; exact wanted_none hg
  | some q =>
    obtain ⟨k, w⟩ := q
    rw [hg] at h
    simp only at h
    cases hs : slotAt ops.toList k with
    | none => rw [hs] at h; cases h
    | some u =>
      rw [hs] at h
      simp only at h
      split at h
      · rename_i y hy
        cases h
        obtain ⟨⟨z, h1, h2⟩, _⟩ := g.env u _ hy
        have hz : z = .bool y := by
          cases h2 with | c h2 => cases h2; rfl
        subst hz
        have hyl : yielded ops a.tmps k = some y := by
          rw [slotAt_eq] at hs
          simp only [Array.getElem?_toList] at hs
          simp [yielded, hs, h1]
        simp [Region.wanted, hg, hyl]
      · rename_i hy
        cases h
        obtain ⟨⟨z, h1, h2⟩, _⟩ := g.env u _ hy
        cases h2 with
        | @tu _ us hus _ =>
          have hyl : yielded ops a.tmps k = none := by
            rw [slotAt_eq] at hs
            simp only [Array.getElem?_toList] at hs
            simp [yielded, hs, h1]
          simp [Region.wanted, hg, hyl]
      · cases h
theorem stepG_wp {M : (Nat → Option B) → Prop} {k : Nat} {ops : Array Oper} {H : Hp} {s : S} {X : Ctx} {a : Act} (g : Γ H s X a) {o : Oper} (hd : ∀ t, o.dst = some t → t < s.n) {v : V} {st' : Nat → Option B} {nx' : Nat} (h : StpG M k ops.toList o s.env s.st s.nx v st' nx')
    {K : Act → World → Prop} {Q : Exit → Act → World → Prop} (hK : ∀ X' a', Γ H (s.set o.dst v st' nx') X' a' → Step s.nx X X' → s.nx ≤ nx' → K a' X'.w) :
    if Region.wanted o (yielded ops a.tmps) then o.wp P a X.w K Q ∨ (o.asks P a X.w ∧ LetsOut Q) else K (a.put o.dst undef) X.w := by
  rcases h with ⟨hg, h⟩ | ⟨hg, rfl, rfl, rfl⟩
  · rw [wanted_of g hg, if_pos rfl]
    exact .inl (step_wp g hd h.opX hK)
  · rw [wanted_of g hg, if_neg (by simp)]
    refine hK X _ ?_ (.refl _ _) (Nat.le_refl _)
    cases hq : o.dst with
    | none => exact g
    | some t => exact g.put (hd t hq) (.tu rfl fun i v u h => by simp at h) (fun nm h => by cases h with | tu h => cases h)
def rem (ops : Array Oper) (listed : Array Bool) : List Nat := (List.range ops.size).filter fun j => !listed.getD j true
theorem mem_rem {ops : Array Oper} {listed : Array Bool} {j : Nat} : j ∈ rem ops listed ↔ j < ops.size ∧ listed.getD j true = false := by
  simp [rem, List.mem_filter]
theorem rem_sorted (ops : Array Oper) (listed : Array Bool) : (rem ops listed).Pairwise (· < ·) := List.Pairwise.filter _ List.pairwise_lt_range
theorem rem_set {ops : Array Oper} {listed : Array Bool} {i : Nat} {pre post : List Nat} (h : rem ops listed = pre ++ i :: post) (hl : i < listed.size) : rem ops (listed.setIfInBounds i true) = pre ++ post := by
  have hs := rem_sorted ops listed
  rw [h, List.pairwise_append, List.pairwise_cons] at hs
  obtain ⟨_, ⟨h1, _⟩, h2⟩ := hs
  have e : rem ops (listed.setIfInBounds i true) = (rem ops listed).filter fun j => j != i := by
    unfold rem
    rw [List.filter_filter]
    refine List.filter_congr fun j _ => ?_
    by_cases hj : j = i
    · subst hj; simp [hl]
    · rw [getD_set_ne true (Ne.symm hj)]; simp [hj]
  rw [e, h, List.filter_append, List.filter_cons]
  simp only [bne_self_eq_false, Bool.false_eq_true, if_false]
  rw [List.filter_eq_self.2 fun j hj => ?_, List.filter_eq_self.2 fun j hj => ?_]
  · have := h1 j hj; simp; omega
  · have := h2 j hj i (by simp); simp; omega
theorem okDraw_spec {cl : Nat → Nat} {ops : Array Oper} (h : okDraw cl ops = true) : ∀ (i : Nat) o, ops[i]? = some o → (∀ j, j < i → okPair cl ops i j = true) ∧ ∀ e ∈ o.after, Region.binds .any e = true → e.on < i := by
  intro i o ho
  have hi : i < ops.size := (Array.getElem?_eq_some_iff.1 ho).1
  have := List.all_eq_true.1 h i (by simpa using hi)
  rw [ho] at this
  simp only [Bool.and_eq_true, List.all_eq_true, List.mem_range] at this
  obtain ⟨h1, h2⟩ := this
  refine ⟨h1, fun e he hb => ?_⟩
  have := Array.all_eq_true_iff_forall_mem.1 h2 e he
  rw [hb] at this
  have h9 : e.on < i := by simpa using this
  exact h9
def Closed (ops : Array Oper) (listed : Array Bool) : Prop := ∀ j o, ops[j]? = some o → listed.getD j false = true → ∀ e ∈ o.after, Region.binds .any e = true → listed.getD e.on false = true
theorem Closed.waits {ops : Array Oper} {listed : Array Bool} (hc : Closed ops listed) : ∀ (fuel i j : Nat) (o : Oper), ops[i]? = some o → (∀ e ∈ o.after, Region.binds .any e = true → listed.getD e.on false = true) →
    SX.waits ops fuel i j = true → listed.getD j false = true
  | 0, i, j, o, _, _, h => by cases h
  | fuel + 1, i, j, o, ho, hall, h => by
    simp only [SX.waits, ho, Bool.or_eq_true] at h
    rcases h with h | h
    · obtain ⟨e, he, hb⟩ := Array.any_eq_true'.1 h
      simp only [Bool.and_eq_true, beq_iff_eq] at hb
      have := hall e he hb.1
      rw [hb.2] at this; exact this
    · obtain ⟨e, he, hb⟩ := Array.any_eq_true'.1 h
      simp only [Bool.and_eq_true] at hb
      have hl := hall e he hb.1
      cases ho2 : ops[e.on]? with
      | none =>
        cases fuel with
        | zero => cases hb.2
        | succ f => simp [SX.waits, ho2] at hb
      | some o2 => exact hc.waits fuel e.on j o2 ho2 (hc e.on o2 ho2 hl) hb.2
theorem Closed.set {ops : Array Oper} {listed : Array Bool} (hc : Closed ops listed) {i : Nat} {o : Oper} (ho : ops[i]? = some o) (hall : ∀ e ∈ o.after, Region.binds .any e = true → listed.getD e.on false = true) : Closed ops (listed.setIfInBounds i true) := by
  intro j o2 ho2 hj e he hb
  by_cases hji : j = i
  · subst hji
    rw [ho] at ho2; cases ho2
    exact getD_set_true (hall e he hb)
  · rw [getD_set_ne false (Ne.symm hji)] at hj
    exact getD_set_true (hc j o2 ho2 hj e he hb)
theorem por {M : (Nat → Option B) → Prop} {cl : Nat → Nat} {ops : Array Oper} (hok : okDraw cl ops = true) {H : Hp} {s' : S} {Q : Exit → Act → World → Prop} : ∀ (fuel : Nat) (listed : Array Bool) (s : S) (a : Act) (X : Ctx), Closed ops listed → listed.size = ops.size → Γ H s X a →
    Chain M cl ops (rem ops listed) s s' → (rem ops listed).length ≤ fuel → (∀ X' a', Γ H s' X' a' → Step s.nx X X' → s.nx ≤ s'.nx → Q .normal a' X'.w) → wpAny P .any ops Q fuel listed a X.w := by
  intro fuel
  have empty : ∀ (listed : Array Bool), listed.size = ops.size → Region.ready .any ops listed = [] → rem ops listed = [] := by
    intro listed hsz hr
    cases hq : rem ops listed with
    | nil => rfl
    | cons i R =>
      exfalso
      have hi : i ∈ rem ops listed := by rw [hq]; simp
      obtain ⟨h1, h2⟩ := mem_rem.1 hi
      have hs := rem_sorted ops listed
      rw [hq, List.pairwise_cons] at hs
      have hrd : i ∈ Region.ready .any ops listed := by
        rw [mem_ready]
        refine ⟨h2, ops[i], Array.getElem?_eq_getElem h1, fun e he hb0 => ?_⟩
        have hlt := (okDraw_spec hok i ops[i] (Array.getElem?_eq_getElem h1)).2 e he hb0
        cases hb : listed.getD e.on true with
        | true =>
          have : e.on < listed.size := by omega
          simpa [this] using hb
        | false =>
          have : e.on ∈ rem ops listed := mem_rem.2 ⟨by omega, hb⟩
          rw [hq] at this
          rcases List.mem_cons.1 this with h | h
          · omega
          · have := hs.1 _ h; omega
      rw [hr] at hrd; cases hrd
  have fin : ∀ (listed : Array Bool) (s : S) (a : Act) (X : Ctx), listed.size = ops.size → Γ H s X a → Chain M cl ops (rem ops listed) s s' →
      (∀ X' a', Γ H s' X' a' → Step s.nx X X' → s.nx ≤ s'.nx → Q .normal a' X'.w) → Region.ready .any ops listed = [] → Q .normal a X.w := by
    intro listed s a X hsz g hch hQ hr
    rw [empty listed hsz hr] at hch
    cases hch
    exact hQ X a g (.refl _ _) (Nat.le_refl _)
  induction fuel with
  | zero =>
    intro listed s a X _ hsz g hch hl hQ
    have hnil : rem ops listed = [] := List.eq_nil_of_length_eq_zero (Nat.le_zero.1 hl)
    have hr : Region.ready .any ops listed = [] := by
      cases hq : Region.ready .any ops listed with
      | nil => rfl
      | cons i R =>
        have : i ∈ Region.ready .any ops listed := by rw [hq]; simp
        obtain ⟨h1, o, h2, _⟩ := mem_ready.1 this
        have : i ∈ rem ops listed := mem_rem.2 ⟨(Array.getElem?_eq_some_iff.1 h2).1, h1⟩
        rw [hnil] at this; cases this
    exact ⟨hr, fin listed s a X hsz g hch hQ hr⟩
  | succ fuel ih =>
    intro listed s a X hcl hsz g hch hl hQ
    refine ⟨fin listed s a X hsz g hch hQ, fun i hi => ?_⟩
    obtain ⟨h1, oi, hoi, hall⟩ := mem_ready.1 hi
    have hisz : i < ops.size := (Array.getElem?_eq_some_iff.1 hoi).1
    have him : i ∈ rem ops listed := mem_rem.2 ⟨hisz, h1⟩
    obtain ⟨pre, post, hpp⟩ := List.append_of_mem him
    have hs := rem_sorted ops listed
    rw [hpp, List.pairwise_append] at hs
    have hpre : ∀ j ∈ pre, ∃ oj, ops[j]? = some oj ∧ compat (cl i) (cl j) = true ∧ oi.apart ops oj = true := by
      intro j hj
      have hji : j < i := hs.2.2 j hj i (by simp)
      have hjm : j ∈ rem ops listed := by rw [hpp]; simp [hj]
      obtain ⟨hj1, hj2⟩ := mem_rem.1 hjm
      have hp := (okDraw_spec hok i oi hoi).1 j hji
      unfold okPair at hp
      rw [hoi, Array.getElem?_eq_getElem hj1] at hp
      simp only [Bool.or_eq_true, Bool.and_eq_true] at hp
      rcases hp with ⟨hp1, hp2⟩ | hp
      rotate_left
      · have h3 := hcl.waits 6 i j oi hoi hall hp
        have : j < listed.size := by omega
        simp [this] at h3 hj2
        rw [h3] at hj2; cases hj2
      · exact ⟨ops[j], Array.getElem?_eq_getElem hj1, hp1, hp2⟩
    rw [hpp] at hch
    obtain ⟨g2, v, st1, nx1, g3, g4⟩ := hch.front hoi hpre
    have hset := rem_set hpp (by omega : i < listed.size)
    unfold wpOp
    rw [hoi]
    refine stepG_wp g g2 g3 fun X' a' k1 k2 k3 => ?_
    refine ih (listed.setIfInBounds i true) _ a' X' (hcl.set hoi hall) (by simp [hsz]) k1 (by rw [hset]; exact g4) ?_ fun X2 a2 m1 m2 m3 => hQ X2 a2 m1 (k2.trans m2 k3) (Nat.le_trans k3 m3)
    rw [hset]
    rw [hpp] at hl
    simp at hl ⊢
    omega
inductive OpQ (op : Op) (e : Nat → Option V) (st : Nat → Option B) (nx : Nat) (K : V → (Nat → Option B) → Nat → Prop) : Prop
  | mk (v : V) (st' : Nat → Option B) (nx' : Nat) (h : ∀ o : Oper, o.op = op → OpX o e st nx v st' nx') (hk : K v st' nx')
def isExt (f : Nat) : Bool := Nat.beq f 274 || Nat.beq f 312 || Nat.beq f 316 || Nat.beq f 317
def callV (c : Call) (e : Nat → Option V) (st : Nat → Option B) (nx : Nat) (K : V → (Nat → Option B) → Nat → Prop) : Prop :=
  match c with
  | ⟨.builtin .append, args, ts⟩ => match args.toList, ts.toList with
    | [x, y], [t, t'] => match Nat.beq t t', rd e x, rd e y with
      | true, some (.c b), some (.c c) => match appM t b c st nx with
        | .ok v st nx => K v st nx
        | .cond φ v st nx => φ ∧ K v st nx
        | .no => OpQ (.call ⟨.builtin .append, args, ts⟩) e st nx K
      | _, _, _ => OpQ (.call ⟨.builtin .append, args, ts⟩) e st nx K
    | _, _ => False
  | ⟨.builtin .clear, args, ts⟩ => match args.toList, ts.toList with
    | [x], [t] => match rd e x with
      | some (.c b) => match clearM t b st nx with
        | .ok v st nx => K v st nx
        | .cond φ v st nx => φ ∧ K v st nx
        | .no => False
      | _ => False
    | _, _ => False
  | ⟨.builtin .copy, args, ts⟩ => match args.toList, ts.toList with
    | [x, y], [t, t'] => match Nat.beq t t', rd e x, rd e y with
      | true, some (.c b), some (.c c) => match copyM t b c st nx with
        | .ok v st nx => K v st nx
        | .cond φ v st nx => φ ∧ K v st nx
        | .no => OpQ (.call ⟨.builtin .copy, args, ts⟩) e st nx K
      | _, _, _ => OpQ (.call ⟨.builtin .copy, args, ts⟩) e st nx K
    | _, _ => False
  | ⟨.value (.func f), args, ts⟩ => match isExt f with
    | true => OpQ (.call ⟨.value (.func f), args, ts⟩) e st nx K
    | false => match rds (rd e) args.toList with
      | some vs => CallQ f vs st nx K
      | none => False
  | c => OpQ (.call c) e st nx K
def anyV (op : Op) (e : Nat → Option V) (st : Nat → Option B) (nx : Nat) (K : V → (Nat → Option B) → Nat → Prop) : Prop :=
  match pureV op (rd e) with
  | .ok v => K v st nx
  | .cond φ v => φ ∧ K v st nx
  | .no => match memV op (rd e) st nx with
    | .ok v st nx => K v st nx
    | .cond φ v st nx => φ ∧ K v st nx
    | .no => match op with
      | .call c => callV c e st nx K
      | op => OpQ op e st nx K
def dstV (n : Nat) (d : Option Nat) (e : Nat → Option V) (F : (V → (Nat → Option B) → Nat → Prop) → Prop) (K : (Nat → Option V) → (Nat → Option B) → Nat → Prop) : Prop :=
  match d with
  | none => F fun _ st nx => K e st nx
  | some t => match Nat.blt t n with
    | true => F fun v st nx => K (upd e t v) st nx
    | false => False
def guardV (l : List Oper) (g : Option (Nat × Bool)) (e : Nat → Option V) (st : Nat → Option B) (nx : Nat) (F : (Nat → Option V) → (V → (Nat → Option B) → Nat → Prop) → Prop)
    (G : (Nat → Option V) → ((V → (Nat → Option B) → Nat → Prop) → Prop) → Prop) : Prop :=
  match g with
  | none => G e (F e)
  | some (g, w) => match slotAt l g with
    | some u => match e u with
      | some (.c (.b x)) =>
        (x = true → match w with
          | true => G (upd e u (.c (.b true))) (F (upd e u (.c (.b true))))
          | false => G (upd e u (.c (.b true))) fun K => K (.tu []) st nx) ∧
        (x = false → match w with
          | false => G (upd e u (.c (.b false))) (F (upd e u (.c (.b false))))
          | true => G (upd e u (.c (.b false))) fun K => K (.tu []) st nx)
      | some (.tu []) => G e fun K => K (.tu []) st nx
      | _ => False
    | none => False
def VOs (n : Nat) (l : List Oper) : List Oper → (Nat → Option V) → (Nat → Option B) → Nat → ((Nat → Option V) → (Nat → Option B) → Nat → Prop) → Prop
  | [], e, st, nx, K => K e st nx
  | ⟨d, op, _, _, _, g⟩ :: r, e, st, nx, K => guardV l g e st nx (fun e => anyV op e st nx) fun e F => dstV n d e F fun e st nx => VOs n l r e st nx K
def drawV (nx0 : Nat) (op : Op) (e : Nat → Option V) (st : Nat → Option B) (nx : Nat) (K : V → (Nat → Option B) → Nat → Prop) : Prop :=
  match cls op with
  | 0 => match pureV op (rd e) with
    | .ok v => K v st nx
    | .cond φ v => φ ∧ K v st nx
    | .no => False
  | 1 => match pureV op (rd e) with
    | .ok v => K v st nx
    | .cond φ v => φ ∧ K v st nx
    | .no => match op with
      | .load t x => match rd e x with
        | some (.c (.p nm off)) => match Nat.blt nm nx0, st nm with
          | true, some b => match loadM t off b with
            | .ok v => K v st nx
            | .cond φ v => φ ∧ K v st nx
            | .no => False
          | _, _ => False
        | _ => False
      | _ => False
  | 2 => match Nat.ble nx0 nx, memV op (rd e) st nx with
    | true, .ok v st nx => K v st nx
    | true, .cond φ v st nx => φ ∧ K v st nx
    | _, _ => False
  | _ => False
def lateV (op : Op) (e : Nat → Option V) (st : Nat → Option B) (nx : Nat) (K : V → (Nat → Option B) → Nat → Prop) : Prop :=
  match cls op with
  | 0 => match pureV op (rd e) with
    | .ok v => K v st nx
    | .cond φ v => φ ∧ K v st nx
    | .no => False
  | _ => anyV op e st nx K
def VDs (n nx0 : Nat) (l : List Oper) : Bool → List Oper → (Nat → Option V) → (Nat → Option B) → Nat → ((Nat → Option V) → (Nat → Option B) → Nat → Prop) → Prop
  | _, [], e, st, nx, K => K e st nx
  | true, ⟨d, op, _, _, _, g⟩ :: r, e, st, nx, K => guardV l g e st nx (fun e => lateV op e st nx) fun e F => dstV n d e F fun e st nx => VDs n nx0 l true r e st nx K
  | false, ⟨d, op, _, _, _, g⟩ :: r, e, st, nx, K => match cls op with
    | 3 => guardV l g e st nx (fun e => anyV op e st nx) fun e F => dstV n d e F fun e st nx => VDs n nx0 l true r e st nx K
    | _ => guardV l g e st nx (fun e => drawV nx0 op e st nx) fun e F => dstV n d e F fun e st nx => VDs n nx0 l false r e st nx K
theorem callV_ok {o : Oper} {c : Call} {e : Nat → Option V} {st : Nat → Option B} {nx : Nat} {K : V → (Nat → Option B) → Nat → Prop} (ho : o.op = .call c) (h : callV c e st nx K) : ∃ v st' nx', OpX o e st nx v st' nx' ∧ K v st' nx' := by
  unfold callV at h
  split at h
  · rename_i args ts
    split at h
    · rename_i x y t t' ha ht
      split at h
      · rename_i b c hb hx hy
        have htt : t' = t := (Nat.eq_of_beq_eq_true hb).symm
        subst htt
        have hargs : args = #[x, y] := by rw [← Array.toList_inj, ha]
        have hts : ts = #[t', t'] := by rw [← Array.toList_inj, ht]
        subst hargs hts
        split at h
        · rename_i v st nx hm; exact ⟨v, st, nx, .of_app ho hx hy (.inl hm), h⟩
        · rename_i φ v st nx hm; exact ⟨v, st, nx, .of_app ho hx hy (.inr ⟨φ, hm, h.1⟩), h.2⟩
        · obtain ⟨v, st, nx, h1, h2⟩ := h; exact ⟨v, st, nx, h1 o ho, h2⟩
      · obtain ⟨v, st, nx, h1, h2⟩ := h; exact ⟨v, st, nx, h1 o ho, h2⟩
    · exact h.elim
  · rename_i args ts
    split at h
    · rename_i x t ha ht
      split at h
      · rename_i b hx
        have hargs : args = #[x] := by rw [← Array.toList_inj, ha]
        have hts : ts = #[t] := by rw [← Array.toList_inj, ht]
        subst hargs hts
        split at h
        · rename_i v st nx hm; exact ⟨v, st, nx, .of_clear ho hx (.inl hm), h⟩
        · rename_i φ v st nx hm; exact ⟨v, st, nx, .of_clear ho hx (.inr ⟨φ, hm, h.1⟩), h.2⟩
        · exact h.elim
      · exact h.elim
    · exact h.elim
  · rename_i args ts
    split at h
    · rename_i x y t t' ha ht
      split at h
      · rename_i b c hb hx hy
        have htt : t' = t := (Nat.eq_of_beq_eq_true hb).symm
        subst htt
        have hargs : args = #[x, y] := by rw [← Array.toList_inj, ha]
        have hts : ts = #[t', t'] := by rw [← Array.toList_inj, ht]
        subst hargs hts
        split at h
        · rename_i v st nx hm; exact ⟨v, st, nx, .of_copy ho hx hy (.inl hm), h⟩
        · rename_i φ v st nx hm; exact ⟨v, st, nx, .of_copy ho hx hy (.inr ⟨φ, hm, h.1⟩), h.2⟩
        · obtain ⟨v, st, nx, h1, h2⟩ := h; exact ⟨v, st, nx, h1 o ho, h2⟩
      · obtain ⟨v, st, nx, h1, h2⟩ := h; exact ⟨v, st, nx, h1 o ho, h2⟩
    · exact h.elim
  · rename_i f args ts
    split at h
    · obtain ⟨v, st, nx, h1, h2⟩ := h; exact ⟨v, st, nx, h1 o ho, h2⟩
    · split at h
      · rename_i vs hvs
        obtain ⟨v, st, nx, h1, h2⟩ := h
        exact ⟨v, st, nx, .of_call ho hvs h1, h2⟩
      · exact h.elim
  · obtain ⟨v, st, nx, h1, h2⟩ := h
    exact ⟨v, st, nx, h1 o ho, h2⟩
theorem anyV_ok {o : Oper} {e : Nat → Option V} {st : Nat → Option B} {nx : Nat} {K : V → (Nat → Option B) → Nat → Prop} (h : anyV o.op e st nx K) : ∃ v st' nx', OpX o e st nx v st' nx' ∧ K v st' nx' := by
  unfold anyV at h
  split at h
  · rename_i v hv; exact ⟨v, st, nx, .of_pure (.inl hv), h⟩
  · rename_i φ v hv; exact ⟨v, st, nx, .of_pure (.inr ⟨φ, hv, h.1⟩), h.2⟩
  · split at h
    · rename_i v st nx hm; exact ⟨v, st, nx, .of_mem (.inl hm), h⟩
    · rename_i φ v st nx hm; exact ⟨v, st, nx, .of_mem (.inr ⟨φ, hm, h.1⟩), h.2⟩
    · split at h
      · rename_i c ho; exact callV_ok ho h
      · obtain ⟨v, st, nx, h1, h2⟩ := h
        exact ⟨v, st, nx, h1 o rfl, h2⟩
theorem dstV_ok {n : Nat} {d : Option Nat} {e : Nat → Option V} {F : (V → (Nat → Option B) → Nat → Prop) → Prop} {K : (Nat → Option V) → (Nat → Option B) → Nat → Prop} (h : dstV n d e F K) :
    (∀ t, d = some t → t < n) ∧ F fun v st nx => K (updO e d v) st nx := by
  unfold dstV at h
  split at h
  · exact ⟨fun t ht => (by cases ht), h⟩
  · split at h
    · rename_i hb; exact ⟨fun t ht => (by cases ht; exact Nat.le_of_ble_eq_true hb), h⟩
    · exact h.elim
theorem upd_self {α : Type} {f : Nat → Option α} {t : Nat} {v : α} (h : f t = some v) : upd f t v = f := by
  funext x
  by_cases hx : x = t
  · subst hx; rw [upd_same, h]
  · rw [upd_other _ _ hx]
theorem guardV_ok {l : List Oper} {d : Option Nat} {op : Op} {ty : TypeId} {ps : String} {af : Array Edge} {g : Option (Nat × Bool)} {e : Nat → Option V} {st : Nat → Option B} {nx : Nat}
    {F : (Nat → Option V) → (V → (Nat → Option B) → Nat → Prop) → Prop} {G : (Nat → Option V) → ((V → (Nat → Option B) → Nat → Prop) → Prop) → Prop} (h : guardV l g e st nx F G) :
    (gOf l ⟨d, op, ty, ps, af, g⟩ e = some true ∧ G e (F e)) ∨ (gOf l ⟨d, op, ty, ps, af, g⟩ e = some false ∧ G e fun K => K (.tu []) st nx) := by
  unfold guardV at h
  split at h
  · exact .inl ⟨rfl, h⟩
  · rename_i k w
    split at h
    · rename_i u hs
      split at h
      · rename_i x hx
        have hgo : gOf l ⟨d, op, ty, ps, af, some (k, w)⟩ e = some (x == w) := by simp [gOf, hs, hx]
        cases x with
        | true =>
          have h := h.1 rfl
          rw [upd_self hx] at h
          cases w with
          | true => exact .inl ⟨hgo, h⟩
          | false => exact .inr ⟨hgo, h⟩
        | false =>
          have h := h.2 rfl
          rw [upd_self hx] at h
          cases w with
          | true => exact .inr ⟨hgo, h⟩
          | false => exact .inl ⟨hgo, h⟩
      · rename_i hx
        exact .inr ⟨by simp [gOf, hs, hx], h⟩
      · exact h.elim
    · exact h.elim
theorem VO_ok {M : (Nat → Option B) → Prop} {n : Nat} {l : List Oper} {d : Option Nat} {op : Op} {ty : TypeId} {ps : String} {af : Array Edge} {g : Option (Nat × Bool)} {e : Nat → Option V} {st : Nat → Option B} {nx : Nat} {k : Nat}
    {F : (Nat → Option V) → (V → (Nat → Option B) → Nat → Prop) → Prop} {K : (Nat → Option V) → (Nat → Option B) → Nat → Prop} {J : (Nat → Option B) → Prop} (hJ : J st)
    (hF : ∀ K, F e K → ∃ v st' nx', StpV M k ⟨d, op, ty, ps, af, g⟩ e st nx v st' nx' ∧ J st' ∧ K v st' nx') (h : guardV l g e st nx F fun e F => dstV n d e F K) :
    (∀ t, d = some t → t < n) ∧ ∃ v st' nx', StpG M k l ⟨d, op, ty, ps, af, g⟩ e st nx v st' nx' ∧ J st' ∧ K (updO e d v) st' nx' := by
  rcases guardV_ok (d := d) (op := op) (ty := ty) (ps := ps) (af := af) h with ⟨h1, h2⟩ | ⟨h1, h2⟩
  · obtain ⟨h3, h4⟩ := dstV_ok h2
    obtain ⟨v, st', nx', k1, k2, k3⟩ := hF _ h4
    exact ⟨h3, v, st', nx', .inl ⟨h1, k1⟩, k2, k3⟩
  · obtain ⟨h3, h4⟩ := dstV_ok h2
    exact ⟨h3, .tu [], st, nx, .inr ⟨h1, rfl, rfl, rfl⟩, hJ, h4⟩
theorem VOs_ok {ops : Array Oper} {n : Nat} : ∀ {l : List Oper} {e : Nat → Option V} {st : Nat → Option B} {nx : Nat} {K : (Nat → Option V) → (Nat → Option B) → Nat → Prop}, VOs n ops.toList l e st nx K →
    ∃ e' st' nx', K e' st' nx' ∧ ∀ (H : Hp) (X : Ctx) (a : Act) (Q : Exit → Act → World → Prop), Γ H ⟨e, st, nx, n⟩ X a →
    (∀ X' a', Γ H ⟨e', st', nx', n⟩ X' a' → Step nx X X' → nx ≤ nx' → Q .normal a' X'.w) → wpList P ops Q l a X.w
  | [], e, st, nx, K, h => ⟨e, st, nx, h, fun H X a Q g hQ => hQ X a g (.refl _ _) (Nat.le_refl _)⟩
  | ⟨d, op, ty, ps, af, gd⟩ :: r, e, st, nx, K, h => by
    obtain ⟨hd, v, st1, nx1, h1, _, h2⟩ := VO_ok (M := fun _=>True) (k := 3) (ty := ty) (ps := ps) (af := af) (J := fun _=>True) trivial (fun K hK => by
      obtain ⟨v, st', nx', k1, k2⟩ := anyV_ok (o := ⟨d, op, ty, ps, af, gd⟩) hK
      exact ⟨v, st', nx', k1, trivial, k2⟩) h
    obtain ⟨e', st', nx', k1, k2⟩ := VOs_ok (ops := ops) h2
    refine ⟨e', st', nx', k1, fun H X a Q g hQ => ?_⟩
    unfold wpList
    exact stepG_wp g hd h1 fun X' a' m1 m2 m3 => k2 H X' a' Q m1 fun X2 a2 n1 n2 n3 => hQ X2 a2 n1 (m2.trans n2 m3) (Nat.le_trans m3 n3)
def Mold (nx0 : Nat) (st0 : Nat → Option B) (st : Nat → Option B) : Prop := ∀ nm, nm < nx0 → st nm = st0 nm
theorem getD_replicate_false' (n j : Nat) : (Array.replicate n false).getD j false = false := by
  by_cases h : j < n <;> simp [Array.getD, h]
def clOf (ops : Array Oper) (i : Nat) : Nat := match ops[i]? with
  | some o => cls o.op
  | none => 3
theorem drawV_ok {nx0 : Nat} {st0 : Nat → Option B} {o : Oper} {e : Nat → Option V} {st : Nat → Option B} {nx : Nat} {K : V → (Nat → Option B) → Nat → Prop} (hM : Mold nx0 st0 st) (h : drawV nx0 o.op e st nx K) :
    ∃ v st' nx', StpV (Mold nx0 st0) (cls o.op) o e st nx v st' nx' ∧ Mold nx0 st0 st' ∧ K v st' nx' := by
  unfold drawV at h
  split at h
  · rename_i hc
    split at h
    · rename_i v hv; exact ⟨v, st, nx, by rw [hc]; exact ⟨fun _ _ => .of_pure (.inl hv), rfl, rfl⟩, hM, h⟩
    · rename_i φ v hv; exact ⟨v, st, nx, by rw [hc]; exact ⟨fun _ _ => .of_pure (.inr ⟨φ, hv, h.1⟩), rfl, rfl⟩, hM, h.2⟩
    · exact h.elim
  · rename_i hc
    split at h
    · rename_i v hv; exact ⟨v, st, nx, by rw [hc]; exact ⟨.inl (.inl hv), rfl, rfl⟩, hM, h⟩
    · rename_i φ v hv; exact ⟨v, st, nx, by rw [hc]; exact ⟨.inl (.inr ⟨φ, hv, h.1⟩), rfl, rfl⟩, hM, h.2⟩
    · split at h
      · rename_i t x ho
        split at h
        · rename_i nm off hx
          split at h
          · rename_i b h1 h3
            have hlt := Nat.le_of_ble_eq_true h1
            have all : ∀ st2, Mold nx0 st0 st2 → st2 nm = some b := fun st2 h2 => by rw [h2 nm hlt, ← hM nm hlt]; exact h3
            split at h
            · rename_i v hv
              exact ⟨v, st, nx, by rw [hc]; exact ⟨.inr ⟨t, x, nm, off, ho, hx, hM, fun st2 h2 => ⟨b, all st2 h2, .inl hv⟩⟩, rfl, rfl⟩, hM, h⟩
            · rename_i φ v hv
              exact ⟨v, st, nx, by rw [hc]; exact ⟨.inr ⟨t, x, nm, off, ho, hx, hM, fun st2 h2 => ⟨b, all st2 h2, .inr ⟨φ, hv, h.1⟩⟩⟩, rfl, rfl⟩, hM, h.2⟩
            · exact h.elim
          · exact h.elim
        · exact h.elim
      · exact h.elim
  · rename_i hc
    split at h
    · rename_i v st' nx' h1 hm
      have := (mem_new hc (.inl hm)).2
      have hM' : Mold nx0 st0 st' := fun nm hn => by rw [this nm (by have := Nat.le_of_ble_eq_true h1; omega)]; exact hM nm hn
      exact ⟨v, st', nx', by rw [hc]; exact ⟨hM, hM', .of_mem (.inl hm)⟩, hM', h⟩
    · rename_i φ v st' nx' h1 hm
      have := (mem_new hc (.inr ⟨φ, hm, h.1⟩)).2
      have hM' : Mold nx0 st0 st' := fun nm hn => by rw [this nm (by have := Nat.le_of_ble_eq_true h1; omega)]; exact hM nm hn
      exact ⟨v, st', nx', by rw [hc]; exact ⟨hM, hM', .of_mem (.inr ⟨φ, hm, h.1⟩)⟩, hM', h.2⟩
    · exact h.elim
  · exact h.elim
def clL : Bool → List Oper → List Nat
  | _, [] => []
  | true, o :: r => (match cls o.op with
    | 0 => 0
    | _ => 3) :: clL true r
  | false, o :: r => match cls o.op with
    | 3 => 3 :: clL true r
    | k => k :: clL false r
def clF : List Nat → Nat → Nat
  | [], _ => 3
  | k :: _, 0 => k
  | _ :: r, i + 1 => clF r i
theorem lateV_ok {M : (Nat → Option B) → Prop} {o : Oper} {e : Nat → Option V} {st : Nat → Option B} {nx : Nat} {K : V → (Nat → Option B) → Nat → Prop} (h : lateV o.op e st nx K) :
    ∃ v st' nx', StpV M (match cls o.op with | 0 => 0 | _ => 3) o e st nx v st' nx' ∧ K v st' nx' := by
  unfold lateV at h
  split at h
  · rename_i hc
    split at h
    · rename_i v hv; exact ⟨v, st, nx, ⟨fun _ _ => .of_pure (.inl hv), rfl, rfl⟩, h⟩
    · rename_i φ v hv; exact ⟨v, st, nx, ⟨fun _ _ => .of_pure (.inr ⟨φ, hv, h.1⟩), rfl, rfl⟩, h.2⟩
    · exact h.elim
  · rename_i hc
    obtain ⟨v, st', nx', h1, h2⟩ := anyV_ok h
    exact ⟨v, st', nx', h1, h2⟩
theorem VDs_ok {nx0 : Nat} {st0 : Nat → Option B} {ops : Array Oper} {n : Nat} {cl : Nat → Nat} : ∀ {late : Bool} {l : List Oper} {k : Nat} {e : Nat → Option V} {st : Nat → Option B} {nx : Nat} {K : (Nat → Option V) → (Nat → Option B) → Nat → Prop},
    (∀ j, l[j]? = ops[k + j]?) → (∀ i, cl (k + i) = clF (clL late l) i) → (late = false → Mold nx0 st0 st) → VDs n nx0 ops.toList late l e st nx K → ∃ e' st' nx', K e' st' nx' ∧ Chain (Mold nx0 st0) cl ops (List.range' k l.length) ⟨e, st, nx, n⟩ ⟨e', st', nx', n⟩
  | _, [], k, e, st, nx, K, _, _, _, h => ⟨e, st, nx, (by unfold VDs at h; exact h), .nil⟩
  | true, ⟨d, op, ty, ps, af, g⟩ :: r, k, e, st, nx, K, hl, hcl, hM, h => by
    have hl' : ∀ j, r[j]? = ops[k + 1 + j]? := fun j => by have := hl (j + 1); simp at this; rw [this]; congr 1; omega
    have ho : ops[k]? = some ⟨d, op, ty, ps, af, g⟩ := by have := hl 0; simpa using this.symm
    have hcl' : ∀ i, cl (k + 1 + i) = clF (clL true r) i := fun i => by have := hcl (i + 1); rw [show k + 1 + i = k + (i + 1) by omega, this]; rfl
    have hk : cl k = (match cls op with | 0 => 0 | _ => 3) := hcl 0
    unfold VDs at h
    obtain ⟨hd, v, st1, nx1, h1, _, h2⟩ := VO_ok (M := Mold nx0 st0) (k := cl k) (ty := ty) (ps := ps) (af := af) (J := fun _=>True) trivial (fun K hK => by
      obtain ⟨v, st', nx', k1, k2⟩ := lateV_ok (M := Mold nx0 st0) (o := ⟨d, op, ty, ps, af, g⟩) hK
      exact ⟨v, st', nx', by rw [hk]; exact k1, trivial, k2⟩) h
    obtain ⟨e', st', nx', k1, k2⟩ := VDs_ok (ops := ops) (cl := cl) (st0 := st0) hl' hcl' (fun h => by cases h) h2
    exact ⟨e', st', nx', k1, .cons ho hd h1 k2⟩
  | false, ⟨d, op, ty, ps, af, g⟩ :: r, k, e, st, nx, K, hl, hcl, hM, h => by
    have hl' : ∀ j, r[j]? = ops[k + 1 + j]? := fun j => by have := hl (j + 1); simp at this; rw [this]; congr 1; omega
    have ho : ops[k]? = some ⟨d, op, ty, ps, af, g⟩ := by have := hl 0; simpa using this.symm
    have hM := hM rfl
    unfold VDs at h
    split at h
    · rename_i hc3
      have hcl' : ∀ i, cl (k + 1 + i) = clF (clL true r) i := fun i => by have := hcl (i + 1); rw [show k + 1 + i = k + (i + 1) by omega, this]; simp [clL, hc3, clF]
      have hk : cl k = 3 := by have := hcl 0; simpa [clL, hc3, clF] using this
      obtain ⟨hd, v, st1, nx1, h1, _, h2⟩ := VO_ok (M := Mold nx0 st0) (k := cl k) (ty := ty) (ps := ps) (af := af) (J := fun _=>True) trivial (fun K hK => by
        obtain ⟨v, st', nx', k1, k2⟩ := anyV_ok (o := ⟨d, op, ty, ps, af, g⟩) hK
        exact ⟨v, st', nx', by rw [hk]; exact k1, trivial, k2⟩) h
      obtain ⟨e', st', nx', k1, k2⟩ := VDs_ok (ops := ops) (cl := cl) (st0 := st0) hl' hcl' (fun h => by cases h) h2
      exact ⟨e', st', nx', k1, .cons ho hd h1 k2⟩
    · rename_i hc3
      have hcl' : ∀ i, cl (k + 1 + i) = clF (clL false r) i := fun i => by
        have := hcl (i + 1)
        rw [show k + 1 + i = k + (i + 1) by omega, this]
        simp only [clL]
        rfl
      have hk : cl k = cls op := by
        have := hcl 0
        simp only [clL, Nat.add_zero] at this
        rw [this]
        rfl
      obtain ⟨hd, v, st1, nx1, h1, hM1, h2⟩ := VO_ok (M := Mold nx0 st0) (k := cl k) (ty := ty) (ps := ps) (af := af) (J := Mold nx0 st0) hM (fun K hK => by
        obtain ⟨v, st', nx', k1, k2, k3⟩ := drawV_ok (o := ⟨d, op, ty, ps, af, g⟩) hM hK
        exact ⟨v, st', nx', by rw [hk]; exact k1, k2, k3⟩) h
      obtain ⟨e', st', nx', k1, k2⟩ := VDs_ok (ops := ops) (cl := cl) (st0 := st0) hl' hcl' (fun _=>hM1) h2
      exact ⟨e', st', nx', k1, .cons ho hd h1 k2⟩
def drawOk (ops : Array Oper) : Bool := okDraw (clF (clL false ops.toList)) ops
end Go.SX
