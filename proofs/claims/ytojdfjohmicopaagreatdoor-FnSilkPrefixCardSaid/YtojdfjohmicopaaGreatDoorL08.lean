/- A part of the proof: the SILK decoder of the given program, walked by an executor that is proved sound. No statement of the program is proved in this text. -/
import Derived.Test.YtojdfjohmicopaaGreatDoorL07
set_option linter.all false
set_option maxRecDepth 100000
namespace Go.SX
open Go
def cls : Op → Nat
  | .move _ | .assign _ | .pick .. | .nilCheck _ | .binOp .. | .unOp .. | .fieldAddr .. | .field .. | .indexAddr .. | .index .. | .slice .. | .extract .. => 0
  | .convert .. => 0
  | .load .. => 1
  | .alloc _ | .box .. | .build .. | .buildSlice .. => 2
  | .call c => match c.callee with
    | .builtin .len | .builtin .cap | .builtin .min | .builtin .max => 0
    | _ => 3
  | _ => 3
def updO (e : Nat → Option V) (d : Option Nat) (v : V) : Nat → Option V :=
  match d with
  | none => e
  | some t => upd e t v
def S.set (s : S) (d : Option Nat) (v : V) (st : Nat → Option B) (nx : Nat) : S := ⟨updO s.env d v, st, nx, s.n⟩
def StpV (M : (Nat → Option B) → Prop) (k : Nat) (o : Oper) (e : Nat → Option V) (st : Nat → Option B) (nx : Nat) (v : V) (st' : Nat → Option B) (nx' : Nat) : Prop :=
  match k with
  | 0 => (∀ st nx, OpX o e st nx v st nx) ∧ st' = st ∧ nx' = nx
  | 1 => ((pureV o.op (rd e)).Is v ∨ ∃ t x nm off, o.op = .load t x ∧ rd e x = some (.c (.p nm off)) ∧ M st ∧ ∀ st2, M st2 → ∃ b, st2 nm = some b ∧ (loadM t off b).Is v) ∧ st' = st ∧ nx' = nx
  | 2 => M st ∧ M st' ∧ OpX o e st nx v st' nx'
  | _ => OpX o e st nx v st' nx'
theorem StpV.opX {M : (Nat → Option B) → Prop} {k : Nat} {o : Oper} {e : Nat → Option V} {st : Nat → Option B} {nx : Nat} {v : V} {st' : Nat → Option B} {nx' : Nat} (h : StpV M k o e st nx v st' nx') : OpX o e st nx v st' nx' := by
  unfold StpV at h
  split at h
  · obtain ⟨h, rfl, rfl⟩ := h; exact h _ _
  · obtain ⟨h, rfl, rfl⟩ := h
    rcases h with h | ⟨t, x, nm, off, h1, h2, h3, h4⟩
    · exact .of_pure h
    · obtain ⟨b, h5, h6⟩ := h4 _ h3
      refine .of_mem ?_
      simp only [h1, memV, h2, h5]
      rcases h6 with h6 | ⟨φ, h6, hφ⟩
      · rw [h6]; exact .inl rfl
      · rw [h6]; exact .inr ⟨φ, rfl, hφ⟩
  · exact h.2.2
  · exact h
theorem StpV.congr {M : (Nat → Option B) → Prop} {k : Nat} {o : Oper} {e e' : Nat → Option V} {st : Nat → Option B} {nx : Nat} {v : V} {st' : Nat → Option B} {nx' : Nat} (h : StpV M k o e st nx v st' nx')
    (he : ∀ x ∈ o.op.operands, rd e x = rd e' x) : StpV M k o e' st nx v st' nx' := by
  unfold StpV at h ⊢
  split at h
  · exact ⟨fun st nx => (h.1 st nx).congr he, h.2⟩
  · obtain ⟨h, h1⟩ := h
    refine ⟨?_, h1⟩
    rcases h with h | ⟨t, x, nm, off, h1, h2, h3⟩
    · rw [← pureV_congr he]; exact .inl h
    · exact .inr ⟨t, x, nm, off, h1, by rw [← he x (by rw [h1]; simp [Op.operands])]; exact h2, h3⟩
  · exact ⟨h.1, h.2.1, h.2.2.congr he⟩
  · exact h.congr he
theorem mem_new {op : Op} {ρ : Operand → Option V} {st : Nat → Option B} {nx : Nat} {v : V} {st' : Nat → Option B} {nx' : Nat} (hc : cls op = 2) (h : (memV op ρ st nx).Is v st' nx') :
    nx ≤ nx' ∧ ∀ nm, nm ≠ nx → st' nm = st nm := by
  have done : ∀ {m : M} {b : B} {w : V}, m = .ok w (upd st nx b) (nx + 1) → m.Is v st' nx' → nx ≤ nx' ∧ ∀ nm, nm ≠ nx → st' nm = st nm := by
    rintro m b w rfl h
    rcases h with h | ⟨φ, h, _⟩
    · cases h; exact ⟨Nat.le_succ _, fun nm hn => upd_other _ _ hn⟩
    · cases h
  have no : ∀ {m : M}, m = .no → m.Is v st' nx' → nx ≤ nx' ∧ ∀ nm, nm ≠ nx → st' nm = st nm := by
    rintro m rfl h
    rcases h with h | ⟨φ, h, _⟩ <;> cases h
  have same : ∀ {m : M} {w : V}, m = .ok w st nx → m.Is v st' nx' → nx ≤ nx' ∧ ∀ nm, nm ≠ nx → st' nm = st nm := by
    rintro m w rfl h
    rcases h with h | ⟨φ, h, _⟩
    · cases h; exact ⟨Nat.le_refl _, fun _ _ => rfl⟩
    · cases h
  cases op <;> simp only [cls] at hc <;> try (first | cases hc | (split at hc <;> cases hc))
  all_goals
    simp only [memV] at h
    repeat' split at h
    all_goals first
      | exact done rfl h
      | exact no rfl h
      | exact same rfl h
def slotAt : List Oper → Nat → Option Nat
  | [], _ => none
  | o :: _, 0 => o.dst
  | _ :: r, g + 1 => slotAt r g
theorem slotAt_eq : ∀ (l : List Oper) (g : Nat), slotAt l g = (l[g]?).bind (·.dst)
  | [], g => by simp [slotAt]
  | o :: r, 0 => rfl
  | o :: r, g + 1 => by simp [slotAt, slotAt_eq r g]
def gOf (l : List Oper) (o : Oper) (e : Nat → Option V) : Option Bool :=
  match o.guard with
  | none => some true
  | some (g, w) => match slotAt l g with
    | some u => match e u with
      | some (.c (.b x)) => some (x == w)
      | some (.tu []) => some false
      | _ => none
    | none => none
def StpG (M : (Nat → Option B) → Prop) (k : Nat) (l : List Oper) (o : Oper) (e : Nat → Option V) (st : Nat → Option B) (nx : Nat) (v : V) (st' : Nat → Option B) (nx' : Nat) : Prop :=
  (gOf l o e = some true ∧ StpV M k o e st nx v st' nx') ∨ (gOf l o e = some false ∧ v = .tu [] ∧ st' = st ∧ nx' = nx)
inductive Chain (M : (Nat → Option B) → Prop) (cl : Nat → Nat) (ops : Array Oper) : List Nat → S → S → Prop
  | nil {s} : Chain M cl ops [] s s
  | cons {i R s v st' nx' s' o} (ho : ops[i]? = some o) (hd : ∀ t, o.dst = some t → t < s.n) (h : StpG M (cl i) ops.toList o s.env s.st s.nx v st' nx') (hc : Chain M cl ops R (s.set o.dst v st' nx') s') : Chain M cl ops (i :: R) s s'
def compat : Nat → Nat → Bool
  | 0, _ | _, 0 => true
  | 1, 1 | 1, 2 | 2, 1 => true
  | _, _ => false
theorem rd_updO {e : Nat → Option V} {d : Option Nat} {v : V} {x : Operand} (h : ∀ t, d = some t → x ≠ .tmp t) : rd (updO e d v) x = rd e x := by
  cases d with
  | none => rfl
  | some t =>
    cases x with
    | tmp u => exact upd_other _ _ fun hx => h t rfl (by rw [hx])
    | _ => rfl
theorem updO_comm {e : Nat → Option V} {d d' : Option Nat} {v v' : V} (h : ∀ t, d = some t → d' ≠ some t) : updO (updO e d v) d' v' = updO (updO e d' v') d v := by
  cases d with
  | none => rfl
  | some t => cases d' with
    | none => rfl
    | some u => exact upd_upd _ _ _ fun hx => h t rfl (by rw [hx])
theorem StpV.comm {M : (Nat → Option B) → Prop} {ki kj : Nat} {ops : Array Oper} {oi oj : Oper} {e : Nat → Option V} {st : Nat → Option B} {nx : Nat} {v : V} {st1 : Nat → Option B} {nx1 : Nat} {u : V} {st2 : Nat → Option B} {nx2 : Nat}
    (hj : StpV M kj oj e st nx v st1 nx1) (hi : StpV M ki oi (updO e oj.dst v) st1 nx1 u st2 nx2) (hap : oi.apart ops oj = true) (hc : compat ki kj = true) :
    ∃ st1' nx1', StpV M ki oi e st nx u st1' nx1' ∧ StpV M kj oj (updO e oi.dst u) st1' nx1' v st2 nx2 := by
  obtain ⟨a1, a2, a3⟩ := Oper.apart_spec hap
  have look : ∀ {o : Oper} {d : Option Nat} {w : V}, (∀ t, d = some t → t ∉ o.looksAt ops) → ∀ x ∈ o.op.operands, rd (updO e d w) x = rd e x := fun {o d w} h x hx =>
    rd_updO fun t ht hxt => h t ht (by subst hxt; exact List.mem_append_left _ (List.mem_filterMap.2 ⟨.tmp t, by simpa using hx, rfl⟩))
  have hi' := hi.congr (e' := e) (look a3)
  have hj' : StpV M kj oj (updO e oi.dst u) st nx v st1 nx1 := hj.congr fun x hx => (look a1 x hx).symm
  match ki, kj, hc with
  | 0, kj, _ =>
    obtain ⟨h1, rfl, rfl⟩ := hi'
    exact ⟨st, nx, ⟨h1, rfl, rfl⟩, hj'⟩
  | ki + 1, 0, _ =>
    obtain ⟨h1, rfl, rfl⟩ := hj
    exact ⟨st2, nx2, hi', ⟨hj'.1, rfl, rfl⟩⟩
  | 1, 1, _ =>
    obtain ⟨h1, rfl, rfl⟩ := hj
    obtain ⟨h2, rfl, rfl⟩ := id hi'
    exact ⟨_, _, hi', ⟨hj'.1, rfl, rfl⟩⟩
  | 1, 2, _ =>
    obtain ⟨h2, rfl, rfl⟩ := id hi'
    refine ⟨st, nx, ⟨?_, rfl, rfl⟩, hj'⟩
    rcases h2 with h2 | ⟨t, x, nm, off, g1, g2, g3, g4⟩
    · exact .inl h2
    · exact .inr ⟨t, x, nm, off, g1, g2, hj.1, g4⟩
  | 2, 1, _ =>
    obtain ⟨h1, rfl, rfl⟩ := id hj
    refine ⟨_, _, hi', ⟨?_, rfl, rfl⟩⟩
    rcases hj'.1 with h2 | ⟨t, x, nm, off, g1, g2, g3, g4⟩
    · exact .inl h2
    · exact .inr ⟨t, x, nm, off, g1, g2, hi'.2.1, g4⟩
  | 2, 2, h => cases h
  | n + 3, 1, h => cases h
  | n + 3, 2, h => cases h
  | 1, m + 3, h => cases h
  | 2, m + 3, h => cases h
  | n + 3, m + 3, h => cases h
theorem gOf_congr {ops : Array Oper} {o : Oper} {e : Nat → Option V} {d : Option Nat} {w : V} (h : ∀ t, d = some t → t ∉ o.looksAt ops) : gOf ops.toList o (updO e d w) = gOf ops.toList o e := by
  unfold gOf
  cases hg : o.guard with
  | none => rfl
  | some q =>
    obtain ⟨g, want⟩ := q
    simp only
    cases hs : slotAt ops.toList g with
    | none => rfl
    | some u =>
      have hu : updO e d w u = e u := by
        cases d with
        | none => rfl
        | some t =>
          refine upd_other _ _ fun hut => h t rfl ?_
          subst hut
          rw [slotAt_eq] at hs
          simp only [Array.getElem?_toList] at hs
          simp [Oper.looksAt, hg, hs]
      simp only [hu]
theorem StpG.comm {M : (Nat → Option B) → Prop} {ki kj : Nat} {ops : Array Oper} {oi oj : Oper} {e : Nat → Option V} {st : Nat → Option B} {nx : Nat} {v : V} {st1 : Nat → Option B} {nx1 : Nat} {u : V} {st2 : Nat → Option B} {nx2 : Nat}
    (hj : StpG M kj ops.toList oj e st nx v st1 nx1) (hi : StpG M ki ops.toList oi (updO e oj.dst v) st1 nx1 u st2 nx2) (hap : oi.apart ops oj = true) (hc : compat ki kj = true) :
    ∃ st1' nx1', StpG M ki ops.toList oi e st nx u st1' nx1' ∧ StpG M kj ops.toList oj (updO e oi.dst u) st1' nx1' v st2 nx2 := by
  obtain ⟨a1, a2, a3⟩ := Oper.apart_spec hap
  have look : ∀ {o : Oper} {d : Option Nat} {w : V}, (∀ t, d = some t → t ∉ o.looksAt ops) → ∀ x ∈ o.op.operands, rd (updO e d w) x = rd e x := fun {o d w} h x hx =>
    rd_updO fun t ht hxt => h t ht (by subst hxt; exact List.mem_append_left _ (List.mem_filterMap.2 ⟨.tmp t, by simpa using hx, rfl⟩))
  unfold StpG at hi
  rw [gOf_congr a3] at hi
  rcases hj with ⟨gj, hj⟩ | ⟨gj, rfl, rfl, rfl⟩
  · rcases hi with ⟨gi, hi⟩ | ⟨gi, rfl, rfl, rfl⟩
    · obtain ⟨st1', nx1', h1, h2⟩ := hj.comm hi hap hc
      exact ⟨st1', nx1', .inl ⟨gi, h1⟩, .inl ⟨by rw [gOf_congr a1]; exact gj, h2⟩⟩
    · exact ⟨st, nx, .inr ⟨gi, rfl, rfl, rfl⟩, .inl ⟨by rw [gOf_congr a1]; exact gj, hj.congr fun x hx => (look a1 x hx).symm⟩⟩
  · rcases hi with ⟨gi, hi⟩ | ⟨gi, rfl, rfl, rfl⟩
    · exact ⟨st2, nx2, .inl ⟨gi, hi.congr (look a3)⟩, .inr ⟨by rw [gOf_congr a1]; exact gj, rfl, rfl, rfl⟩⟩
    · exact ⟨_, _, .inr ⟨gi, rfl, rfl, rfl⟩, .inr ⟨by rw [gOf_congr a1]; exact gj, rfl, rfl, rfl⟩⟩
def waits (ops : Array Oper) : Nat → Nat → Nat → Bool
  | 0, _, _ => false
  | fuel + 1, i, j => match ops[i]? with
    | some o => o.after.any (fun e => Region.binds .any e && e.on == j) || o.after.any (fun e => Region.binds .any e && waits ops fuel e.on j)
    | none => false
def okPair (cl : Nat → Nat) (ops : Array Oper) (i j : Nat) : Bool :=
  match ops[i]?, ops[j]? with
  | some oi, some oj => (compat (cl i) (cl j) && oi.apart ops oj) || waits ops 6 i j
  | _, _ => false
def okDraw (cl : Nat → Nat) (ops : Array Oper) : Bool :=
  (List.range ops.size).all fun i => (List.range i).all (okPair cl ops i) && match ops[i]? with
    | some o => o.after.all fun e => !Region.binds .any e || Nat.blt e.on i
    | none => false
theorem Chain.front {M : (Nat → Option B) → Prop} {cl : Nat → Nat} {ops : Array Oper} {i : Nat} {oi : Oper} (hoi : ops[i]? = some oi) : ∀ {pre post : List Nat} {s s' : S}, Chain M cl ops (pre ++ i :: post) s s' →
    (∀ j ∈ pre, ∃ oj, ops[j]? = some oj ∧ compat (cl i) (cl j) = true ∧ oi.apart ops oj = true) →
    (∀ t, oi.dst = some t → t < s.n) ∧ ∃ v st1 nx1, StpG M (cl i) ops.toList oi s.env s.st s.nx v st1 nx1 ∧ Chain M cl ops (pre ++ post) (s.set oi.dst v st1 nx1) s'
  | [], post, s, s', h, _ => by
    cases h with
    | @cons _ _ _ v st1 nx1 _ o ho hd h hc =>
      rw [hoi] at ho; cases ho
      exact ⟨hd, v, st1, nx1, h, hc⟩
  | j :: pre, post, s, s', h, hp => by
    cases h with
    | @cons _ _ _ v st1 nx1 _ o ho hd h hc =>
      obtain ⟨oj, hoj, hcp, hap⟩ := hp j (by simp)
      rw [ho] at hoj; cases hoj
      obtain ⟨g2, u, st2, nx2, g3, g4⟩ := hc.front hoi (fun k hk => hp k (by simp [hk]))
      obtain ⟨st1', nx1', k1, k2⟩ := h.comm g3 hap hcp
      refine ⟨g2, u, st1', nx1', k1, .cons ho hd k2 ?_⟩
      have : (s.set oi.dst u st1' nx1').set o.dst v st2 nx2 = (s.set o.dst v st1 nx1).set oi.dst u st2 nx2 := by
        simp only [S.set]
        rw [updO_comm (Oper.apart_spec hap).2.1]
      rw [this]; exact g4
end Go.SX
