/- FnSilkPrefix: for every list of SILK frames and every number the law answers true, and leaves its arguments as they were (conditions: the row's own, its package-level variables as the card ties them). -/
import Derived.Test.YtojdfjohmicopaaGreatDoorL40
import Derived.Test.YtojdfjohmicopaaGreatDoorL42
set_option linter.all false
set_option maxRecDepth 100000
namespace Go.SX
open Go Go.Proofs.YtojdfjohmicopaaGreatDoor
theorem runs3 (hG : GL = GLP) : Runs3 := by
  intro W v n hv hn ht
  obtain ⟨l, I0, h1, h2⟩ := den_frames hv
  have hg : Proofs.Tryz.prog.globalNamed "internal/strconv.uint64pow10" = some 1 := by kernel_rfl
  have hcell : ∃ ty fr, W.heap[1]? = some (.cells (Lib.pow10Tab.map fun z => Value.int .u64 z).toArray ty fr) := by
    unfold TabAt Lib.TabIs World.var? at ht
    rw [hg] at ht
    simp only [Option.bind_some] at ht
    split at ht
    · rename_i cs ty fr hh
      cases ht
      exact ⟨ty, fr, hh⟩
    · cases ht
  have h1s : 1 < W.heap.size := by
    obtain ⟨ty, fr, hh⟩ := hcell
    exact (Array.getElem?_eq_some_iff.1 hh).1
  have hd := h2 (fun b => I0 b ∨ b = 1) fun _ h => .inl h
  have hgl : Gl ⟨fun _=>none, fun b => I0 b ∨ b = 1, W⟩ := fun p hp => by
    rw [hG] at hp
    cases List.mem_singleton.1 hp
    exact ⟨.inr rfl, hcell⟩
  obtain ⟨v', l', ⟨rfl, rfl⟩, hx⟩ := f3 hG f10 l n hn
  have hm : ∀ nm, mkS [] nm = none := fun nm => by first | rfl | (cases nm <;> rfl)
  have hs : Hs ⟨W, fun _=>False, fun b => I0 b ∨ b = 1, []⟩ (mkS []) 0 ⟨fun _=>none, fun b => I0 b ∨ b = 1, W⟩ :=
    { blk := fun nm x hx => by (rw [hm] at hx; cases hx), inj := fun nm _ _ _ _ h => absurd (hm nm) h, sep := fun nm _ _ h => absurd (hm nm) h, bd := fun nm x hx => by (rw [hm] at hx; cases hx), fr := fun _ _ _ => rfl, sz := Nat.le_refl _, imm := fun b hb => ⟨hb.elim (h1 b) fun h => h ▸ h1s, .inl hb⟩, out := ⟨rfl, rfl⟩, gl := hgl }
  refine (hx.run _ _ [v, .int .u8 n] hs rfl fun i v1 u k1 k2 => ?_).mono fun e W' ⟨u, X', he, hw, hs', _, hd'⟩ => ?_
  · match i with
    | 0 => cases k1; cases k2; exact ⟨.c hd, fun nm hn => by cases hn with | c hn => exact hn.elim⟩
    | 1 => cases k1; cases k2; exact ⟨.c .i, fun nm hn => by cases hn with | c hn => exact hn.elim⟩
    | i + 2 => simp at k1
  · subst he hw
    cases hd' with | c hd' =>
    cases hd'
    exact ⟨rfl, hs'.out.1, hs'.out.2, fun b hb => hs'.fr b hb id⟩
end Go.SX
namespace Go.Proofs.YtojdfjohmicopaaGreatDoor
theorem fnSilkPrefix_card_of (hG : Go.SX.GL = Go.SX.GLP) : Rows.FnSilkPrefixCardSaid := fnSilkPrefix_card (Go.SX.runs3 hG)
end Go.Proofs.YtojdfjohmicopaaGreatDoor
namespace Go.Proofs.YtojdfjohmicopaaGreatDoor
theorem fnSilkPrefix_card_holds : Rows.FnSilkPrefixCardSaid := fnSilkPrefix_card_of rfl
#print axioms fnSilkPrefix_card_holds
end Go.Proofs.YtojdfjohmicopaaGreatDoor
