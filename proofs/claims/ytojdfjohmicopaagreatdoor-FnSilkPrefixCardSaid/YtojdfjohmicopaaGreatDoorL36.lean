/- A part of the proof: the SILK decoder of the given program, walked by an executor that is proved sound. No statement of the program is proved in this text. -/
import Derived.Test.YtojdfjohmicopaaGreatDoorL23
import Derived.Test.YtojdfjohmicopaaGreatDoorL35
set_option linter.all false
set_option maxRecDepth 100000
namespace Go.SX
open Go
theorem RelM.frz1 {b nx : Nat} {c c' : C} {vs : List V} {st st' : Nat → Option B} {φ : Prop} (hf : frzC c st = .cond φ c' st') (hφ : φ) (hb : b ≤ nx) (hvs : belowVs nx vs = true) : RelM b (.tu (.c c :: vs)) st nx (.tu (.c c' :: vs)) st' nx := by
  have hno : ∀ nm, (V.tu (.c c' :: vs)).Has nm → nm < nx := fun nm h => by
    cases h with | tu hm hh =>
    rcases List.mem_cons.1 hm with rfl | hm
    · cases hh with | c hh =>
      exfalso
      have key : ∀ z : Fz C, z = frzC c st → z = .cond φ c' st' → ∀ nm, ¬ c'.Has nm := by
        intro z hz h nm hn
        unfold frzC at hz
        repeat' split at hz
        all_goals (subst hz; first | (cases h; exact hn) | cases h)
      exact key _ rfl hf nm hh
    · exact V.lo_ok (belowVs_ok hvs _ hm) nm hh
  refine ⟨hb, hno, fun H X u g hd => ?_⟩
  cases hd with
  | @tu _ us hs h =>
    have hl : 0 < us.size := by rw [hs]; simp
    have h0 := h 0 (.c c) us[0] rfl (Array.getElem?_eq_getElem hl)
    cases h0 with
    | c h0 =>
      have hz := frzC_ok g h0
      rw [hf] at hz
      obtain ⟨⟨X', k1, k2⟩, _⟩ := hz hφ
      refine ⟨X', k1.w, k1.hs, ⟨fun nm _ => by rw [k1.ν], k1.step.I, k1.step.cell⟩, .tu (by rw [hs]; rfl) fun i v w hv hw => ?_⟩
      cases i with
      | zero => cases hv; rw [Array.getElem?_eq_getElem hl] at hw; cases hw; exact .c k2
      | succ i => exact (h (i + 1) v w hv hw).mono X' (fun nm _ => by rw [k1.ν]) k1.step.I k1.step.cell
@[reducible] def twoS (m e : Ch) : List (Nat × B) := [(0, .st (cellsP (.p 31 0) .any [] m.a (m.c, m.c) m.D m.Z)), (1, .ar false .u8 (m.Z 1).xs), (2, .ar false .u8 (m.Z 2).xs), (3, .ar false .i32 (m.Z 3).xs), (4, .ar false .i32 (m.Z 4).xs), (5, .bl false (m.Z 5).ys), (6, .bl false (m.Z 6).ys), (7, .bl false (m.Z 7).ys), (8, .bl false (m.Z 8).ys), (9, .ar false .i32 (m.Z 9).xs), (10, .ar false .i8 (m.Z 10).xs), (11, .ar false .i16 (m.Z 11).xs), (12, .ar false .i16 (m.Z 12).xs), (13, .ar false .u64 (m.Z 13).xs), (14, .ar false .i16 (m.Z 14).xs), (15, .ar false .i16 (m.Z 15).xs), (16, .ar false .i32 (m.Z 16).xs), (17, .ar false .i32 (m.Z 17).xs), (18, .ar false .i32 (m.Z 18).xs), (19, .ar false .i32 (m.Z 19).xs), (20, .ar false .i16 (m.Z 20).xs), (21, .ar false .i16 (m.Z 21).xs), (22, .ar false .i16 (m.Z 22).xs), (23, .ar false .i16 (m.Z 23).xs), (25, .ar false .i64 (m.Z 25).xs), (27, .ar false .i8 (m.Z 27).xs), (28, .ar false .i16 (m.Z 28).xs), (24, .un 2), (26, .un m.c), (31, .st (cellsP .np .any [(1, 39), (2, 40), (3, 41), (4, 42), (5, 43), (6, 44), (7, 45), (8, 46), (9, 47), (10, 48), (11, 49), (12, 50), (13, 51), (14, 52), (15, 53), (16, 54), (17, 55), (18, 56), (19, 57), (20, 58), (21, 59), (22, 60), (23, 61), (24, 62), (25, 63), (26, 64), (27, 65), (28, 66)] e.a (e.c, e.c) e.D e.Z)), (39, .ar false .u8 (e.Z 1).xs), (40, .ar false .u8 (e.Z 2).xs), (41, .ar false .i32 (e.Z 3).xs), (42, .ar false .i32 (e.Z 4).xs), (47, .ar false .i32 (e.Z 9).xs), (48, .ar false .i8 (e.Z 10).xs), (49, .ar false .i16 (e.Z 11).xs), (50, .ar false .i16 (e.Z 12).xs), (51, .ar false .u64 (e.Z 13).xs), (52, .ar false .i16 (e.Z 14).xs), (53, .ar false .i16 (e.Z 15).xs), (54, .ar false .i32 (e.Z 16).xs), (55, .ar false .i32 (e.Z 17).xs), (56, .ar false .i32 (e.Z 18).xs), (57, .ar false .i32 (e.Z 19).xs), (58, .ar false .i16 (e.Z 20).xs), (59, .ar false .i16 (e.Z 21).xs), (60, .ar false .i16 (e.Z 22).xs), (61, .ar false .i16 (e.Z 23).xs), (63, .ar false .i64 (e.Z 25).xs), (65, .ar false .i8 (e.Z 27).xs), (66, .ar false .i16 (e.Z 28).xs), (62, .un 2), (64, .un e.c)]
@[reducible] def twoSH (m e : Ch) : List (Nat × B) := [(0, .st (cellsP (.p 107 0) .any [(1, 77), (2, 78), (3, 79), (4, 80), (5, 81), (6, 82), (7, 83), (8, 84), (9, 85), (10, 86), (11, 87), (12, 88), (13, 89), (14, 90), (15, 91), (16, 92), (17, 93), (18, 94), (19, 95), (20, 96), (21, 97), (22, 98), (23, 99), (25, 101), (26, 102), (27, 103), (28, 104)] m.a (m.c, m.c) m.D m.Z)), (77, .ar false .u8 (m.Z 1).xs), (78, .ar false .u8 (m.Z 2).xs), (79, .ar false .i32 (m.Z 3).xs), (80, .ar false .i32 (m.Z 4).xs), (81, .bl false (m.Z 5).ys), (82, .bl false (m.Z 6).ys), (83, .bl false (m.Z 7).ys), (84, .bl false (m.Z 8).ys), (85, .ar false .i32 (m.Z 9).xs), (86, .ar false .i8 (m.Z 10).xs), (87, .ar false .i16 (m.Z 11).xs), (88, .ar false .i16 (m.Z 12).xs), (89, .ar false .u64 (m.Z 13).xs), (90, .ar false .i16 (m.Z 14).xs), (91, .ar false .i16 (m.Z 15).xs), (92, .ar false .i32 (m.Z 16).xs), (93, .ar false .i32 (m.Z 17).xs), (94, .ar false .i32 (m.Z 18).xs), (95, .ar false .i32 (m.Z 19).xs), (96, .ar false .i16 (m.Z 20).xs), (97, .ar false .i16 (m.Z 21).xs), (98, .ar false .i16 (m.Z 22).xs), (99, .ar false .i16 (m.Z 23).xs), (101, .ar false .i64 (m.Z 25).xs), (103, .ar false .i8 (m.Z 27).xs), (104, .ar false .i16 (m.Z 28).xs), (24, .un 2), (102, .un m.c), (107, .st (cellsP .np .any [(1, 115), (2, 116), (3, 117), (4, 118), (5, 119), (6, 120), (7, 121), (8, 122), (9, 123), (10, 124), (11, 125), (12, 126), (13, 127), (14, 128), (15, 129), (16, 130), (17, 131), (18, 132), (19, 133), (20, 134), (21, 135), (22, 136), (23, 137), (24, 138), (25, 139), (26, 140), (27, 141), (28, 142)] e.a (e.c, e.c) e.D e.Z)), (115, .ar false .u8 (e.Z 1).xs), (116, .ar false .u8 (e.Z 2).xs), (117, .ar false .i32 (e.Z 3).xs), (118, .ar false .i32 (e.Z 4).xs), (123, .ar false .i32 (e.Z 9).xs), (124, .ar false .i8 (e.Z 10).xs), (125, .ar false .i16 (e.Z 11).xs), (126, .ar false .i16 (e.Z 12).xs), (127, .ar false .u64 (e.Z 13).xs), (128, .ar false .i16 (e.Z 14).xs), (129, .ar false .i16 (e.Z 15).xs), (130, .ar false .i32 (e.Z 16).xs), (131, .ar false .i32 (e.Z 17).xs), (132, .ar false .i32 (e.Z 18).xs), (133, .ar false .i32 (e.Z 19).xs), (134, .ar false .i16 (e.Z 20).xs), (135, .ar false .i16 (e.Z 21).xs), (136, .ar false .i16 (e.Z 22).xs), (137, .ar false .i16 (e.Z 23).xs), (139, .ar false .i64 (e.Z 25).xs), (141, .ar false .i8 (e.Z 27).xs), (142, .ar false .i16 (e.Z 28).xs), (138, .un 2), (140, .un e.c)]
@[reducible] def twoSE (m e : Ch) : List (Nat × B) := [(0, .st (cellsP (.p 107 0) (.p 105 0) [(1, 77), (2, 78), (3, 79), (4, 80), (5, 81), (6, 82), (7, 83), (8, 84), (9, 85), (10, 86), (11, 87), (12, 88), (13, 89), (14, 90), (15, 91), (16, 92), (17, 93), (18, 94), (19, 95), (20, 96), (21, 97), (22, 98), (23, 99), (25, 101), (26, 102), (27, 103), (28, 104)] m.a (m.c, m.c) m.D m.Z)), (77, .ar false .u8 (m.Z 1).xs), (78, .ar false .u8 (m.Z 2).xs), (79, .ar false .i32 (m.Z 3).xs), (80, .ar false .i32 (m.Z 4).xs), (81, .bl false (m.Z 5).ys), (82, .bl false (m.Z 6).ys), (83, .bl false (m.Z 7).ys), (84, .bl false (m.Z 8).ys), (85, .ar false .i32 (m.Z 9).xs), (86, .ar false .i8 (m.Z 10).xs), (87, .ar false .i16 (m.Z 11).xs), (88, .ar false .i16 (m.Z 12).xs), (89, .ar false .u64 (m.Z 13).xs), (90, .ar false .i16 (m.Z 14).xs), (91, .ar false .i16 (m.Z 15).xs), (92, .ar false .i32 (m.Z 16).xs), (93, .ar false .i32 (m.Z 17).xs), (94, .ar false .i32 (m.Z 18).xs), (95, .ar false .i32 (m.Z 19).xs), (96, .ar false .i16 (m.Z 20).xs), (97, .ar false .i16 (m.Z 21).xs), (98, .ar false .i16 (m.Z 22).xs), (99, .ar false .i16 (m.Z 23).xs), (101, .ar false .i64 (m.Z 25).xs), (103, .ar false .i8 (m.Z 27).xs), (104, .ar false .i16 (m.Z 28).xs), (24, .un 2), (102, .un m.c), (107, .st (cellsP .np .any [(1, 115), (2, 116), (3, 117), (4, 118), (5, 119), (6, 120), (7, 121), (8, 122), (9, 123), (10, 124), (11, 125), (12, 126), (13, 127), (14, 128), (15, 129), (16, 130), (17, 131), (18, 132), (19, 133), (20, 134), (21, 135), (22, 136), (23, 137), (24, 138), (25, 139), (26, 140), (27, 141), (28, 142)] e.a (e.c, e.c) e.D e.Z)), (115, .ar false .u8 (e.Z 1).xs), (116, .ar false .u8 (e.Z 2).xs), (117, .ar false .i32 (e.Z 3).xs), (118, .ar false .i32 (e.Z 4).xs), (123, .ar false .i32 (e.Z 9).xs), (124, .ar false .i8 (e.Z 10).xs), (125, .ar false .i16 (e.Z 11).xs), (126, .ar false .i16 (e.Z 12).xs), (127, .ar false .u64 (e.Z 13).xs), (128, .ar false .i16 (e.Z 14).xs), (129, .ar false .i16 (e.Z 15).xs), (130, .ar false .i32 (e.Z 16).xs), (131, .ar false .i32 (e.Z 17).xs), (132, .ar false .i32 (e.Z 18).xs), (133, .ar false .i32 (e.Z 19).xs), (134, .ar false .i16 (e.Z 20).xs), (135, .ar false .i16 (e.Z 21).xs), (136, .ar false .i16 (e.Z 22).xs), (137, .ar false .i16 (e.Z 23).xs), (139, .ar false .i64 (e.Z 25).xs), (141, .ar false .i8 (e.Z 27).xs), (142, .ar false .i16 (e.Z 28).xs), (138, .un 2), (140, .un e.c)]
@[reducible] def rhoR : List Nat := [0, 77, 78, 79, 80, 81, 82, 83, 84, 85, 86, 87, 88, 89, 90, 91, 92, 93, 94, 95, 96, 97, 98, 99, 24, 101, 102, 103, 104, 105, 106, 107, 108, 109, 110, 111, 112, 113, 114, 115, 116, 117, 118, 119, 120, 121, 122, 123, 124, 125, 126, 127, 128, 129, 130, 131, 132, 133, 134, 135, 136, 137, 138, 139, 140, 141, 142, 143, 144, 145, 146, 147, 148, 149, 150, 151]
@[reducible] def rc6 (D : Dec) : List C := [.is .u8 D.data, .i .u64 D.b, .i .u64 D.r, .i .u64 D.n, .i .u32 D.s, .i .u32 D.h]
theorem f14a (m e : Ch) (data : List Int) (st : Bool) (ns bw : Int) (hm : m.Sk) (he : e.Sk) (hd : data.length ≤ 1275) (hb : bw = 1 ∨ bw = 2 ∨ bw = 3) (hns : ns = 10000000 ∨ ns = 20000000 ∨ ns = 40000000 ∨ ns = 60000000) :
    FnS 14 [.c (.p 0 0), .c (.is .u8 data), .c (.b st), .c (.i .i64 ns), .c (.i .u8 bw)] (lay (twoS m e) 76) fun v l' => ∃ (m' e' : Ch) (recs : List (List C)), m'.Ok ∧ e'.Sk ∧ More 12 [] recs ∧
      v = .tu [.c (.osl 106 recs.length), .ag (rc6 m'.D), .c (.kv .nilIface)] ∧ l' = lay ((106, .rs true 24 recs) :: twoSE m' e') 152 := by
  refine FnS.wpR (b := 76) Proofs.Tryz.f14 rfl rfl rfl rfl rfl rfl ?_
  refine WpN.seq (WpN.vc ?_)
  conv=>whnf
  refine WpN.seq (WpN.vc ?_)
  conv=>whnf
  refine CallQ.use0 (f28 data _ _ _ _ _ _ _ hd) (by rfl) ?_
  rintro v b' ⟨bn, n', s', h', rfl, hr, rfl⟩
  conv=>whnf
  refine WpN.seq (WpN.vc ?_)
  conv=>whnf
  have hm1 : Ch.Ok ⟨{ m.D with data := data, b := bn, r := 0, n := n', s := s', h := h' }, m.Z, m.c, m.a⟩ := ⟨⟨hr, hm.g⟩, hm.n, hm.c⟩
  refine WpN.weaken (s := mkSt [(0, .c (.p 0 0)), (2, .c (.b st)), (3, .c (.i .i64 ns)), (4, .c (.i .u8 bw)), (10, .c (.p 105 0)), (11, .c (.p 152 0))] (lay ((105, .st [.osl 106 0]) :: (106, .rs true 24 []) :: (152, .st [.nsl, .i .u64 0, .i .u64 0, .i .u64 0, .i .u32 0, .i .u32 0]) :: twoSE ⟨{ m.D with data := data, b := bn, r := 0, n := n', s := s', h := h' }, m.Z, m.c, m.a⟩ e) 153) 32) ?_ rfl ?_
  · refine Rel.trans (Rel.nilO (nm := 76) (i := 0) (y := .rs true 24 []) rfl rfl rfl (fun m h => by cases h)) ?_
    exact (Rel.lay [(77, 1), (78, 2), (79, 3), (80, 4), (81, 5), (82, 6), (83, 7), (84, 8), (85, 9), (86, 10), (87, 11), (88, 12), (89, 13), (90, 14), (91, 15), (92, 16), (93, 17), (94, 18), (95, 19), (96, 20), (97, 21), (98, 22), (99, 23), (101, 25), (102, 26), (103, 27), (104, 28), (107, 31), (108, 32), (109, 33), (110, 34), (111, 35), (112, 36), (113, 37), (114, 38), (115, 39), (116, 40), (117, 41), (118, 42), (119, 43), (120, 44), (121, 45), (122, 46), (123, 47), (124, 48), (125, 49), (126, 50), (127, 51), (128, 52), (129, 53), (130, 54), (131, 55), (132, 56), (133, 57), (134, 58), (135, 59), (136, 60), (137, 61), (138, 62), (139, 63), (140, 64), (141, 65), (142, 66), (143, 67), (144, 68), (145, 69), (146, 70), (147, 71), (148, 72), (149, 73), (150, 74), (151, 75), (105, 76), (106, 78), (152, 77)] (by kernel_rfl) (by repeat constructor) (by repeat' (first | exact trivial | refine And.intro ?_ ?_ | kernel_rfl)))
  generalize (⟨{ m.D with data := data, b := bn, r := 0, n := n', s := s', h := h' }, m.Z, m.c, m.a⟩ : Ch) = m1 at hm1
  refine WpN.cut (ι := Ch × Ch × List (List C)) (fun _=>[(0, .c (.p 0 0)), (10, .c (.p 105 0)), (11, .c (.p 152 0)), (12, .c (.kv .nilIface))]) (fun x => lay ((105, .st [.osl 106 x.2.2.length]) :: (106, .rs true 24 x.2.2) :: (152, .st [.nsl, .i .u64 0, .i .u64 0, .i .u64 0, .i .u32 0, .i .u32 0]) :: twoSE x.1 x.2.1) 153)
    (fun x => x.1.Ok ∧ x.2.1.Sk ∧ More 12 [] x.2.2) (WpN.vc ?_) ?_
  · conv=>whnf
    refine CallQ.useF rhoR (f29 m1 e [] st ns bw hm1 he hb hns (by decide)) rfl (by kernel_rfl) (stEq_lay (by repeat' (first | exact trivial | refine And.intro ?_ ?_ | kernel_rfl)) 76 0) ?_
    rintro v l' ⟨m', e', rs, hm', he', hr, rfl, rfl⟩
    conv=>whnf
    exact ⟨(m', e', rs), ⟨hm', he', hr⟩, (Rel.lay [(77, 154), (78, 155), (79, 156), (80, 157), (81, 158), (82, 159), (83, 160), (84, 161), (85, 162), (86, 163), (87, 164), (88, 165), (89, 166), (90, 167), (91, 168), (92, 169), (93, 170), (94, 171), (95, 172), (96, 173), (97, 174), (98, 175), (99, 176), (101, 178), (102, 179), (103, 180), (104, 181), (106, 183), (107, 184), (108, 185), (109, 186), (110, 187), (111, 188), (112, 189), (113, 190), (114, 191), (115, 192), (116, 193), (117, 194), (118, 195), (119, 196), (120, 197), (121, 198), (122, 199), (123, 200), (124, 201), (125, 202), (126, 203), (127, 204), (128, 205), (129, 206), (130, 207), (131, 208), (132, 209), (133, 210), (134, 211), (135, 212), (136, 213), (137, 214), (138, 215), (139, 216), (140, 217), (141, 218), (142, 219), (143, 220), (144, 221), (145, 222), (146, 223), (147, 224), (148, 225), (149, 226), (150, 227), (151, 228)] (by kernel_rfl) (by repeat constructor) (by repeat' (first | exact trivial | refine And.intro ?_ ?_ | kernel_rfl)))⟩
  rintro ⟨m', e', rs⟩ ⟨hm', he', hr⟩
  dsimp only at hm' he' hr ⊢
  refine WpN.vc ?_
  conv=>whnf
  refine .inl ⟨by kernel_rfl, ?_⟩
  conv=>whnf
  exact ⟨[], .tu [.c (.osl 106 rs.length), .ag (rc6 m'.D), .c (.kv .nilIface)], lay ((106, .rs true 24 rs) :: twoSE m' e') 152, rfl, by kernel_rfl, stEq_lay (by repeat' (first | exact trivial | refine And.intro ?_ ?_ | kernel_rfl)) 152 0, m', e', rs, hm', he', hr, rfl, rfl⟩
theorem f14 (m e : Ch) (data : List Int) (st : Bool) (ns bw : Int) (hm : m.Sk) (he : e.Sk) (hd : data.length ≤ 1275) (hb : bw = 1 ∨ bw = 2 ∨ bw = 3) (hns : ns = 10000000 ∨ ns = 20000000 ∨ ns = 40000000 ∨ ns = 60000000) :
    FnS 14 [.c (.p 0 0), .c (.is .u8 data), .c (.b st), .c (.i .i64 ns), .c (.i .u8 bw)] (lay (twoS m e) 76) fun v l' => ∃ (m' e' : Ch) (recs : List (List C)), m'.Ok ∧ e'.Sk ∧ More 12 [] recs ∧
      v = .tu [.c (.irs 24 recs), .ag (rc6 m'.D), .c (.kv .nilIface)] ∧ l' = lay (twoSH m' e') 152 := by
  refine FnS.behind (FnS.behind (f14a m e data st ns bw hm he hd hb hns) (K' := fun v l' => ∃ (m' e' : Ch) (recs : List (List C)), m'.Ok ∧ e'.Sk ∧ More 12 [] recs ∧ v = .tu [.c (.osl 106 recs.length), .ag (rc6 m'.D), .c (.kv .nilIface)] ∧ l' = lay ((106, .rs true 24 recs) :: twoSH m' e') 152) ?_) ?_
  · rintro v l' ⟨m', e', rs, h1, h2, h3, rfl, rfl⟩
    refine ⟨_, _, ⟨m', e', rs, h1, h2, h3, rfl, rfl⟩, RelM.of_rel (by kernel_rfl) (by kernel_rfl) (by rw [lay_len, lay_len]; decide) (by rw [lay_len, lay_len]; decide) ?_⟩
    refine Rel.trans (Rel.tellC (nm := 0) (i := 44) (c := .p 105 0) .any rfl rfl (fun _ _ _ => .any) (fun _ h => h)) ?_
    exact Rel.lay (k := 152) [] (E := [(0, .tu [.c (.osl 106 rs.length), .ag (rc6 m'.D), .c (.kv .nilIface)])]) (l := (106, .rs true 24 rs) :: twoSH m' e') (by kernel_rfl) (by repeat constructor) (by repeat' (first | exact trivial | refine And.intro ?_ ?_ | kernel_rfl))
  · rintro v l' ⟨m', e', rs, h1, h2, h3, rfl, rfl⟩
    refine ⟨_, _, ⟨m', e', rs, h1, h2, h3, rfl, rfl⟩, ?_⟩
    have hr := RelM.frz1 (b := (lay (twoS m e) 76).length) (nx := 152) (c := .osl 106 rs.length) (c' := .irs 24 rs) (vs := [.ag (rc6 m'.D), .c (.kv .nilIface)]) (st := mkS (lay ((106, .rs true 24 rs) :: twoSH m' e') 152)) (st' := del (mkS (lay ((106, .rs true 24 rs) :: twoSH m' e') 152)) 106) (φ := rs.length = rs.length) (by kernel_rfl) rfl (by rw [lay_len]; decide) (by kernel_rfl)
    exact hr.then_same (stEq_lay (by repeat' (first | exact trivial | refine And.intro ?_ ?_ | kernel_rfl)) 152 0) (by kernel_rfl)
theorem take_map {f : Int → Int} {xs : List Int} {j : Nat} (h : j < xs.length) : ((xs.take j).map f) ++ [f (xs.getD j 0)] = (xs.take (j + 1)).map f := by
  rw [List.take_add_one, List.map_append, List.getD_eq_getElem?_getD, List.getElem?_eq_getElem h]
  rfl
theorem take_one {xs : List Int} {j : Nat} (h : j < xs.length) : xs.take j ++ [xs.getD j 0] = xs.take (j + 1) := by
  rw [List.take_add_one, List.getD_eq_getElem?_getD, List.getElem?_eq_getElem h]
  rfl
theorem f31 (xs : List Int) (hx : xs.length ≤ 1000) : FnS 31 [.c (.is .i32 xs)] [] fun v l' => v = .c (.is .i64 (xs.map IntKind.i64.wrap)) ∧ l' = [] := by
  refine FnS.behind (K := fun v l' => v = .c (.osl 0 xs.length) ∧ l' = [some (.ar true .i64 (xs.map IntKind.i64.wrap))]) ?_ ?_
  · refine FnS.wpR (b := 0) Proofs.Tryz.f31 rfl rfl rfl rfl rfl rfl ?_
    refine WpN.seq (WpN.vc ?_)
    conv=>whnf
    refine WpN.weaken (s := mkSt [(0, .c (.is .i32 xs)), (2, .c (.osl 0 0))] [some (.ar true .i64 [])] 18) (Rel.trans (Rel.nilE (t := 2) (.ar true .i64 []) rfl rfl (fun m h => by cases h)) (Ren.relOf [] (by kernel_rfl) (by repeat constructor) (by repeat constructor))) rfl ?_
    refine WpN.seq (WpN.vc ?_)
    conv=>whnf
    refine WpS.loop (ι := Nat) (fun j => mkSt [(2, .c (.osl 0 j)), (5, .c (.is .i32 xs)), (6, .c (.i .i64 xs.length)), (7, .c (.i .i64 j))] [some (.ar true .i64 ((xs.take j).map IntKind.i64.wrap))] 18) (fun j => j ≤ xs.length) (fun j => xs.length - j) 0 (Nat.zero_le _) (Ren.relOf [] (by kernel_rfl) (by repeat constructor) (by repeat constructor)) ?_
    intro j hj
    refine VC_ok ?_
    conv=>whnf
    refine ⟨fun hc => ?_, fun hc => ?_⟩
    · have hc : j < xs.length := by have := of_decide_eq_true hc; omega
      conv=>whnf
      refine And.intro (by omega) ?_
      conv=>whnf
      repeat (refine And.intro (by first | decide | omega | (simp; omega) | (simp; done)) ?_; conv=>whnf)
      rw [Int.toNat_natCast, take_map hc, add1 (by omega), show ((xs.take (j + 1)).map IntKind.i64.wrap).length = j + 1 by simp; omega]
      exact ⟨j + 1, by omega, by omega, Ren.relOf [(0, 2)] (by kernel_rfl) (by repeat constructor) (by repeat constructor)⟩
    · have hj : j = xs.length := by have := of_decide_eq_false hc; omega
      subst hj
      conv=>whnf
      refine ⟨rfl, ?_⟩
      refine WpN.vc ?_
      conv=>whnf
      exact ⟨[], .c (.osl 0 xs.length), [some (.ar true .i64 (xs.map IntKind.i64.wrap))], rfl, by kernel_rfl, ⟨by show some _ = some _; rw [List.take_length]; rfl, trivial⟩, rfl, rfl⟩
  · rintro v l' ⟨rfl, rfl⟩
    exact ⟨_, _, ⟨rfl, rfl⟩, (RelM.frz0 (b := 0) (nx := 1) (c := .osl 0 xs.length) (c' := .is .i64 (xs.map IntKind.i64.wrap)) (st := mkS [some (.ar true .i64 (xs.map IntKind.i64.wrap))]) (φ := xs.length = (xs.map IntKind.i64.wrap).length) rfl (by simp) (Nat.zero_le _)).to [] trivial rfl rfl (Nat.zero_le _)⟩
theorem f32 (xs : List Int) (hx : xs.length ≤ 1000) : FnS 32 [.c (.is .i16 xs)] [] fun v l' => v = .c (.is .i64 (xs.map IntKind.i64.wrap)) ∧ l' = [] := by
  refine FnS.behind (K := fun v l' => v = .c (.osl 0 xs.length) ∧ l' = [some (.ar true .i64 (xs.map IntKind.i64.wrap))]) ?_ ?_
  · refine FnS.wpR (b := 0) Proofs.Tryz.f32 rfl rfl rfl rfl rfl rfl ?_
    refine WpN.seq (WpN.vc ?_)
    conv=>whnf
    refine WpN.weaken (s := mkSt [(0, .c (.is .i16 xs)), (2, .c (.osl 0 0))] [some (.ar true .i64 [])] 18) (Rel.trans (Rel.nilE (t := 2) (.ar true .i64 []) rfl rfl (fun m h => by cases h)) (Ren.relOf [] (by kernel_rfl) (by repeat constructor) (by repeat constructor))) rfl ?_
    refine WpN.seq (WpN.vc ?_)
    conv=>whnf
    refine WpS.loop (ι := Nat) (fun j => mkSt [(2, .c (.osl 0 j)), (5, .c (.is .i16 xs)), (6, .c (.i .i64 xs.length)), (7, .c (.i .i64 j))] [some (.ar true .i64 ((xs.take j).map IntKind.i64.wrap))] 18) (fun j => j ≤ xs.length) (fun j => xs.length - j) 0 (Nat.zero_le _) (Ren.relOf [] (by kernel_rfl) (by repeat constructor) (by repeat constructor)) ?_
    intro j hj
    refine VC_ok ?_
    conv=>whnf
    refine ⟨fun hc => ?_, fun hc => ?_⟩
    · have hc : j < xs.length := by have := of_decide_eq_true hc; omega
      conv=>whnf
      refine And.intro (by omega) ?_
      conv=>whnf
      repeat (refine And.intro (by first | decide | omega | (simp; omega) | (simp; done)) ?_; conv=>whnf)
      rw [Int.toNat_natCast, take_map hc, add1 (by omega), show ((xs.take (j + 1)).map IntKind.i64.wrap).length = j + 1 by simp; omega]
      exact ⟨j + 1, by omega, by omega, Ren.relOf [(0, 2)] (by kernel_rfl) (by repeat constructor) (by repeat constructor)⟩
    · have hj : j = xs.length := by have := of_decide_eq_false hc; omega
      subst hj
      conv=>whnf
      refine ⟨rfl, ?_⟩
      refine WpN.vc ?_
      conv=>whnf
      exact ⟨[], .c (.osl 0 xs.length), [some (.ar true .i64 (xs.map IntKind.i64.wrap))], rfl, by kernel_rfl, ⟨by show some _ = some _; rw [List.take_length]; rfl, trivial⟩, rfl, rfl⟩
  · rintro v l' ⟨rfl, rfl⟩
    exact ⟨_, _, ⟨rfl, rfl⟩, (RelM.frz0 (b := 0) (nx := 1) (c := .osl 0 xs.length) (c' := .is .i64 (xs.map IntKind.i64.wrap)) (st := mkS [some (.ar true .i64 (xs.map IntKind.i64.wrap))]) (φ := xs.length = (xs.map IntKind.i64.wrap).length) rfl (by simp) (Nat.zero_le _)).to [] trivial rfl rfl (Nat.zero_le _)⟩
theorem f33 (xs : List Int) (hx : xs.length ≤ 1000) : FnS 33 [.c (.is .i64 xs)] [] fun v l' => v = .c (.is .i64 xs) ∧ l' = [] := by
  refine FnS.behind (K := fun v l' => v = .c (.osl 0 xs.length) ∧ l' = [some (.ar true .i64 xs)]) ?_ ?_
  · refine FnS.wpR (b := 0) Proofs.Tryz.f33 rfl rfl rfl rfl rfl rfl ?_
    refine WpN.seq (WpN.vc ?_)
    conv=>whnf
    refine WpN.weaken (s := mkSt [(0, .c (.is .i64 xs)), (2, .c (.osl 0 0))] [some (.ar true .i64 [])] 17) (Rel.trans (Rel.nilE (t := 2) (.ar true .i64 []) rfl rfl (fun m h => by cases h)) (Ren.relOf [] (by kernel_rfl) (by repeat constructor) (by repeat constructor))) rfl ?_
    refine WpN.seq (WpN.vc ?_)
    conv=>whnf
    refine WpS.loop (ι := Nat) (fun j => mkSt [(2, .c (.osl 0 j)), (5, .c (.is .i64 xs)), (6, .c (.i .i64 xs.length)), (7, .c (.i .i64 j))] [some (.ar true .i64 (xs.take j))] 17) (fun j => j ≤ xs.length) (fun j => xs.length - j) 0 (Nat.zero_le _) (Ren.relOf [] (by kernel_rfl) (by repeat constructor) (by repeat constructor)) ?_
    intro j hj
    refine VC_ok ?_
    conv=>whnf
    refine ⟨fun hc => ?_, fun hc => ?_⟩
    · have hc : j < xs.length := by have := of_decide_eq_true hc; omega
      conv=>whnf
      refine And.intro (by omega) ?_
      conv=>whnf
      repeat (refine And.intro (by first | decide | omega | (simp; omega) | (simp; done)) ?_; conv=>whnf)
      rw [Int.toNat_natCast, take_one hc, add1 (by omega), show (xs.take (j + 1)).length = j + 1 by simp; omega]
      exact ⟨j + 1, by omega, by omega, Ren.relOf [(0, 2)] (by kernel_rfl) (by repeat constructor) (by repeat constructor)⟩
    · have hj : j = xs.length := by have := of_decide_eq_false hc; omega
      subst hj
      conv=>whnf
      refine ⟨rfl, ?_⟩
      refine WpN.vc ?_
      conv=>whnf
      exact ⟨[], .c (.osl 0 xs.length), [some (.ar true .i64 xs)], rfl, by kernel_rfl, ⟨by show some _ = some _; rw [List.take_length]; rfl, trivial⟩, rfl, rfl⟩
  · rintro v l' ⟨rfl, rfl⟩
    exact ⟨_, _, ⟨rfl, rfl⟩, (RelM.frz0 (b := 0) (nx := 1) (c := .osl 0 xs.length) (c' := .is .i64 xs) (st := mkS [some (.ar true .i64 xs)]) (φ := xs.length = xs.length) rfl (by simp) (Nat.zero_le _)).to [] trivial rfl rfl (Nat.zero_le _)⟩
theorem f34 (xs : List Int) (hx : xs.length ≤ 1000) : FnS 34 [.c (.is .u8 xs)] [] fun v l' => v = .c (.is .i64 (xs.map IntKind.i64.wrap)) ∧ l' = [] := by
  refine FnS.behind (K := fun v l' => v = .c (.osl 0 xs.length) ∧ l' = [some (.ar true .i64 (xs.map IntKind.i64.wrap))]) ?_ ?_
  · refine FnS.wpR (b := 0) Proofs.Tryz.f34 rfl rfl rfl rfl rfl rfl ?_
    refine WpN.seq (WpN.vc ?_)
    conv=>whnf
    refine WpN.weaken (s := mkSt [(0, .c (.is .u8 xs)), (2, .c (.osl 0 0))] [some (.ar true .i64 [])] 18) (Rel.trans (Rel.nilE (t := 2) (.ar true .i64 []) rfl rfl (fun m h => by cases h)) (Ren.relOf [] (by kernel_rfl) (by repeat constructor) (by repeat constructor))) rfl ?_
    refine WpN.seq (WpN.vc ?_)
    conv=>whnf
    refine WpS.loop (ι := Nat) (fun j => mkSt [(2, .c (.osl 0 j)), (5, .c (.is .u8 xs)), (6, .c (.i .i64 xs.length)), (7, .c (.i .i64 j))] [some (.ar true .i64 ((xs.take j).map IntKind.i64.wrap))] 18) (fun j => j ≤ xs.length) (fun j => xs.length - j) 0 (Nat.zero_le _) (Ren.relOf [] (by kernel_rfl) (by repeat constructor) (by repeat constructor)) ?_
    intro j hj
    refine VC_ok ?_
    conv=>whnf
    refine ⟨fun hc => ?_, fun hc => ?_⟩
    · have hc : j < xs.length := by have := of_decide_eq_true hc; omega
      conv=>whnf
      refine And.intro (by omega) ?_
      conv=>whnf
      repeat (refine And.intro (by first | decide | omega | (simp; omega) | (simp; done)) ?_; conv=>whnf)
      rw [Int.toNat_natCast, take_map hc, add1 (by omega), show ((xs.take (j + 1)).map IntKind.i64.wrap).length = j + 1 by simp; omega]
      exact ⟨j + 1, by omega, by omega, Ren.relOf [(0, 2)] (by kernel_rfl) (by repeat constructor) (by repeat constructor)⟩
    · have hj : j = xs.length := by have := of_decide_eq_false hc; omega
      subst hj
      conv=>whnf
      refine ⟨rfl, ?_⟩
      refine WpN.vc ?_
      conv=>whnf
      exact ⟨[], .c (.osl 0 xs.length), [some (.ar true .i64 (xs.map IntKind.i64.wrap))], rfl, by kernel_rfl, ⟨by show some _ = some _; rw [List.take_length]; rfl, trivial⟩, rfl, rfl⟩
  · rintro v l' ⟨rfl, rfl⟩
    exact ⟨_, _, ⟨rfl, rfl⟩, (RelM.frz0 (b := 0) (nx := 1) (c := .osl 0 xs.length) (c' := .is .i64 (xs.map IntKind.i64.wrap)) (st := mkS [some (.ar true .i64 (xs.map IntKind.i64.wrap))]) (φ := xs.length = (xs.map IntKind.i64.wrap).length) rfl (by simp) (Nat.zero_le _)).to [] trivial rfl rfl (Nat.zero_le _)⟩
theorem f36 (xs : List Int) (hx : xs.length ≤ 1000) : FnS 36 [.c (.is .i8 xs)] [] fun v l' => v = .c (.is .i64 (xs.map IntKind.i64.wrap)) ∧ l' = [] := by
  refine FnS.behind (K := fun v l' => v = .c (.osl 0 xs.length) ∧ l' = [some (.ar true .i64 (xs.map IntKind.i64.wrap))]) ?_ ?_
  · refine FnS.wpR (b := 0) Proofs.Tryz.f36 rfl rfl rfl rfl rfl rfl ?_
    refine WpN.seq (WpN.vc ?_)
    conv=>whnf
    refine WpN.weaken (s := mkSt [(0, .c (.is .i8 xs)), (2, .c (.osl 0 0))] [some (.ar true .i64 [])] 18) (Rel.trans (Rel.nilE (t := 2) (.ar true .i64 []) rfl rfl (fun m h => by cases h)) (Ren.relOf [] (by kernel_rfl) (by repeat constructor) (by repeat constructor))) rfl ?_
    refine WpN.seq (WpN.vc ?_)
    conv=>whnf
    refine WpS.loop (ι := Nat) (fun j => mkSt [(2, .c (.osl 0 j)), (5, .c (.is .i8 xs)), (6, .c (.i .i64 xs.length)), (7, .c (.i .i64 j))] [some (.ar true .i64 ((xs.take j).map IntKind.i64.wrap))] 18) (fun j => j ≤ xs.length) (fun j => xs.length - j) 0 (Nat.zero_le _) (Ren.relOf [] (by kernel_rfl) (by repeat constructor) (by repeat constructor)) ?_
    intro j hj
    refine VC_ok ?_
    conv=>whnf
    refine ⟨fun hc => ?_, fun hc => ?_⟩
    · have hc : j < xs.length := by have := of_decide_eq_true hc; omega
      conv=>whnf
      refine And.intro (by omega) ?_
      conv=>whnf
      repeat (refine And.intro (by first | decide | omega | (simp; omega) | (simp; done)) ?_; conv=>whnf)
      rw [Int.toNat_natCast, take_map hc, add1 (by omega), show ((xs.take (j + 1)).map IntKind.i64.wrap).length = j + 1 by simp; omega]
      exact ⟨j + 1, by omega, by omega, Ren.relOf [(0, 2)] (by kernel_rfl) (by repeat constructor) (by repeat constructor)⟩
    · have hj : j = xs.length := by have := of_decide_eq_false hc; omega
      subst hj
      conv=>whnf
      refine ⟨rfl, ?_⟩
      refine WpN.vc ?_
      conv=>whnf
      exact ⟨[], .c (.osl 0 xs.length), [some (.ar true .i64 (xs.map IntKind.i64.wrap))], rfl, by kernel_rfl, ⟨by show some _ = some _; rw [List.take_length]; rfl, trivial⟩, rfl, rfl⟩
  · rintro v l' ⟨rfl, rfl⟩
    exact ⟨_, _, ⟨rfl, rfl⟩, (RelM.frz0 (b := 0) (nx := 1) (c := .osl 0 xs.length) (c' := .is .i64 (xs.map IntKind.i64.wrap)) (st := mkS [some (.ar true .i64 (xs.map IntKind.i64.wrap))]) (φ := xs.length = (xs.map IntKind.i64.wrap).length) rfl (by simp) (Nat.zero_le _)).to [] trivial rfl rfl (Nat.zero_le _)⟩
theorem f16 (ys : List Bool) (k c n : Nat) (hk : k ≤ ys.length) (hn : n ≤ 3) : FnS 16 [.c (.sl 0 0 k c), .c (.i .i64 n)] [some (.bl false ys)] fun v l' => ∃ zs : List Bool, zs.length ≤ 3 ∧ v = .c (.ibs zs) ∧ l' = [some (.bl false ys)] := by
  refine FnS.behind (K := fun v l' => ∃ zs : List Bool, zs.length ≤ 3 ∧ v = .c (.osl 1 zs.length) ∧ l' = [some (.bl false ys), some (.bl true zs)]) ?_ ?_
  · refine FnS.wpR (b := 1) Proofs.Tryz.f16 rfl rfl rfl rfl rfl rfl ?_
    refine WpN.seq (WpN.vc ?_)
    conv=>whnf
    refine WpN.weaken (s := mkSt [(0, .c (.sl 0 0 k c)), (1, .c (.i .i64 n)), (4, .c (.osl 1 0))] [some (.bl false ys), some (.bl true [])] 25) (Rel.trans (Rel.nilE (t := 4) (.bl true []) rfl rfl (fun m h => by cases h)) (Ren.relOf [] (by kernel_rfl) (by repeat constructor) (by repeat constructor))) rfl ?_
    refine WpN.seq (WpN.vc ?_)
    conv=>whnf
    refine WpS.loop (ι := Nat × List Bool) (fun x => mkSt [(0, .c (.sl 0 0 k c)), (1, .c (.i .i64 n)), (4, .c (.osl 1 x.2.length)), (5, .c (.i .i64 x.1))] [some (.bl false ys), some (.bl true x.2)] 25) (fun x => x.1 ≤ n ∧ x.2.length = x.1) (fun x => n - x.1) (0, []) ⟨Nat.zero_le _, rfl⟩ (Ren.relOf [] (by kernel_rfl) (by repeat constructor) (by repeat constructor)) ?_
    rintro ⟨j, zs⟩ ⟨hj, hz⟩
    dsimp only at hj hz ⊢
    refine VC_ok ?_
    conv=>whnf
    have fin : ∀ {P : Prop}, P → P := fun h => h
    refine ⟨fun hc => ?_, fun hc => ?_⟩
    · have hc : j < n := by have := of_decide_eq_true hc; omega
      conv=>whnf
      repeat' first|(refine Lt (by decide) ?_;conv=>whnf)|(refine Lf (by decide) ?_;conv=>whnf)|fail
      refine ⟨fun hc2 => ?_, fun hc2 => ?_⟩
      · have hc2 : j < k := by have := of_decide_eq_true hc2; omega
        conv=>whnf
        repeat (refine And.intro (by first | decide | omega | exact Int.natCast_nonneg _ | (simp; omega) | (simp; done)) ?_; conv=>whnf)
        rw [add1 (by omega)]
        refine ⟨(j + 1, zs ++ [_]), ⟨by dsimp only; omega, by simp; omega⟩, by dsimp only; omega, Ren.relOf [(1, 3)] (by kernel_rfl) (by repeat constructor) (by repeat constructor)⟩
      · conv=>whnf
        refine ⟨rfl, ?_⟩
        refine WpN.vc ?_
        conv=>whnf
        exact ⟨[], .c (.osl 1 zs.length), [some (.bl false ys), some (.bl true zs)], rfl, by kernel_rfl, ⟨rfl, rfl, trivial⟩, zs, by omega, rfl, rfl⟩
    · conv=>whnf
      repeat' first|(refine Lt (by decide) ?_;conv=>whnf)|(refine Lf (by decide) ?_;conv=>whnf)|fail
      refine ⟨rfl, ?_⟩
      refine WpN.vc ?_
      conv=>whnf
      exact ⟨[], .c (.osl 1 zs.length), [some (.bl false ys), some (.bl true zs)], rfl, by kernel_rfl, ⟨rfl, rfl, trivial⟩, zs, by omega, rfl, rfl⟩
  · rintro v l' ⟨zs, hz, rfl, rfl⟩
    exact ⟨_, _, ⟨zs, hz, rfl, rfl⟩, (RelM.frz0 (b := 1) (nx := 2) (c := .osl 1 zs.length) (c' := .ibs zs) (st := mkS [some (.bl false ys), some (.bl true zs)]) (φ := zs.length = zs.length) rfl rfl (by decide)).to [some (.bl false ys)] ⟨rfl, trivial⟩ rfl rfl (Nat.le_refl _)⟩
@[reducible] def recV (red sid wei mo : Bool) (w0 w1 kind off : Int) (gains : List Int) (i1 : Int) (res nlsf n1 : List Int) (w : Int) (filters : List (List Int)) (mx : Int) (lags : List Int) (taps : C) (ltp seed rl : Int) (ps ls es : List Int) : V :=
  .ag (recC red sid wei mo w0 w1 kind off gains i1 res nlsf n1 w filters mx lags taps ltp seed rl ps ls es)
theorem f35 (red sid wei mo : Bool) (w0 w1 kind off : Int) (gains : List Int) (i1 : Int) (res nlsf n1 : List Int) (w : Int) (filters : List (List Int)) (mx : Int) (lags : List Int) (taps : C) (ltp seed rl : Int) (ps ls es : List Int) (ht : taps = .nsl ∨ ∃ ts, taps = .iss .i8 ts) (hk : kind = 7 ∨ kind = 8 ∨ kind = 9) :
    FnS 35 [recV red sid wei mo w0 w1 kind off gains i1 res nlsf n1 w filters mx lags taps ltp seed rl ps ls es] [] fun v l' => ∃ k o : Int, v = .tu [.c (.i .i64 k), .c (.i .i64 o)] ∧ l' = [] ∧ (0 ≤ k ∧ k ≤ 2) ∧ (0 ≤ o ∧ o ≤ 1) ∧ (kind = 9 → k = 2) := by
  have fin : ∀ (k o : Int), (0 ≤ k ∧ k ≤ 2) → (0 ≤ o ∧ o ≤ 1) → (kind = 9 → k = 2) → ∃ k' o' : Int, V.tu [.c (.i .i64 k), .c (.i .i64 o)] = .tu [.c (.i .i64 k'), .c (.i .i64 o')] ∧ ([] : List (Option B)) = [] ∧ (0 ≤ k' ∧ k' ≤ 2) ∧ (0 ≤ o' ∧ o' ≤ 1) ∧ (kind = 9 → k' = 2) := fun k o h1 h2 h3 => ⟨k, o, rfl, rfl, h1, h2, h3⟩
  refine FnS.wpR (b := 0) Proofs.Tryz.f35 rfl rfl rfl rfl rfl rfl ?_
  rcases ht with rfl | ⟨ts, rfl⟩
  all_goals
    refine WpN.seq (WpN.vc ?_)
    conv=>whnf
    rcases hk with rfl | rfl | rfl
  all_goals
    refine WpN.seq (WpN.vc ?_)
    conv=>whnf
    repeat' first|(refine Lt (by decide) ?_;conv=>whnf)|(refine Lf (by decide) ?_;conv=>whnf)|fail
    refine WpN.vc ?_
    conv=>whnf
    generalize (off == 11) = o
    cases o
  all_goals
    conv=>whnf
    repeat' first|(refine Lt (by decide) ?_;conv=>whnf)|(refine Lf (by decide) ?_;conv=>whnf)|fail
    exact ⟨[], .tu [.c (.i .i64 _), .c (.i .i64 _)], [], rfl, by kernel_rfl, trivial, fin _ _ (by decide) (by decide) (by decide)⟩
theorem f15 (a : Nat) (q : Nat × Nat) (D : Dec) (Z : Nat → Buf) : FnS 15 [.c (.p 0 0)] (lay [(0, .st (cellsP (.p 31 0) .any [] a q D Z))] 38) fun v l' => v = .tu [.c (bC [] Z 5), .c (bC [] Z 6), .c (bC [] Z 7), .c (bC [] Z 8)] ∧ l' = lay [(0, .st (cellsP (.p 31 0) .any [] a q D Z))] 38 := by
  refine FnS.wpR (b := 38) Proofs.Tryz.f15 rfl rfl rfl rfl rfl rfl ?_
  refine WpN.seq (WpN.vc ?_)
  conv=>whnf
  refine WpN.vc ?_
  conv=>whnf
  refine .inl ⟨by kernel_rfl, ?_⟩
  conv=>whnf
  exact ⟨[], .tu [.c (bC [] Z 5), .c (bC [] Z 6), .c (bC [] Z 7), .c (bC [] Z 8)], lay [(0, .st (cellsP (.p 31 0) .any [] a q D Z))] 38, rfl, by kernel_rfl, stEq_lay (by repeat' (first | exact trivial | refine And.intro ?_ ?_ | kernel_rfl)) 38 0, rfl, rfl⟩
end Go.SX
