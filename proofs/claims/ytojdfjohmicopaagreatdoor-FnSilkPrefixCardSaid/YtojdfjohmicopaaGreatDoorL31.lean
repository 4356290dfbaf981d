/- A part of the proof: the SILK decoder of the given program, walked by an executor that is proved sound. No statement of the program is proved in this text. -/
import Derived.Test.YtojdfjohmicopaaGreatDoorL14
import Derived.Test.YtojdfjohmicopaaGreatDoorL30
set_option linter.all false
set_option maxRecDepth 100000
namespace Go.SX
open Go
def RecOk (r : List C) : Prop := ∃ (red sid wei mo : Bool) (w0 w1 kind off : Int) (gs : List Int) (i1 : Int) (rs ns ms : List Int) (w : Int) (fs : List (List Int)) (mx : Int) (lg : List Int) (tp : C) (ts : List (List Int)) (ltp seed rl : Int) (ps ls es : List Int),
  r = recC red sid wei mo w0 w1 kind off gs i1 rs ns ms w fs mx lg tp ltp seed rl ps ls es ∧ ((kind = 7 ∨ kind = 8 ∨ kind = 9) ∧ (off = 10 ∨ off = 11)) ∧ (0 < gs.length ∧ ∀ g ∈ gs, 81920 ≤ g ∧ g ≤ 1686110208) ∧
  LsfOk ns.length ns ∧ (∀ x ∈ lg, (16 ≤ x ∧ x ≤ 288) ∧ kind = 9) ∧ (tp = .iss .i8 ts ∨ (tp = .nsl ∧ ts = [])) ∧
  (gs.length ≤ 4 ∧ rs.length ≤ 16 ∧ ns.length ≤ 16 ∧ ms.length ≤ 16 ∧ fs.length ≤ 2 ∧ (∀ f ∈ fs, f.length ≤ 16) ∧ lg.length ≤ 4 ∧ ts.length ≤ 4 ∧ (∀ f ∈ ts, f.length ≤ 5) ∧ ps.length ≤ 20 ∧ ls.length ≤ 20 ∧ es.length ≤ 320)
@[reducible] def std0 (sd : Bool) (c a : Nat) (D : Dec) (Z : Nat → Buf) (recs : List (List C)) : List (Nat × B) :=
  dlu sd [] a (c, c) D Z (.un 2) (.un c) 30 recs 1 2 3 4 9 10 11 12 13 14 15 16 17 18 19 20 21 22 23 25 26 27 28
@[reducible] def std38 (sd : Bool) (c a : Nat) (D : Dec) (Z : Nat → Buf) (recs : List (List C)) : List (Nat × B) :=
  dlu sd [(1, 39), (2, 40), (3, 41), (4, 42), (9, 47), (10, 48), (11, 49), (12, 50), (13, 51), (14, 52), (15, 53), (16, 54), (17, 55), (18, 56), (19, 57), (20, 58), (21, 59), (22, 60), (23, 61), (25, 63), (26, 64), (27, 65), (28, 66)] a (c, c) D Z (.un 2) (.un c) 68 recs 39 40 41 42 47 48 49 50 51 52 53 54 55 56 57 58 59 60 61 63 64 65 66
def Post94 (sd : Bool) (Z0 : Nat → Buf) (recs : List (List C)) (v : V) (l' : List (Option B)) : Prop :=
  ∃ (D : Dec) (Z : Nat → Buf) (c a : Nat) (r : List C), D.Ok ∧ Fl Z Z0 ∧ Nn (Z 28).cap (Z 28).xs ∧ (c = 0 ∨ c = 2 ∨ c = 4) ∧ RecOk r ∧ v = .c (.kv .nilIface) ∧ l' = lay (std38 sd c a D Z (recs ++ [r])) 76
theorem LsfOk.take {d : Nat} {ys : List Int} (h : LsfOk d ys) (hl : d ≤ ys.length) : LsfOk (ys.take d).length (ys.take d) := by
  have hg : ∀ k, k < d → (ys.take d).getD k 0 = ys.getD k 0 := fun k hk => by
    rw [List.getD_eq_getElem?_getD, List.getD_eq_getElem?_getD, List.getElem?_take_of_lt hk]
  have e : (ys.take d).length = d := by simp; omega
  rw [e]
  refine ⟨fun k hk => ?_, fun k hk => ?_⟩
  · rw [hg k hk]; exact h.1 k hk
  · rw [hg k (by omega), hg _ hk]; exact h.2 k hk
theorem Lg.take {n : Nat} {xs : List Int} (h : Lg n xs) : ∀ x ∈ xs.take n, 16 ≤ x ∧ x ≤ 288 := fun x hx => by
  obtain ⟨i, hi⟩ := List.mem_iff_getElem?.1 hx
  have hl : i < n := by have := (List.getElem?_eq_some_iff.1 hi).1; simp at this; omega
  rw [List.getElem?_take_of_lt hl] at hi
  have := h i hl
  rwa [List.getD_eq_getElem?_getD, hi] at this
theorem recOk {red sid wei mo : Bool} {w0 w1 kind off : Int} {n : Nat} {gs : List Int} {i1 : Int} {d sb : Nat} {rs ns ms : List Int} {w : Int} {fs : List (List Int)} {mx : Int} {lg : List Int} {tp : C} (ts : List (List Int)) {ltp seed rl : Int} {ps ls es : List Int}
    (hko : (kind = 7 ∨ kind = 8 ∨ kind = 9) ∧ (off = 10 ∨ off = 11)) (hn : 0 < n ∧ n ≤ 4) (hG : Gn n gs) (hg : n ≤ gs.length) (hd : d = 10 ∨ d = 16) (hL : LsfOk d ns) (hnl : d ≤ ns.length) (hs : sb ≤ 20) (hms : ms.length ≤ d) (hfs : fs.length ≤ 2 ∧ ∀ f ∈ fs, f.length ≤ 16)
    (hlg : lg.length ≤ 4 ∧ ∀ x ∈ lg, (16 ≤ x ∧ x ≤ 288) ∧ kind = 9) (ht : (tp = .iss .i8 ts ∨ (tp = .nsl ∧ ts = [])) ∧ ts.length ≤ 4 ∧ ∀ f ∈ ts, f.length ≤ 5) :
    RecOk (recC red sid wei mo w0 w1 kind off (gs.take n) i1 (rs.take d) (ns.take d) ms w fs mx lg tp ltp seed rl (ps.take sb) (ls.take sb) (es.take (16 * sb))) :=
  ⟨red, sid, wei, mo, w0, w1, kind, off, gs.take n, i1, rs.take d, ns.take d, ms, w, fs, mx, lg, tp, ts, ltp, seed, rl, ps.take sb, ls.take sb, es.take (16 * sb), rfl, hko, ⟨by simp; omega, hG⟩, hL.take hnl, hlg.2, ht.1,
    by simp; omega, by simp; omega, by simp; omega, by omega, hfs.1, hfs.2, hlg.1, ht.2.1, ht.2.2, by simp; omega, by simp; omega, by simp; omega⟩
theorem copied {B : Buf} {nl : List Int} {d : Nat} (hB : B.cap = d) (hBo : B.cap ≤ B.xs.length) (hL : LsfOk d nl) (hd : d ≤ nl.length) :
    B.cap ≤ (List.take 0 B.xs ++ List.take B.cap (List.take d (List.drop 0 nl)) ++ List.drop (0 + min (List.take d (List.drop 0 nl)).length B.cap) B.xs).length ∧
    Nn B.cap (List.take 0 B.xs ++ List.take B.cap (List.take d (List.drop 0 nl)) ++ List.drop (0 + min (List.take d (List.drop 0 nl)).length B.cap) B.xs) := by
  subst hB
  refine ⟨by simp; omega, fun i hi => ?_⟩
  have e : (List.take 0 B.xs ++ List.take B.cap (List.take B.cap (List.drop 0 nl)) ++ List.drop (0 + min (List.take B.cap (List.drop 0 nl)).length B.cap) B.xs).getD i 0 = nl.getD i 0 := by
    rw [List.getD_eq_getElem?_getD, List.getD_eq_getElem?_getD, List.getElem?_append_left (by simp; omega), List.take_zero, List.nil_append, List.getElem?_take_of_lt hi, List.getElem?_take_of_lt hi, List.drop_zero]
  rw [e]
  have := hL.1 i hi
  omega
def cpB (B : Buf) (d : Nat) (nl : List Int) (h : B.cap ≤ (List.take 0 B.xs ++ List.take B.cap (List.take d (List.drop 0 nl)) ++ List.drop (0 + min (List.take d (List.drop 0 nl)).length B.cap) B.xs).length) : Buf :=
  ⟨B.cap, List.take 0 B.xs ++ List.take B.cap (List.take d (List.drop 0 nl)) ++ List.drop (0 + min (List.take d (List.drop 0 nl)).length B.cap) B.xs, B.ys, h, B.okb⟩
theorem rowsOk (m : Nat) {d : Nat} {x y : List Int} (hd : d ≤ 16) : (zif m [x.take d] [x.take d, y.take d]).length ≤ 2 ∧ ∀ f ∈ zif m [x.take d] [x.take d, y.take d], f.length ≤ 16 := by
  cases m <;> refine ⟨by simp [zif], fun f hf => ?_⟩ <;> simp [zif] at hf
  · subst hf; simp; omega
  · rcases hf with rfl | rfl <;> (simp; omega)
theorem tapsOk (n : Nat) {tp : List Int} : (tq n tp).length ≤ 4 ∧ ∀ f ∈ tq n tp, f.length ≤ 5 :=
  ⟨by simp only [tq, List.length_take, List.length_cons, List.length_nil]; omega, fun f hf => by
    have hf := List.mem_of_mem_take hf
    simp only [List.mem_cons, List.not_mem_nil, or_false] at hf
    rcases hf with rfl | rfl | rfl | rfl <;> (simp only [List.length_take]; omega)⟩
theorem fin94 (sd : Bool) (a c : Nat) (D : Dec) (Z : Nat → Buf) (recs : List (List C)) (r : List C) (kind : Int) (d : Nat) (hD : D.Ok) (Z0 : Nat → Buf) (hF : Fl Z Z0) (hc : c = 0 ∨ c = 2 ∨ c = 4) (hd : d = 10 ∨ d = 16) (h12 : d ≤ (Z 12).cap) (hL : LsfOk d (Z 12).xs) (hr : RecOk r) :
    WpN 38 193 (tl94 23) (mkE [(0, .c (.p 0 0)), (14, .c (.i .u8 kind)), (18, .c (.i .i64 d)), (20, .c (.sl 50 0 d (Z 12).cap))]) (mkS (lay (dlu sd [(1, 39), (2, 40), (3, 41), (4, 42), (9, 47), (10, 48), (11, 49), (12, 50), (13, 51), (14, 52), (15, 53), (16, 54), (17, 55), (18, 56), (19, 57), (20, 58), (21, 59), (22, 60), (23, 61), (25, 63), (26, 64), (27, 65), (28, 66)] a (c, c) D Z (.un 2) (.un c) 68 (recs ++ [r]) 39 40 41 42 47 48 49 50 51 52 53 54 55 56 57 58 59 60 61 63 64 65 66) 76)) 76 (EndR Proofs.Tryz.f94.results.toList 38 193 (Post94 sd Z0 recs)) := by
  have z12 := (Z 12).ok
  have z28 := (Z 28).ok
  refine WpN.seq (WpN.vc ?_)
  conv=>whnf
  refine WpN.weaken (s := mkSt [(0, .c (.p 0 0)), (14, .c (.i .u8 kind)), (18, .c (.i .i64 d)), (20, .c (.sl 50 0 d (Z 12).cap))] (lay (dlu sd [(1, 39), (2, 40), (3, 41), (4, 42), (9, 47), (10, 48), (11, 49), (12, 50), (13, 51), (14, 52), (15, 53), (16, 54), (17, 55), (18, 56), (19, 57), (20, 58), (21, 59), (22, 60), (23, 61), (25, 63), (26, 64), (27, 65), (28, 66)] a (c, c) { D with voi := kind == 9 } Z (.un 2) (.un c) 68 (recs ++ [r]) 39 40 41 42 47 48 49 50 51 52 53 54 55 56 57 58 59 60 61 63 64 65 66) 76) 193) (Rel.lay [] (by cases sd <;> kernel_rfl) (by repeat constructor) (by cases sd <;> repeat constructor)) rfl ?_
  refine WpN.cut (ι := Buf) (fun _=>[(0, .c (.p 0 0)), (14, .c (.i .u8 kind)), (18, .c (.i .i64 d)), (20, .c (.sl 50 0 d (Z 12).cap))]) (fun B => lay (dlu sd [(1, 39), (2, 40), (3, 41), (4, 42), (9, 47), (10, 48), (11, 49), (12, 50), (13, 51), (14, 52), (15, 53), (16, 54), (17, 55), (18, 56), (19, 57), (20, 58), (21, 59), (22, 60), (23, 61), (25, 63), (26, 64), (27, 65), (28, 76)] a (c, c) { D with voi := kind == 9 } (setZ Z 28 B) (.un 2) (.un c) 68 (recs ++ [r]) 39 40 41 42 47 48 49 50 51 52 53 54 55 56 57 58 59 60 61 63 64 65 76) 77) (fun B => B.cap = d) (WpN.vc ?_) ?_
  · conv=>whnf
    refine ⟨fun hc => ?_, fun hc => ?_⟩
    · conv=>whnf
      repeat (refine And.intro (by first|decide|omega|(simp [zif];omega)|(simp [zif];done)) ?_;conv=>whnf)
      exact ⟨⟨d, List.replicate d 0, List.replicate d false, by simp, by simp⟩, rfl, Rel.lay [] (by cases sd <;> kernel_rfl) (by repeat constructor) (by cases sd <;> repeat constructor)⟩
    · have h28 : (Z 28).cap = d := by
        have : ((Z 28).cap : Int) = d := by simpa using hc
        omega
      conv=>whnf
      exact ⟨Z 28, h28, Rel.lay [(76, 66)] (by cases sd <;> kernel_rfl) (by repeat constructor) (by cases sd <;> repeat constructor)⟩
  intro B hB
  have hBo := B.ok
  refine WpN.seq (WpN.vc ?_)
  conv=>whnf
  refine And.intro ⟨by show 0 + d ≤ (Z 12).xs.length; omega, by show 0 + min _ B.cap ≤ B.xs.length; omega⟩ ?_
  conv=>whnf
  have hcp := copied (B := B) hB hBo hL (by omega)
  refine WpN.weaken (s := mkSt [(0, .c (.p 0 0))] (lay (dlu sd [(1, 39), (2, 40), (3, 41), (4, 42), (9, 47), (10, 48), (11, 49), (12, 50), (13, 51), (14, 52), (15, 53), (16, 54), (17, 55), (18, 56), (19, 57), (20, 58), (21, 59), (22, 60), (23, 61), (25, 63), (26, 64), (27, 65), (28, 76)] a (c, c) { D with voi := kind == 9 } (setZ Z 28 (cpB B d (Z 12).xs hcp.1)) (.un 2) (.un c) 68 (recs ++ [r]) 39 40 41 42 47 48 49 50 51 52 53 54 55 56 57 58 59 60 61 63 64 65 76) 77) 193) (Rel.lay [] (by cases sd <;> kernel_rfl) (by repeat constructor) (by cases sd <;> repeat constructor)) rfl ?_
  refine WpN.seq (WpN.vc ?_)
  conv=>whnf
  refine WpN.vc ?_
  conv=>whnf
  exact ⟨[(66, 76)], .c (.kv .nilIface), lay (std38 sd c a { D with voi := kind == 9, hav := true } (setZ Z 28 (cpB B d (Z 12).xs hcp.1)) (recs ++ [r])) 76, rfl, by cases sd <;> kernel_rfl, stEq_lay (by cases sd <;> repeat constructor) 76 0, { D with voi := kind == 9, hav := true }, (setZ Z 28 (cpB B d (Z 12).xs hcp.1)), c, a, r, ⟨hD.rc, hD.gain⟩, hF, hcp.2, hc, hr, rfl, rfl⟩
theorem Fl.refl (Z : Nat → Buf) : Fl Z Z := ⟨rfl, rfl, rfl, rfl⟩
theorem Fl.trans {x y z : Nat → Buf} (h : Fl x y) (h' : Fl y z) : Fl x z := ⟨h.1.trans h'.1, h.2.1.trans h'.2.1, h.2.2.1.trans h'.2.2.1, h.2.2.2.trans h'.2.2.2⟩
structure Ch where
  D : Dec
  Z : Nat → Buf
  c : Nat
  a : Nat
structure Ch.Ok (x : Ch) : Prop where
  d : x.D.Ok
  n : Nn (x.Z 28).cap (x.Z 28).xs
  c : x.c = 0 ∨ x.c = 2 ∨ x.c = 4
def cellsP (p sn : C) (N : List (Nat × Nat)) (a : Nat) (q : Nat × Nat) (D : Dec) (Z : Nat → Buf) : List C := [
  .is .u8 D.data, .i .u64 D.b, .i .u64 D.r, .i .u64 D.n, .i .u32 D.s, .i .u32 D.h,
  p, .i .u8 D.bw, .b D.hav, .b D.voi, .i .i64 D.lag, .i .i32 D.gain, bC N Z 28, .i .i32 D.sw0, .i .i32 D.sw1, .b D.om, .b D.ws,
  bC N Z 1, bC N Z 2, bC N Z 3, bC N Z 4, bC N Z 5, bC N Z 6, bC N Z 7, bC N Z 8, bC N Z 9, bC N Z 10, bC N Z 11, bC N Z 12, bC N Z 13, bC N Z 14, bC N Z 15, bC N Z 16, bC N Z 17, bC N Z 18, bC N Z 19,
  bC N Z 20, bC N Z 21, bC N Z 22, bC N Z 23, .sl (al N 24) 0 a 2, bC N Z 25, .sl (al N 26) 0 q.1 q.2, bC N Z 27, sn,
  .b D.red, .b D.sid, .b D.wei, .b D.mo, .i .i32 D.w0, .i .i32 D.w1]
@[reducible] def twoK (se : C) (m e : Ch) (recs : List (List C)) (F : Nat → Buf) : List (Nat × B) :=
  [(0, .st (cellsP (.p 31 0) (.p 29 0) [] m.a (m.c, m.c) m.D m.Z)), (1, .ar false .u8 (m.Z 1).xs), (2, .ar false .u8 (m.Z 2).xs), (3, .ar false .i32 (m.Z 3).xs), (4, .ar false .i32 (m.Z 4).xs), (5, .bl false (F 5).ys), (6, .bl false (F 6).ys), (7, .bl false (F 7).ys), (8, .bl false (F 8).ys), (9, .ar false .i32 (m.Z 9).xs), (10, .ar false .i8 (m.Z 10).xs), (11, .ar false .i16 (m.Z 11).xs), (12, .ar false .i16 (m.Z 12).xs), (13, .ar false .u64 (m.Z 13).xs), (14, .ar false .i16 (m.Z 14).xs), (15, .ar false .i16 (m.Z 15).xs), (16, .ar false .i32 (m.Z 16).xs), (17, .ar false .i32 (m.Z 17).xs), (18, .ar false .i32 (m.Z 18).xs), (19, .ar false .i32 (m.Z 19).xs), (20, .ar false .i16 (m.Z 20).xs), (21, .ar false .i16 (m.Z 21).xs), (22, .ar false .i16 (m.Z 22).xs), (23, .ar false .i16 (m.Z 23).xs), (25, .ar false .i64 (m.Z 25).xs), (27, .ar false .i8 (m.Z 27).xs), (28, .ar false .i16 (m.Z 28).xs), (24, .un 2), (26, .un m.c), (31, .st (cellsP .np se [(1, 39), (2, 40), (3, 41), (4, 42), (5, 43), (6, 44), (7, 45), (8, 46), (9, 47), (10, 48), (11, 49), (12, 50), (13, 51), (14, 52), (15, 53), (16, 54), (17, 55), (18, 56), (19, 57), (20, 58), (21, 59), (22, 60), (23, 61), (24, 62), (25, 63), (26, 64), (27, 65), (28, 66)] e.a (e.c, e.c) e.D e.Z)), (39, .ar false .u8 (e.Z 1).xs), (40, .ar false .u8 (e.Z 2).xs), (41, .ar false .i32 (e.Z 3).xs), (42, .ar false .i32 (e.Z 4).xs), (47, .ar false .i32 (e.Z 9).xs), (48, .ar false .i8 (e.Z 10).xs), (49, .ar false .i16 (e.Z 11).xs), (50, .ar false .i16 (e.Z 12).xs), (51, .ar false .u64 (e.Z 13).xs), (52, .ar false .i16 (e.Z 14).xs), (53, .ar false .i16 (e.Z 15).xs), (54, .ar false .i32 (e.Z 16).xs), (55, .ar false .i32 (e.Z 17).xs), (56, .ar false .i32 (e.Z 18).xs), (57, .ar false .i32 (e.Z 19).xs), (58, .ar false .i16 (e.Z 20).xs), (59, .ar false .i16 (e.Z 21).xs), (60, .ar false .i16 (e.Z 22).xs), (61, .ar false .i16 (e.Z 23).xs), (63, .ar false .i64 (e.Z 25).xs), (65, .ar false .i8 (e.Z 27).xs), (66, .ar false .i16 (e.Z 28).xs), (62, .un 2), (64, .un e.c), (29, .st [.osl 30 recs.length]), (30, .rs true 24 recs)]
@[reducible] def twoF (se : C) (m e : Ch) (recs : List (List C)) (F : Nat → Buf) : List (Nat × B) :=
  [(0, .st (cellsP (.p 107 0) (.p 29 0) [(1, 77), (2, 78), (3, 79), (4, 80), (5, 81), (6, 82), (7, 83), (8, 84), (9, 85), (10, 86), (11, 87), (12, 88), (13, 89), (14, 90), (15, 91), (16, 92), (17, 93), (18, 94), (19, 95), (20, 96), (21, 97), (22, 98), (23, 99), (25, 101), (26, 102), (27, 103), (28, 104)] m.a (m.c, m.c) m.D m.Z)), (77, .ar false .u8 (m.Z 1).xs), (78, .ar false .u8 (m.Z 2).xs), (79, .ar false .i32 (m.Z 3).xs), (80, .ar false .i32 (m.Z 4).xs), (81, .bl false (F 5).ys), (82, .bl false (F 6).ys), (83, .bl false (F 7).ys), (84, .bl false (F 8).ys), (85, .ar false .i32 (m.Z 9).xs), (86, .ar false .i8 (m.Z 10).xs), (87, .ar false .i16 (m.Z 11).xs), (88, .ar false .i16 (m.Z 12).xs), (89, .ar false .u64 (m.Z 13).xs), (90, .ar false .i16 (m.Z 14).xs), (91, .ar false .i16 (m.Z 15).xs), (92, .ar false .i32 (m.Z 16).xs), (93, .ar false .i32 (m.Z 17).xs), (94, .ar false .i32 (m.Z 18).xs), (95, .ar false .i32 (m.Z 19).xs), (96, .ar false .i16 (m.Z 20).xs), (97, .ar false .i16 (m.Z 21).xs), (98, .ar false .i16 (m.Z 22).xs), (99, .ar false .i16 (m.Z 23).xs), (101, .ar false .i64 (m.Z 25).xs), (103, .ar false .i8 (m.Z 27).xs), (104, .ar false .i16 (m.Z 28).xs), (24, .un 2), (102, .un m.c), (107, .st (cellsP .np se [(1, 115), (2, 116), (3, 117), (4, 118), (5, 119), (6, 120), (7, 121), (8, 122), (9, 123), (10, 124), (11, 125), (12, 126), (13, 127), (14, 128), (15, 129), (16, 130), (17, 131), (18, 132), (19, 133), (20, 134), (21, 135), (22, 136), (23, 137), (24, 138), (25, 139), (26, 140), (27, 141), (28, 142)] e.a (e.c, e.c) e.D e.Z)), (115, .ar false .u8 (e.Z 1).xs), (116, .ar false .u8 (e.Z 2).xs), (117, .ar false .i32 (e.Z 3).xs), (118, .ar false .i32 (e.Z 4).xs), (123, .ar false .i32 (e.Z 9).xs), (124, .ar false .i8 (e.Z 10).xs), (125, .ar false .i16 (e.Z 11).xs), (126, .ar false .i16 (e.Z 12).xs), (127, .ar false .u64 (e.Z 13).xs), (128, .ar false .i16 (e.Z 14).xs), (129, .ar false .i16 (e.Z 15).xs), (130, .ar false .i32 (e.Z 16).xs), (131, .ar false .i32 (e.Z 17).xs), (132, .ar false .i32 (e.Z 18).xs), (133, .ar false .i32 (e.Z 19).xs), (134, .ar false .i16 (e.Z 20).xs), (135, .ar false .i16 (e.Z 21).xs), (136, .ar false .i16 (e.Z 22).xs), (137, .ar false .i16 (e.Z 23).xs), (139, .ar false .i64 (e.Z 25).xs), (141, .ar false .i8 (e.Z 27).xs), (142, .ar false .i16 (e.Z 28).xs), (138, .un 2), (140, .un e.c), (29, .st [.osl 106 recs.length]), (106, .rs true 24 recs)]
@[reducible] def twoL (se : C) (m e : Ch) (recs : List (List C)) : List (Nat × B) := twoK se m e recs m.Z
@[reducible] def twoH (se : C) (m e : Ch) (recs : List (List C)) : List (Nat × B) := twoF se m e recs m.Z
theorem twoF_eq {se : C} {m e : Ch} {recs : List (List C)} {F : Nat → Buf} (h : Fl m.Z F) : twoF se m e recs F = twoH se m e recs := by
  unfold twoH twoF
  rw [h.1, h.2.1, h.2.2.1, h.2.2.2]
theorem f104 (ys : List Bool) (n cap : Nat) (x : Bool) (hn : n ≤ ys.length) (hb : n < 1000) :
    FnS 104 [.c (.sl 0 0 n cap), .c (.b x)] [some (.bl false ys)] fun v l' => ∃ k : Int, v = .c (.i .i64 k) ∧ l' = [some (.bl false ys)] := by
  refine FnS.wpR (b := 1) Proofs.Tryz.f104 rfl rfl rfl rfl rfl rfl ?_
  refine WpN.seq (WpN.vc ?_)
  conv=>whnf
  refine WpN.seq (WpN.vc ?_)
  conv=>whnf
  refine WpS.loop (ι := Nat) (fun j => mkSt [(0, .c (.sl 0 0 n cap)), (1, .c (.b x)), (7, .c (.i .i64 n)), (8, .c (.i .i64 j))] [some (.bl false ys)] 19) (fun j => j ≤ n) (fun j => n - j) 0 (Nat.zero_le _) (Ren.relOf [] (by kernel_rfl) (by repeat constructor) (by repeat constructor)) ?_
  intro j hj
  refine VC_ok ?_
  conv=>whnf
  refine ⟨fun hc => ?_, fun hc => ?_⟩
  · have hc : j < n := by have := of_decide_eq_true hc; omega
    conv=>whnf
    refine And.intro (by omega) ?_
    conv=>whnf
    refine And.intro (by omega) ?_
    conv=>whnf
    refine ⟨fun _=>?_, fun _=>?_⟩
    · conv=>whnf
      refine ⟨rfl, ?_⟩
      conv=>whnf
      exact ⟨[], .c (.i .i64 j), [some (.bl false ys)], rfl, by kernel_rfl, ⟨rfl, trivial⟩, _, rfl, rfl⟩
    · conv=>whnf
      have e : IntKind.i64.wrap ((j : Int) + 1) = ((j + 1 : Nat) : Int) := by rw [IntWalk.i64_in _ (by omega)]; omega
      rw [e]
      exact ⟨j + 1, by omega, by omega, Ren.relOf [] (by kernel_rfl) (by repeat constructor) (by repeat constructor)⟩
  · conv=>whnf
    refine ⟨rfl, ?_⟩
    refine WpN.vc ?_
    conv=>whnf
    exact ⟨[], .c (.i .i64 (-1)), [some (.bl false ys)], rfl, by kernel_rfl, ⟨rfl, trivial⟩, _, rfl, rfl⟩
theorem f92 (ys : List Bool) (n cap : Nat) (x : Bool) (hn : n ≤ ys.length) (hb : n < 1000) :
    FnS 92 [.c (.sl 0 0 n cap), .c (.b x)] [some (.bl false ys)] fun v l' => ∃ k : Bool, v = .c (.b k) ∧ l' = [some (.bl false ys)] := by
  refine FnS.wpR (b := 1) Proofs.Tryz.f92 rfl rfl rfl rfl rfl rfl ?_
  refine WpN.vc ?_
  conv=>whnf
  refine CallQ.use [0] (f104 ys n cap x hn hb) rfl rfl ⟨rfl, trivial⟩ ?_
  rintro v l' ⟨k, rfl, rfl⟩
  conv=>whnf
  exact ⟨[], .c (.b _), [some (.bl false ys)], rfl, by kernel_rfl, ⟨rfl, trivial⟩, _, rfl, rfl⟩
theorem add1 {j : Nat} (h : j < 1000000) : IntKind.i64.wrap ((j : Int) + 1) = ((j + 1 : Nat) : Int) := by rw [IntWalk.i64_in _ (by omega)]; omega
theorem f89_7 (a : Nat) (q : Nat × Nat) (D : Dec) (Z : Nat → Buf) (n cap : Nat) (row : List Int) (ys : List Bool) (hD : D.Ok) (hn : n ≤ 3) (hl : n ≤ ys.length) (ht : icdfOk row = true) :
    FnS 89 [.c (.p 0 0), .c (.sl 7 0 n cap), .c (.is .u64 row)] (lay [(0, .st (cellsP (.p 31 0) (.p 29 0) [] a q D Z)), (7, .bl false ys)] 38) fun v l' => ∃ (D' : Dec) (ys' : List Bool), v = .tu [] ∧ l' = lay [(0, .st (cellsP (.p 31 0) (.p 29 0) [] a q D' Z)), (7, .bl false ys')] 38 ∧ D'.Ok ∧ ys'.length = ys.length := by
  refine FnS.wpR (b := 38) Proofs.Tryz.f89 rfl rfl rfl rfl rfl rfl ?_
  refine WpN.seq (WpN.vc ?_)
  conv=>whnf
  refine CallQ.use0 (f56r _ _ _ _ _ _ _ _ hD.rc ht) (by rfl) ?_
  rintro v b' ⟨t, b, nn, s', h, rfl, _, hr, rfl⟩
  conv=>whnf
  have hD1 : Dec.Ok { D with b := b, n := nn, s := s', h := h } := ⟨hr, hD.gain⟩
  refine WpN.vc ?_
  conv=>whnf
  refine WpS.loop (ι := Nat × List Bool) (fun x => mkSt [(1, .c (.sl 7 0 n cap)), (6, .c (.i .u32 t)), (14, .c (.i .i64 n)), (15, .c (.i .i64 x.1))] (lay [(0, .st (cellsP (.p 31 0) (.p 29 0) [] a q { D with b := b, n := nn, s := s', h := h } Z)), (7, .bl false x.2)] 38) 27)
    (fun x => x.1 ≤ n ∧ x.2.length = ys.length) (fun x => n - x.1) (0, ys) ⟨Nat.zero_le _, rfl⟩ (Rel.lay [] (by kernel_rfl) (by repeat constructor) (by repeat constructor)) ?_
  rintro ⟨j, zs⟩ ⟨hj, hz⟩
  dsimp only at hj hz ⊢
  refine VC_ok ?_
  conv=>whnf
  refine ⟨fun hc => ?_, fun hc => ?_⟩
  · have hc : j < n := by have := of_decide_eq_true hc; omega
    conv=>whnf
    repeat (refine And.intro (by first | omega | exact Int.natCast_nonneg _) ?_; conv=>whnf)
    rw [add1 (by omega)]
    refine ⟨(j + 1, _), ⟨by dsimp only; omega, ?_⟩, by dsimp only; omega, Rel.lay [] (by kernel_rfl) (by repeat constructor) (by repeat constructor)⟩
    dsimp only
    rw [List.length_set]; exact hz
  · conv=>whnf
    refine ⟨rfl, ?_⟩
    conv=>whnf
    exact ⟨[], .tu [], lay [(0, .st (cellsP (.p 31 0) (.p 29 0) [] a q { D with b := b, n := nn, s := s', h := h } Z)), (7, .bl false zs)] 38, rfl, by kernel_rfl, stEq_lay (by repeat constructor) 38 0, _, zs, rfl, rfl, hD1, hz⟩
theorem f89_8 (a : Nat) (q : Nat × Nat) (D : Dec) (Z : Nat → Buf) (n cap : Nat) (row : List Int) (ys : List Bool) (hD : D.Ok) (hn : n ≤ 3) (hl : n ≤ ys.length) (ht : icdfOk row = true) :
    FnS 89 [.c (.p 0 0), .c (.sl 8 0 n cap), .c (.is .u64 row)] (lay [(0, .st (cellsP (.p 31 0) (.p 29 0) [] a q D Z)), (8, .bl false ys)] 38) fun v l' => ∃ (D' : Dec) (ys' : List Bool), v = .tu [] ∧ l' = lay [(0, .st (cellsP (.p 31 0) (.p 29 0) [] a q D' Z)), (8, .bl false ys')] 38 ∧ D'.Ok ∧ ys'.length = ys.length := by
  refine FnS.wpR (b := 38) Proofs.Tryz.f89 rfl rfl rfl rfl rfl rfl ?_
  refine WpN.seq (WpN.vc ?_)
  conv=>whnf
  refine CallQ.use0 (f56r _ _ _ _ _ _ _ _ hD.rc ht) (by rfl) ?_
  rintro v b' ⟨t, b, nn, s', h, rfl, _, hr, rfl⟩
  conv=>whnf
  have hD1 : Dec.Ok { D with b := b, n := nn, s := s', h := h } := ⟨hr, hD.gain⟩
  refine WpN.vc ?_
  conv=>whnf
  refine WpS.loop (ι := Nat × List Bool) (fun x => mkSt [(1, .c (.sl 8 0 n cap)), (6, .c (.i .u32 t)), (14, .c (.i .i64 n)), (15, .c (.i .i64 x.1))] (lay [(0, .st (cellsP (.p 31 0) (.p 29 0) [] a q { D with b := b, n := nn, s := s', h := h } Z)), (8, .bl false x.2)] 38) 27)
    (fun x => x.1 ≤ n ∧ x.2.length = ys.length) (fun x => n - x.1) (0, ys) ⟨Nat.zero_le _, rfl⟩ (Rel.lay [] (by kernel_rfl) (by repeat constructor) (by repeat constructor)) ?_
  rintro ⟨j, zs⟩ ⟨hj, hz⟩
  dsimp only at hj hz ⊢
  refine VC_ok ?_
  conv=>whnf
  refine ⟨fun hc => ?_, fun hc => ?_⟩
  · have hc : j < n := by have := of_decide_eq_true hc; omega
    conv=>whnf
    repeat (refine And.intro (by first | omega | exact Int.natCast_nonneg _) ?_; conv=>whnf)
    rw [add1 (by omega)]
    refine ⟨(j + 1, _), ⟨by dsimp only; omega, ?_⟩, by dsimp only; omega, Rel.lay [] (by kernel_rfl) (by repeat constructor) (by repeat constructor)⟩
    dsimp only
    rw [List.length_set]; exact hz
  · conv=>whnf
    refine ⟨rfl, ?_⟩
    conv=>whnf
    exact ⟨[], .tu [], lay [(0, .st (cellsP (.p 31 0) (.p 29 0) [] a q { D with b := b, n := nn, s := s', h := h } Z)), (8, .bl false zs)] 38, rfl, by kernel_rfl, stEq_lay (by repeat constructor) 38 0, _, zs, rfl, rfl, hD1, hz⟩
theorem f67_5 (a : Nat) (q : Nat × Nat) (D : Dec) (Z : Nat → Buf) (n : Nat) (hD : D.Ok) (hn : n ≤ 3) :
    FnS 67 [.c (.p 0 0), .c (.p 0 21), .c (.i .i64 n)] (lay [(0, .st (cellsP (.p 31 0) (.p 29 0) [] a q D Z)), (5, .bl false (Z 5).ys)] 38) fun v l' => ∃ (D' : Dec) (Bf : Buf) (x : Bool), v = .tu [.c (.sl 38 0 n Bf.cap), .c (.b x)] ∧
      l' = lay [(0, .st (cellsP (.p 31 0) (.p 29 0) [(5, 38)] a q D' (setZ Z 5 Bf))), (38, .bl false Bf.ys)] 39 ∧ D'.Ok ∧ n ≤ Bf.cap := by
  refine FnS.wpR (b := 38) Proofs.Tryz.f67 rfl rfl rfl rfl rfl rfl ?_
  refine WpN.seq (WpN.vc ?_)
  conv=>whnf
  refine WpN.seq (WpN.vc ?_)
  conv=>whnf
  repeat' first|(refine Lt (by decide) ?_;conv=>whnf)|(refine Lf (by decide) ?_;conv=>whnf)|fail
  refine rz88 (m := 37) (j := 5) (n := n) _ rfl rfl (fun c => rfl) (by decide) rfl (Z 5).okb (by decide) (by omega) fun Bf hB _ => ?_
  rw [Int.toNat_natCast] at hB
  conv=>whnf
  refine WpN.seq (WpN.vc ?_)
  conv=>whnf
  refine WpS.loop (ι := Nat × Dec × List Bool) (fun x => mkSt [(0, .c (.p 0 0)), (6, .c (.sl 38 0 n Bf.cap)), (16, .c (.i .i64 n)), (17, .c (.i .i64 x.1))] (lay [(0, .st (cellsP (.p 31 0) (.p 29 0) [(5, 38)] a q x.2.1 (setZ Z 5 Bf))), (38, .bl false x.2.2)] 39) 34)
    (fun x => x.1 ≤ n ∧ x.2.1.Ok ∧ x.2.2.length = Bf.ys.length) (fun x => n - x.1) (0, D, Bf.ys) ⟨Nat.zero_le _, hD, rfl⟩ (Rel.lay [] (by kernel_rfl) (by repeat constructor) (by repeat constructor)) ?_
  have hBo := Bf.okb
  clear hD
  rintro ⟨i, D, zs⟩ ⟨hj, hD, hz⟩
  dsimp only at hj hD hz ⊢
  refine VC_ok ?_
  conv=>whnf
  refine ⟨fun hc => ?_, fun hc => ?_⟩
  · have hc : i < n := by have := of_decide_eq_true hc; omega
    conv=>whnf
    refine CallQ.use0 (f55 _ _ _ _ _ _ _ hD.rc) (by rfl) ?_
    rintro v b' ⟨x, b, nn, s', h, rfl, _, hr, rfl⟩
    conv=>whnf
    repeat (refine And.intro (by first | omega | exact Int.natCast_nonneg _) ?_; conv=>whnf)
    rw [add1 (by omega)]
    refine ⟨(i + 1, { D with b := b, n := nn, s := s', h := h }, _), ⟨by dsimp only; omega, ⟨hr, hD.gain⟩, ?_⟩, by dsimp only; omega, Rel.lay [] (by kernel_rfl) (by repeat constructor) (by repeat constructor)⟩
    dsimp only
    rw [List.length_set]; exact hz
  · conv=>whnf
    refine ⟨rfl, ?_⟩
    refine WpN.vc ?_
    conv=>whnf
    refine CallQ.use0 (f55 _ _ _ _ _ _ _ hD.rc) (by rfl) ?_
    rintro v b' ⟨x, b, nn, s', h, rfl, _, hr, rfl⟩
    conv=>whnf
    refine ⟨[], .tu [.c (.sl 38 0 n Bf.cap), .c (.b _)], lay [(0, .st (cellsP (.p 31 0) (.p 29 0) [(5, 38)] a q { D with b := b, n := nn, s := s', h := h } (setZ Z 5 ⟨Bf.cap, Bf.xs, zs, Bf.ok, by omega⟩))), (38, .bl false zs)] 39, rfl, by kernel_rfl, stEq_lay (by repeat constructor) 39 0, ?_⟩
    exact ⟨{ D with b := b, n := nn, s := s', h := h }, ⟨Bf.cap, Bf.xs, zs, Bf.ok, by omega⟩, _, rfl, rfl, ⟨hr, hD.gain⟩, hB⟩
theorem f67_6 (a : Nat) (q : Nat × Nat) (D : Dec) (Z : Nat → Buf) (n : Nat) (hD : D.Ok) (hn : n ≤ 3) :
    FnS 67 [.c (.p 0 0), .c (.p 0 22), .c (.i .i64 n)] (lay [(0, .st (cellsP (.p 31 0) (.p 29 0) [] a q D Z)), (6, .bl false (Z 6).ys)] 38) fun v l' => ∃ (D' : Dec) (Bf : Buf) (x : Bool), v = .tu [.c (.sl 38 0 n Bf.cap), .c (.b x)] ∧
      l' = lay [(0, .st (cellsP (.p 31 0) (.p 29 0) [(6, 38)] a q D' (setZ Z 6 Bf))), (38, .bl false Bf.ys)] 39 ∧ D'.Ok ∧ n ≤ Bf.cap := by
  refine FnS.wpR (b := 38) Proofs.Tryz.f67 rfl rfl rfl rfl rfl rfl ?_
  refine WpN.seq (WpN.vc ?_)
  conv=>whnf
  refine WpN.seq (WpN.vc ?_)
  conv=>whnf
  repeat' first|(refine Lt (by decide) ?_;conv=>whnf)|(refine Lf (by decide) ?_;conv=>whnf)|fail
  refine rz88 (m := 37) (j := 6) (n := n) _ rfl rfl (fun c => rfl) (by decide) rfl (Z 6).okb (by decide) (by omega) fun Bf hB _ => ?_
  rw [Int.toNat_natCast] at hB
  conv=>whnf
  refine WpN.seq (WpN.vc ?_)
  conv=>whnf
  refine WpS.loop (ι := Nat × Dec × List Bool) (fun x => mkSt [(0, .c (.p 0 0)), (6, .c (.sl 38 0 n Bf.cap)), (16, .c (.i .i64 n)), (17, .c (.i .i64 x.1))] (lay [(0, .st (cellsP (.p 31 0) (.p 29 0) [(6, 38)] a q x.2.1 (setZ Z 6 Bf))), (38, .bl false x.2.2)] 39) 34)
    (fun x => x.1 ≤ n ∧ x.2.1.Ok ∧ x.2.2.length = Bf.ys.length) (fun x => n - x.1) (0, D, Bf.ys) ⟨Nat.zero_le _, hD, rfl⟩ (Rel.lay [] (by kernel_rfl) (by repeat constructor) (by repeat constructor)) ?_
  have hBo := Bf.okb
  clear hD
  rintro ⟨i, D, zs⟩ ⟨hj, hD, hz⟩
  dsimp only at hj hD hz ⊢
  refine VC_ok ?_
  conv=>whnf
  refine ⟨fun hc => ?_, fun hc => ?_⟩
  · have hc : i < n := by have := of_decide_eq_true hc; omega
    conv=>whnf
    refine CallQ.use0 (f55 _ _ _ _ _ _ _ hD.rc) (by rfl) ?_
    rintro v b' ⟨x, b, nn, s', h, rfl, _, hr, rfl⟩
    conv=>whnf
    repeat (refine And.intro (by first | omega | exact Int.natCast_nonneg _) ?_; conv=>whnf)
    rw [add1 (by omega)]
    refine ⟨(i + 1, { D with b := b, n := nn, s := s', h := h }, _), ⟨by dsimp only; omega, ⟨hr, hD.gain⟩, ?_⟩, by dsimp only; omega, Rel.lay [] (by kernel_rfl) (by repeat constructor) (by repeat constructor)⟩
    dsimp only
    rw [List.length_set]; exact hz
  · conv=>whnf
    refine ⟨rfl, ?_⟩
    refine WpN.vc ?_
    conv=>whnf
    refine CallQ.use0 (f55 _ _ _ _ _ _ _ hD.rc) (by rfl) ?_
    rintro v b' ⟨x, b, nn, s', h, rfl, _, hr, rfl⟩
    conv=>whnf
    refine ⟨[], .tu [.c (.sl 38 0 n Bf.cap), .c (.b _)], lay [(0, .st (cellsP (.p 31 0) (.p 29 0) [(6, 38)] a q { D with b := b, n := nn, s := s', h := h } (setZ Z 6 ⟨Bf.cap, Bf.xs, zs, Bf.ok, by omega⟩))), (38, .bl false zs)] 39, rfl, by kernel_rfl, stEq_lay (by repeat constructor) 39 0, ?_⟩
    exact ⟨{ D with b := b, n := nn, s := s', h := h }, ⟨Bf.cap, Bf.xs, zs, Bf.ok, by omega⟩, _, rfl, rfl, ⟨hr, hD.gain⟩, hB⟩
theorem f68_7 (a : Nat) (q : Nat × Nat) (D : Dec) (Z : Nat → Buf) (n : Nat) (x : Bool) (hD : D.Ok) (hn : n = 1 ∨ n = 2 ∨ n = 3) :
    FnS 68 [.c (.p 0 0), .c (.p 0 23), .c (.i .i64 n), .c (.b x)] (lay [(0, .st (cellsP (.p 31 0) (.p 29 0) [] a q D Z)), (7, .bl false (Z 7).ys)] 38) fun v l' => ∃ (D' : Dec) (Bf : Buf), v = .c (.sl 38 0 n Bf.cap) ∧
      l' = lay [(0, .st (cellsP (.p 31 0) (.p 29 0) [(7, 38)] a q D' (setZ Z 7 Bf))), (38, .bl false Bf.ys)] 39 ∧ D'.Ok ∧ n ≤ Bf.cap := by
  have hn3 : n ≤ 3 := by omega
  refine FnS.wpR (b := 38) Proofs.Tryz.f68 rfl rfl rfl rfl rfl rfl ?_
  refine WpN.seq (WpN.vc ?_)
  conv=>whnf
  refine WpN.seq (WpN.vc ?_)
  conv=>whnf
  refine WpN.seq (WpN.vc ?_)
  conv=>whnf
  repeat' first|(refine Lt (by decide) ?_;conv=>whnf)|(refine Lf (by decide) ?_;conv=>whnf)|fail
  refine rz88 (m := 37) (j := 7) (n := n) _ rfl rfl (fun c => rfl) (by decide) rfl (Z 7).okb (by decide) (by omega) fun Bf hB _ => ?_
  rw [Int.toNat_natCast] at hB
  have hBo := Bf.okb
  conv=>whnf
  refine WpN.vc ?_
  conv=>whnf
  cases x
  · conv=>whnf
    repeat' first|(refine Lt (by decide) ?_;conv=>whnf)|(refine Lf (by decide) ?_;conv=>whnf)|fail
    exact ⟨[], .c (.sl 38 0 n Bf.cap), lay [(0, .st (cellsP (.p 31 0) (.p 29 0) [(7, 38)] a q D (setZ Z 7 Bf))), (38, .bl false Bf.ys)] 39, rfl, by kernel_rfl, stEq_lay (by repeat constructor) 39 0, D, Bf, rfl, rfl, hD, hB⟩
  conv=>whnf
  repeat' first|(refine Lt (by decide) ?_;conv=>whnf)|(refine Lf (by decide) ?_;conv=>whnf)|fail
  rcases hn with rfl | rfl | rfl
  · conv=>whnf
    repeat' first|(refine Lt (by decide) ?_;conv=>whnf)|(refine Lf (by decide) ?_;conv=>whnf)|fail
    repeat (refine And.intro (by first | decide | omega) ?_; conv=>whnf)
    refine ⟨[], .c (.sl 38 0 1 Bf.cap), lay [(0, .st (cellsP (.p 31 0) (.p 29 0) [(7, 38)] a q D (setZ Z 7 ⟨Bf.cap, Bf.xs, Bf.ys.set 0 true, Bf.ok, by rw [List.length_set]; omega⟩))), (38, .bl false (Bf.ys.set 0 true))] 39, rfl, by kernel_rfl, stEq_lay (by repeat constructor) 39 0, ?_⟩
    exact ⟨D, ⟨Bf.cap, Bf.xs, Bf.ys.set 0 true, Bf.ok, by rw [List.length_set]; omega⟩, rfl, rfl, hD, hB⟩
  · conv=>whnf
    repeat' first|(refine Lt (by decide) ?_;conv=>whnf)|(refine Lf (by decide) ?_;conv=>whnf)|fail
    refine CallQ.use [] t90 rfl rfl trivial ?_
    rintro v l' ⟨rfl, rfl⟩
    conv=>whnf
    refine CallQ.useF [0, 1, 2, 3, 4, 5, 6, 38, 8, 9, 10, 11, 12, 13, 14, 15, 16, 17, 18, 19, 20, 21, 22, 23, 24, 25, 26, 27, 28, 29, 30, 31, 32, 33, 34, 35, 36, 37] (f89_7 a q D (setZ Z 7 Bf) 2 Bf.cap T90 Bf.ys hD (by decide) (by omega) (by decide +kernel)) rfl (by kernel_rfl) (stEq_lay (by repeat constructor) 38 0) ?_
    rintro v l' ⟨D1, zs, rfl, rfl, hD1, hz⟩
    conv=>whnf
    refine ⟨[], .c (.sl 38 0 2 Bf.cap), lay [(0, .st (cellsP (.p 31 0) (.p 29 0) [(7, 38)] a q D1 (setZ Z 7 ⟨Bf.cap, Bf.xs, zs, Bf.ok, by omega⟩))), (38, .bl false zs)] 39, rfl, by kernel_rfl, stEq_lay (by repeat constructor) 39 0, ?_⟩
    exact ⟨D1, ⟨Bf.cap, Bf.xs, zs, Bf.ok, by omega⟩, rfl, rfl, hD1, hB⟩
  · conv=>whnf
    repeat' first|(refine Lt (by decide) ?_;conv=>whnf)|(refine Lf (by decide) ?_;conv=>whnf)|fail
    refine CallQ.use [] t91 rfl rfl trivial ?_
    rintro v l' ⟨rfl, rfl⟩
    conv=>whnf
    refine CallQ.useF [0, 1, 2, 3, 4, 5, 6, 38, 8, 9, 10, 11, 12, 13, 14, 15, 16, 17, 18, 19, 20, 21, 22, 23, 24, 25, 26, 27, 28, 29, 30, 31, 32, 33, 34, 35, 36, 37] (f89_7 a q D (setZ Z 7 Bf) 3 Bf.cap T91 Bf.ys hD (by decide) (by omega) (by decide +kernel)) rfl (by kernel_rfl) (stEq_lay (by repeat constructor) 38 0) ?_
    rintro v l' ⟨D1, zs, rfl, rfl, hD1, hz⟩
    conv=>whnf
    refine ⟨[], .c (.sl 38 0 3 Bf.cap), lay [(0, .st (cellsP (.p 31 0) (.p 29 0) [(7, 38)] a q D1 (setZ Z 7 ⟨Bf.cap, Bf.xs, zs, Bf.ok, by omega⟩))), (38, .bl false zs)] 39, rfl, by kernel_rfl, stEq_lay (by repeat constructor) 39 0, ?_⟩
    exact ⟨D1, ⟨Bf.cap, Bf.xs, zs, Bf.ok, by omega⟩, rfl, rfl, hD1, hB⟩
theorem f68_8 (a : Nat) (q : Nat × Nat) (D : Dec) (Z : Nat → Buf) (n : Nat) (x : Bool) (hD : D.Ok) (hn : n = 1 ∨ n = 2 ∨ n = 3) :
    FnS 68 [.c (.p 0 0), .c (.p 0 24), .c (.i .i64 n), .c (.b x)] (lay [(0, .st (cellsP (.p 31 0) (.p 29 0) [] a q D Z)), (8, .bl false (Z 8).ys)] 38) fun v l' => ∃ (D' : Dec) (Bf : Buf), v = .c (.sl 38 0 n Bf.cap) ∧
      l' = lay [(0, .st (cellsP (.p 31 0) (.p 29 0) [(8, 38)] a q D' (setZ Z 8 Bf))), (38, .bl false Bf.ys)] 39 ∧ D'.Ok ∧ n ≤ Bf.cap := by
  have hn3 : n ≤ 3 := by omega
  refine FnS.wpR (b := 38) Proofs.Tryz.f68 rfl rfl rfl rfl rfl rfl ?_
  refine WpN.seq (WpN.vc ?_)
  conv=>whnf
  refine WpN.seq (WpN.vc ?_)
  conv=>whnf
  refine WpN.seq (WpN.vc ?_)
  conv=>whnf
  repeat' first|(refine Lt (by decide) ?_;conv=>whnf)|(refine Lf (by decide) ?_;conv=>whnf)|fail
  refine rz88 (m := 37) (j := 8) (n := n) _ rfl rfl (fun c => rfl) (by decide) rfl (Z 8).okb (by decide) (by omega) fun Bf hB _ => ?_
  rw [Int.toNat_natCast] at hB
  have hBo := Bf.okb
  conv=>whnf
  refine WpN.vc ?_
  conv=>whnf
  cases x
  · conv=>whnf
    repeat' first|(refine Lt (by decide) ?_;conv=>whnf)|(refine Lf (by decide) ?_;conv=>whnf)|fail
    exact ⟨[], .c (.sl 38 0 n Bf.cap), lay [(0, .st (cellsP (.p 31 0) (.p 29 0) [(8, 38)] a q D (setZ Z 8 Bf))), (38, .bl false Bf.ys)] 39, rfl, by kernel_rfl, stEq_lay (by repeat constructor) 39 0, D, Bf, rfl, rfl, hD, hB⟩
  conv=>whnf
  repeat' first|(refine Lt (by decide) ?_;conv=>whnf)|(refine Lf (by decide) ?_;conv=>whnf)|fail
  rcases hn with rfl | rfl | rfl
  · conv=>whnf
    repeat' first|(refine Lt (by decide) ?_;conv=>whnf)|(refine Lf (by decide) ?_;conv=>whnf)|fail
    repeat (refine And.intro (by first | decide | omega) ?_; conv=>whnf)
    refine ⟨[], .c (.sl 38 0 1 Bf.cap), lay [(0, .st (cellsP (.p 31 0) (.p 29 0) [(8, 38)] a q D (setZ Z 8 ⟨Bf.cap, Bf.xs, Bf.ys.set 0 true, Bf.ok, by rw [List.length_set]; omega⟩))), (38, .bl false (Bf.ys.set 0 true))] 39, rfl, by kernel_rfl, stEq_lay (by repeat constructor) 39 0, ?_⟩
    exact ⟨D, ⟨Bf.cap, Bf.xs, Bf.ys.set 0 true, Bf.ok, by rw [List.length_set]; omega⟩, rfl, rfl, hD, hB⟩
  · conv=>whnf
    repeat' first|(refine Lt (by decide) ?_;conv=>whnf)|(refine Lf (by decide) ?_;conv=>whnf)|fail
    refine CallQ.use [] t90 rfl rfl trivial ?_
    rintro v l' ⟨rfl, rfl⟩
    conv=>whnf
    refine CallQ.useF [0, 1, 2, 3, 4, 5, 6, 7, 38, 9, 10, 11, 12, 13, 14, 15, 16, 17, 18, 19, 20, 21, 22, 23, 24, 25, 26, 27, 28, 29, 30, 31, 32, 33, 34, 35, 36, 37] (f89_8 a q D (setZ Z 8 Bf) 2 Bf.cap T90 Bf.ys hD (by decide) (by omega) (by decide +kernel)) rfl (by kernel_rfl) (stEq_lay (by repeat constructor) 38 0) ?_
    rintro v l' ⟨D1, zs, rfl, rfl, hD1, hz⟩
    conv=>whnf
    refine ⟨[], .c (.sl 38 0 2 Bf.cap), lay [(0, .st (cellsP (.p 31 0) (.p 29 0) [(8, 38)] a q D1 (setZ Z 8 ⟨Bf.cap, Bf.xs, zs, Bf.ok, by omega⟩))), (38, .bl false zs)] 39, rfl, by kernel_rfl, stEq_lay (by repeat constructor) 39 0, ?_⟩
    exact ⟨D1, ⟨Bf.cap, Bf.xs, zs, Bf.ok, by omega⟩, rfl, rfl, hD1, hB⟩
  · conv=>whnf
    repeat' first|(refine Lt (by decide) ?_;conv=>whnf)|(refine Lf (by decide) ?_;conv=>whnf)|fail
    refine CallQ.use [] t91 rfl rfl trivial ?_
    rintro v l' ⟨rfl, rfl⟩
    conv=>whnf
    refine CallQ.useF [0, 1, 2, 3, 4, 5, 6, 7, 38, 9, 10, 11, 12, 13, 14, 15, 16, 17, 18, 19, 20, 21, 22, 23, 24, 25, 26, 27, 28, 29, 30, 31, 32, 33, 34, 35, 36, 37] (f89_8 a q D (setZ Z 8 Bf) 3 Bf.cap T91 Bf.ys hD (by decide) (by omega) (by decide +kernel)) rfl (by kernel_rfl) (stEq_lay (by repeat constructor) 38 0) ?_
    rintro v l' ⟨D1, zs, rfl, rfl, hD1, hz⟩
    conv=>whnf
    refine ⟨[], .c (.sl 38 0 3 Bf.cap), lay [(0, .st (cellsP (.p 31 0) (.p 29 0) [(8, 38)] a q D1 (setZ Z 8 ⟨Bf.cap, Bf.xs, zs, Bf.ok, by omega⟩))), (38, .bl false zs)] 39, rfl, by kernel_rfl, stEq_lay (by repeat constructor) 39 0, ?_⟩
    exact ⟨D1, ⟨Bf.cap, Bf.xs, zs, Bf.ok, by omega⟩, rfl, rfl, hD1, hB⟩
end Go.SX
