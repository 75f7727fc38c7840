/-
  Two lists of selections that are the same: sameSels by a contract. No conditions but lengths.
-/
import Derived.Test.YtobiaaabikfglaaGreatDoorR35
import Derived.Test.YtobiaaabikfglaaGreatDoorR23
namespace Go.Proofs.YtobiaaabikfglaaGreatDoor
open Go.RowKit Go.Proofs.YtobiaaabikfglaaGreatDoor.Pq Go.Lib

theorem IsAt.len {C : Ck} {i : ISel} {c : List Value} (h : IsAt C i c) : c.length = 7 := by
  obtain ⟨kd, na, nn, no, gs, es, ks⟩ := i
  obtain ⟨sg, xg, sd, xd, sl, xs, rfl, _⟩ := h
  rfl
theorem IssAt.get {C : Ck} : ∀ (l : List ISel) (xs : List Value), IssAt C l xs → ∀ (j : Nat) (v : ISel), l[j]? = some v → ∃ c, IsAt C v c ∧ ∀ i u, c[i]? = some u → xs[j * 7 + i]? = some u
  | [], xs => fun _ j v hj => by simp at hj
  | a :: l, xs => fun ⟨c, ys, h1, h2, h3⟩ j v hj => by
    have hc : c.length = 7 := IsAt.len h2
    cases j with
    | zero =>
      simp at hj; subst hj
      refine ⟨c, h2, fun i u hi => ?_⟩
      rw [h1, Nat.zero_mul, Nat.zero_add, List.getElem?_append_left (List.getElem?_eq_some_iff.1 hi).1]
      exact hi
    | succ j =>
      obtain ⟨d, h4, h5⟩ := IssAt.get l ys h3 j v (by simpa using hj)
      refine ⟨d, h4, fun i u hi => ?_⟩
      have := h5 i u hi
      rw [h1, List.getElem?_append_right (by rw [hc]; omega), hc]
      simpa [show (j + 1) * 7 + i - 7 = j * 7 + i by omega] using this

def SSels (n : Nat) : Prop := ∀ (ss : List ISel) (s1 s2 : Value) (w : World), (∀ d, d ∈ ss → SizeOf.sizeOf d < n) → IslAt (Cw w) ss s1 → IslAt (Cw w) ss s2 → Calls Tryz.prog 20 #[s1, s2] w (Yes w)

set_option maxRecDepth 100000 in
set_option maxHeartbeats 8000000 in
theorem sameSels_step (n : Nat) (ih : ∀ m, m < n → SSels m) : SSels n := by
  intro ss s1 s2 w hn h1 h2
  obtain ⟨x1, p1, e1⟩ := h1
  obtain ⟨x2, p2, e2⟩ := h2
  obtain ⟨a1, cap1, rfl, hm, hr1⟩ := p1.place
  obtain ⟨a2, cap2, rfl, _, hr2⟩ := p2.place
  have hm : (ss.length : Int) ≤ 9223372036854775807 := by unfold maxLen at hm; omega
  have H := Lib.hid (And.intro hr1 (And.intro hr2 (And.intro e1 (And.intro e2 hn))))
  clear p1 p2 hr1 hr2 e1 e2 hn
  go_enter Tryz.func20, Tryz.ntmps20
  go_wp2_with fail
  go_loopg [5] ss.length (fun k i wr => ∃ j : Nat, j + k = ss.length ∧ i = .int .i64 j ∧ Below w.heap.size w wr)
  case atStart => exact ⟨0, by simp, rfl, .refl _ _⟩
  case round =>
    obtain ⟨j, hsum, rfl, hb⟩ := hrel
    have HB := Lib.hid hb
    clear hb
    cases gk with
    | zero =>
      go_wp2_with fail
      go_ret
      exact ⟨rfl, HB.out⟩
    | succ k =>
      obtain ⟨T1, o1, rfl, k1⟩ := H.out.1 (by omega)
      obtain ⟨T2, o2, rfl, k2⟩ := H.out.2.1 (by omega)
      obtain ⟨v, hv⟩ : ∃ v, ss[j]? = some v := ⟨ss[j]'(by omega), List.getElem?_eq_getElem (by omega)⟩
      have hvm := List.mem_of_getElem? hv
      obtain ⟨kd, na, nn, no, gs, es, ks⟩ := v
      obtain ⟨y1, q1, m1⟩ := IssAt.get _ _ H.out.2.2.1 j _ hv
      obtain ⟨y2, q2, m2⟩ := IssAt.get _ _ H.out.2.2.2.1 j _ hv
      obtain ⟨sg1, xg1, sd1, xd1, sl1, xs1, rfl, u1, u2, u3, u4, u5, u6⟩ := q1
      have g1 : IalAt (Cw w) gs sg1 := ⟨_, u1, u2⟩
      have d1 : IdlAt (Cw w) es sd1 := ⟨_, u3, u4⟩
      have r1 : IslAt (Cw w) ks sl1 := ⟨_, u5, u6⟩
      clear u1 u2 u3 u4 u5 u6
      obtain ⟨ag1, lg1, cg1, rfl⟩ := g1.shape
      obtain ⟨ad1, ld1, cd1, rfl⟩ := d1.shape
      obtain ⟨as1, ls1, cs1, rfl⟩ := r1.shape
      obtain ⟨sg2, xg2, sd2, xd2, sl2, xs2, rfl, u1, u2, u3, u4, u5, u6⟩ := q2
      have g2 : IalAt (Cw w) gs sg2 := ⟨_, u1, u2⟩
      have d2 : IdlAt (Cw w) es sd2 := ⟨_, u3, u4⟩
      have r2 : IslAt (Cw w) ks sl2 := ⟨_, u5, u6⟩
      clear u1 u2 u3 u4 u5 u6
      obtain ⟨ag2, lg2, cg2, rfl⟩ := g2.shape
      obtain ⟨ad2, ld2, cd2, rfl⟩ := d2.shape
      obtain ⟨as2, ls2, cs2, rfl⟩ := r2.shape
      have hbw : Below w.heap.size w wr := HB.out
      have hS : ∀ V, Below wr.heap.size wr V → V.cell? ⟨T1, o1 + j * 7, none⟩ = some (numV kd) ∧ V.cell? ⟨T1, o1 + j * 7 + 1, none⟩ = some (str na) ∧ V.cell? ⟨T1, o1 + j * 7 + 2, none⟩ = some (str nn) ∧ V.cell? ⟨T1, o1 + j * 7 + 3, none⟩ = some (str no) ∧ V.cell? ⟨T1, o1 + j * 7 + 4, none⟩ = some (.slice ag1 lg1 cg1) ∧ V.cell? ⟨T1, o1 + j * 7 + 5, none⟩ = some (.slice ad1 ld1 cd1) ∧ V.cell? ⟨T1, o1 + j * 7 + 6, none⟩ = some (.slice as1 ls1 cs1) ∧ V.cell? ⟨T2, o2 + j * 7, none⟩ = some (numV kd) ∧ V.cell? ⟨T2, o2 + j * 7 + 1, none⟩ = some (str na) ∧ V.cell? ⟨T2, o2 + j * 7 + 2, none⟩ = some (str nn) ∧ V.cell? ⟨T2, o2 + j * 7 + 3, none⟩ = some (str no) ∧ V.cell? ⟨T2, o2 + j * 7 + 4, none⟩ = some (.slice ag2 lg2 cg2) ∧ V.cell? ⟨T2, o2 + j * 7 + 5, none⟩ = some (.slice ad2 ld2 cd2) ∧ V.cell? ⟨T2, o2 + j * 7 + 6, none⟩ = some (.slice as2 ls2 cs2) := fun V hV => by
        have hw := hbw.trans (hV.mono hbw.size)
        exact ⟨(Cw.below hw _ _ _ (k1 _ _ (m1 0 _ rfl))).2, (Cw.below hw _ _ _ (k1 _ _ (m1 1 _ rfl))).2, (Cw.below hw _ _ _ (k1 _ _ (m1 2 _ rfl))).2, (Cw.below hw _ _ _ (k1 _ _ (m1 3 _ rfl))).2, (Cw.below hw _ _ _ (k1 _ _ (m1 4 _ rfl))).2, (Cw.below hw _ _ _ (k1 _ _ (m1 5 _ rfl))).2, (Cw.below hw _ _ _ (k1 _ _ (m1 6 _ rfl))).2, (Cw.below hw _ _ _ (k2 _ _ (m2 0 _ rfl))).2, (Cw.below hw _ _ _ (k2 _ _ (m2 1 _ rfl))).2, (Cw.below hw _ _ _ (k2 _ _ (m2 2 _ rfl))).2, (Cw.below hw _ _ _ (k2 _ _ (m2 3 _ rfl))).2, (Cw.below hw _ _ _ (k2 _ _ (m2 4 _ rfl))).2, (Cw.below hw _ _ _ (k2 _ _ (m2 5 _ rfl))).2, (Cw.below hw _ _ _ (k2 _ _ (m2 6 _ rfl))).2⟩
      have hc0 : ∀ V, Below wr.heap.size wr V → Calls Tryz.prog 28 #[.slice ag1 lg1 cg1, .slice ag2 lg2 cg2] V (Yes V) := fun V hV => by
        have hw := hbw.trans (hV.mono hbw.size)
        exact sameArgs_any _ _ _ V (g1.mono (Cw.below hw)) (g2.mono (Cw.below hw))
      have hc1 : ∀ V, Below wr.heap.size wr V → Calls Tryz.prog 19 #[.slice ad1 ld1 cd1, .slice ad2 ld2 cd2] V (Yes V) := fun V hV => by
        have hw := hbw.trans (hV.mono hbw.size)
        exact sameDirs_any _ _ _ V (d1.mono (Cw.below hw)) (d2.mono (Cw.below hw))
      have hc2 : ∀ V, Below wr.heap.size wr V → Calls Tryz.prog 20 #[.slice as1 ls1 cs1, .slice as2 ls2 cs2] V (Yes V) := fun V hV => by
        have hw := hbw.trans (hV.mono hbw.size)
        exact ih _ (H.out.2.2.2.2 _ hvm) ks _ _ V (fun d hd => by have := List.sizeOf_lt_of_mem hd; simp; omega) (r1.mono (Cw.below hw)) (r2.mono (Cw.below hw))
      have HC := Lib.hid (And.intro hc0 (And.intro hc1 hc2))
      have HS := Lib.hid hS
      have HW := Lib.hid hbw
      have s0 := HS.out wr.drew ⟨rfl, rfl, rfl, Nat.le_refl _, fun _ _ => rfl⟩
      have hj0 : (0 : Int) ≤ (j : Int) := Int.natCast_nonneg _
      have hj1 : (j : Int) < (ss.length : Int) := by omega
      clear k1 k2 hv m1 m2 hS hbw g1 g2 d1 d2 r1 r2 hvm hc0 hc1 hc2
      go_upto_region 6 with (fail)
      go_cut [6, 7] (fun xv yv wx => ∃ X Y, xv = .pointer (some ⟨X, 0, none⟩) ∧ yv = .pointer (some ⟨Y, 0, none⟩) ∧ Below wr.heap.size wr wx ∧ Bl wx X #[numV kd, str na, str nn, str no, .slice ag1 lg1 cg1, .slice ad1 ld1 cd1, .slice as1 ls1 cs1] 84 ∧ Bl wx Y #[numV kd, str na, str nn, str no, .slice ag2 lg2 cg2, .slice ad2 ld2 cd2, .slice as2 ls2 cs2] 84)
      case first =>
        refine wp_region_late (S := fun V => V.cell? ⟨T1, o1 + j * 7, none⟩ = some (numV kd) ∧ V.cell? ⟨T1, o1 + j * 7 + 1, none⟩ = some (str na) ∧ V.cell? ⟨T1, o1 + j * 7 + 2, none⟩ = some (str nn) ∧ V.cell? ⟨T1, o1 + j * 7 + 3, none⟩ = some (str no) ∧ V.cell? ⟨T1, o1 + j * 7 + 4, none⟩ = some (.slice ag1 lg1 cg1) ∧ V.cell? ⟨T1, o1 + j * 7 + 5, none⟩ = some (.slice ad1 ld1 cd1) ∧ V.cell? ⟨T1, o1 + j * 7 + 6, none⟩ = some (.slice as1 ls1 cs1) ∧ V.cell? ⟨T2, o2 + j * 7, none⟩ = some (numV kd) ∧ V.cell? ⟨T2, o2 + j * 7 + 1, none⟩ = some (str na) ∧ V.cell? ⟨T2, o2 + j * 7 + 2, none⟩ = some (str nn) ∧ V.cell? ⟨T2, o2 + j * 7 + 3, none⟩ = some (str no) ∧ V.cell? ⟨T2, o2 + j * 7 + 4, none⟩ = some (.slice ag2 lg2 cg2) ∧ V.cell? ⟨T2, o2 + j * 7 + 5, none⟩ = some (.slice ad2 ld2 cd2) ∧ V.cell? ⟨T2, o2 + j * 7 + 6, none⟩ = some (.slice as2 ls2 cs2)) (late := fun _ => false) (by kernel_rfl) ?_
        refine wpAnyL_get (i := 0) (d := 19) (v := .slice (some ⟨T1, o1, none⟩) ss.length cap1) rfl rfl (by kernel_rfl) (by kernel_rfl) (by kernel_rfl) (by kernel_rfl) (by kernel_rfl) (fun _ _ _ h => h) rfl (fun w hS => by (try dsimp only at hS); go_simp) s0 ?_
        simp only [Act.put, List.setIfInBounds_toArray, List.set_cons_zero, List.set_cons_succ]
        refine wpAnyL_get (i := 1) (d := 20) (v := .int .i64 j) rfl rfl (by kernel_rfl) (by kernel_rfl) (by kernel_rfl) (by kernel_rfl) (by kernel_rfl) (fun _ _ _ h => h) rfl (fun w hS => by (try dsimp only at hS); go_simp) s0 ?_
        simp only [Act.put, List.setIfInBounds_toArray, List.set_cons_zero, List.set_cons_succ]
        refine wpAnyL_get (i := 2) (d := 21) (v := .pointer (some ⟨T1, o1 + j * 7, none⟩)) rfl rfl (by kernel_rfl) (by kernel_rfl) (by kernel_rfl) (by kernel_rfl) (by kernel_rfl) (fun _ _ _ h => h) rfl (fun w hS => by (try dsimp only at hS); go_simp) s0 ?_
        simp only [Act.put, List.setIfInBounds_toArray, List.set_cons_zero, List.set_cons_succ]
        refine wpAnyL_get (i := 3) (d := 22) (v := .agg #[numV kd, str na, str nn, str no, .slice ag1 lg1 cg1, .slice ad1 ld1 cd1, .slice as1 ls1 cs1]) rfl rfl (by kernel_rfl) (by kernel_rfl) (by kernel_rfl) (by kernel_rfl) (by kernel_rfl) (fun _ _ _ h => h) rfl (fun w hS => by (try dsimp only at hS); go_simp) s0 ?_
        simp only [Act.put, List.setIfInBounds_toArray, List.set_cons_zero, List.set_cons_succ]
        refine wpAnyL_get (i := 4) (d := 23) (v := .slice (some ⟨T2, o2, none⟩) ss.length cap2) rfl rfl (by kernel_rfl) (by kernel_rfl) (by kernel_rfl) (by kernel_rfl) (by kernel_rfl) (fun _ _ _ h => h) rfl (fun w hS => by (try dsimp only at hS); go_simp) s0 ?_
        simp only [Act.put, List.setIfInBounds_toArray, List.set_cons_zero, List.set_cons_succ]
        refine wpAnyL_get (i := 5) (d := 24) (v := .int .i64 j) rfl rfl (by kernel_rfl) (by kernel_rfl) (by kernel_rfl) (by kernel_rfl) (by kernel_rfl) (fun _ _ _ h => h) rfl (fun w hS => by (try dsimp only at hS); go_simp) s0 ?_
        simp only [Act.put, List.setIfInBounds_toArray, List.set_cons_zero, List.set_cons_succ]
        refine wpAnyL_get (i := 6) (d := 25) (v := .pointer (some ⟨T2, o2 + j * 7, none⟩)) rfl rfl (by kernel_rfl) (by kernel_rfl) (by kernel_rfl) (by kernel_rfl) (by kernel_rfl) (fun _ _ _ h => h) rfl (fun w hS => by (try dsimp only at hS); go_simp) s0 ?_
        simp only [Act.put, List.setIfInBounds_toArray, List.set_cons_zero, List.set_cons_succ]
        refine wpAnyL_get (i := 7) (d := 26) (v := .agg #[numV kd, str na, str nn, str no, .slice ag2 lg2 cg2, .slice ad2 ld2 cd2, .slice as2 ls2 cs2]) rfl rfl (by kernel_rfl) (by kernel_rfl) (by kernel_rfl) (by kernel_rfl) (by kernel_rfl) (fun _ _ _ h => h) rfl (fun w hS => by (try dsimp only at hS); go_simp) s0 ?_
        simp only [Act.put, List.setIfInBounds_toArray, List.set_cons_zero, List.set_cons_succ]
        clear s0
        refine wpAnyL_all (rs := [8, 9]) (by kernel_rfl) (by simp) ?_
        intro i hi
        simp only [List.mem_cons, List.not_mem_nil, or_false] at hi
        rcases hi with rfl | rfl
        · obtain ⟨V1, hV1⟩ : ∃ V1, V1 = wr.drew.alloc (.cells #[numV 0, str [], str [], str [], .slice none 0 0, .slice none 0 0, .slice none 0 0] 84) := ⟨_, rfl⟩
          obtain ⟨X, hX⟩ : ∃ b, b = wr.heap.size := ⟨_, rfl⟩
          have b1 : Bl V1 X #[numV 0, str [], str [], str [], .slice none 0 0, .slice none 0 0, .slice none 0 0] 84 := by rw [hV1, hX]; exact Bl.new wr.drew _ _
          have w1 : Below wr.heap.size wr V1 := by rw [hV1]; exact (Below.drew (.refl _ _)).alloc (Nat.le_refl _) _
          have s1 := HS.out V1 w1
          refine wpOpL_get (d := 6) rfl rfl rfl (v := .pointer (some ⟨X, 0, none⟩)) (w' := V1) (by rw [hV1, hX]; simp [execOp, go_sem]) ⟨fun _ => s1, ?_⟩
          simp only [Act.put, List.setIfInBounds_toArray, List.set_cons_zero, List.set_cons_succ]
          obtain ⟨V2, hV2⟩ : ∃ V2, V2 = V1.alloc (.cells #[numV 0, str [], str [], str [], .slice none 0 0, .slice none 0 0, .slice none 0 0] 84) := ⟨_, rfl⟩
          obtain ⟨Y, hY⟩ : ∃ b, b = V1.heap.size := ⟨_, rfl⟩
          have bY : Bl V2 Y #[numV 0, str [], str [], str [], .slice none 0 0, .slice none 0 0, .slice none 0 0] 84 := by rw [hV2, hY]; exact Bl.new V1 _ _
          have bX : Bl V2 X #[numV 0, str [], str [], str [], .slice none 0 0, .slice none 0 0, .slice none 0 0] 84 := by rw [hV2]; exact b1.alloc _
          have bW : Below wr.heap.size wr V2 := by rw [hV2]; exact w1.alloc w1.size _
          have s2 := HS.out V2 bW
          refine wpAnyL_one (i := 9) (by kernel_rfl) (wpOpL_get (d := 7) rfl rfl rfl (v := .pointer (some ⟨Y, 0, none⟩)) (w' := V2) (by rw [hV2, hY]; simp [execOp, go_sem]) ⟨fun _ => s2, ?_⟩)
          simp only [Act.put, List.setIfInBounds_toArray, List.set_cons_zero, List.set_cons_succ]
          have hlt1 := b1.lt
          have hsz1 := w1.size
          clear hV1 hV2 s1 s2
          have x0 := bX.cell 0
          have x1 := bX.cell 1
          have x2 := bX.cell 2
          have x3 := bX.cell 3
          have x4 := bX.cell 4
          have x5 := bX.cell 5
          have x6 := bX.cell 6
          have fx : ∀ o, V2.frozen? ⟨X, o, none⟩ = false := bX.free
          obtain ⟨V3, hV3⟩ : ∃ V3, V3 = (((((((V2.setCell ⟨X, 0, none⟩ (numV kd)).setCell ⟨X, 1, none⟩ (str na)).setCell ⟨X, 2, none⟩ (str nn)).setCell ⟨X, 3, none⟩ (str no)).setCell ⟨X, 4, none⟩ (.slice ag1 lg1 cg1)).setCell ⟨X, 5, none⟩ (.slice ad1 ld1 cd1)).setCell ⟨X, 6, none⟩ (.slice as1 ls1 cs1)) := ⟨_, rfl⟩
          have hF1 : Fr [X] V2 [X] V3 := by rw [hV3]; exact (((((((Fr.refl [X] V2).set (.inl (by simp)) _).set (.inl (by simp)) _).set (.inl (by simp)) _).set (.inl (by simp)) _).set (.inl (by simp)) _).set (.inl (by simp)) _).set (.inl (by simp)) _
          have hB3 : Below wr.heap.size wr V3 := bW.trans (hF1.to_below bW.size (by simp; omega))
          refine wpAnyL_one (i := 10) (by kernel_rfl) (wpOpL_none rfl rfl rfl (w' := V3) (by rw [hV3]; simp [execOp, go_sem, Act.eval, x0, x1, x2, x3, x4, x5, x6, fx]) ⟨fun _ => HS.out V3 hB3, ?_⟩)
          have bX3 := (((((((bX.set 0 (numV kd)).set 1 (str na)).set 2 (str nn)).set 3 (str no)).set 4 (.slice ag1 lg1 cg1)).set 5 (.slice ad1 ld1 cd1)).set 6 (.slice as1 ls1 cs1))
          simp only [List.setIfInBounds_toArray, List.set_cons_succ, List.set_cons_zero] at bX3
          rw [← hV3] at bX3
          have bY3 := (hF1.bl bY (by simp; omega)).1
          clear hV3 x0 x1 x2 x3 x4 x5 x6 fx bX bY
          have y0 := bY3.cell 0
          have y1 := bY3.cell 1
          have y2 := bY3.cell 2
          have y3 := bY3.cell 3
          have y4 := bY3.cell 4
          have y5 := bY3.cell 5
          have y6 := bY3.cell 6
          have fy : ∀ o, V3.frozen? ⟨Y, o, none⟩ = false := bY3.free
          obtain ⟨V4, hV4⟩ : ∃ V4, V4 = (((((((V3.setCell ⟨Y, 0, none⟩ (numV kd)).setCell ⟨Y, 1, none⟩ (str na)).setCell ⟨Y, 2, none⟩ (str nn)).setCell ⟨Y, 3, none⟩ (str no)).setCell ⟨Y, 4, none⟩ (.slice ag2 lg2 cg2)).setCell ⟨Y, 5, none⟩ (.slice ad2 ld2 cd2)).setCell ⟨Y, 6, none⟩ (.slice as2 ls2 cs2)) := ⟨_, rfl⟩
          have hF2 : Fr [Y] V3 [Y] V4 := by rw [hV4]; exact (((((((Fr.refl [Y] V3).set (.inl (by simp)) _).set (.inl (by simp)) _).set (.inl (by simp)) _).set (.inl (by simp)) _).set (.inl (by simp)) _).set (.inl (by simp)) _).set (.inl (by simp)) _
          have hB4 : Below wr.heap.size wr V4 := hB3.trans (hF2.to_below hB3.size (by simp; omega))
          refine wpAnyL_one (i := 11) (by kernel_rfl) (wpOpL_none rfl rfl rfl (w' := V4) (by rw [hV4]; simp [execOp, go_sem, Act.eval, y0, y1, y2, y3, y4, y5, y6, fy]) ⟨fun _ => HS.out V4 hB4, ?_⟩)
          have bY4 := (((((((bY3.set 0 (numV kd)).set 1 (str na)).set 2 (str nn)).set 3 (str no)).set 4 (.slice ag2 lg2 cg2)).set 5 (.slice ad2 ld2 cd2)).set 6 (.slice as2 ls2 cs2))
          simp only [List.setIfInBounds_toArray, List.set_cons_succ, List.set_cons_zero] at bY4
          rw [← hV4] at bY4
          have bX4 := (hF2.bl bX3 (by simp; omega)).1
          clear hV4 y0 y1 y2 y3 y4 y5 y6 fy bX3
          refine wpAnyL_done (by kernel_rfl) ?_ _
          go_wp2_with fail
          go_meet
          exact ⟨X, Y, rfl, rfl, hB4, bX4, bY4⟩
        · obtain ⟨V1, hV1⟩ : ∃ V1, V1 = wr.drew.alloc (.cells #[numV 0, str [], str [], str [], .slice none 0 0, .slice none 0 0, .slice none 0 0] 84) := ⟨_, rfl⟩
          obtain ⟨Y, hY⟩ : ∃ b, b = wr.heap.size := ⟨_, rfl⟩
          have b1 : Bl V1 Y #[numV 0, str [], str [], str [], .slice none 0 0, .slice none 0 0, .slice none 0 0] 84 := by rw [hV1, hY]; exact Bl.new wr.drew _ _
          have w1 : Below wr.heap.size wr V1 := by rw [hV1]; exact (Below.drew (.refl _ _)).alloc (Nat.le_refl _) _
          have s1 := HS.out V1 w1
          refine wpOpL_get (d := 7) rfl rfl rfl (v := .pointer (some ⟨Y, 0, none⟩)) (w' := V1) (by rw [hV1, hY]; simp [execOp, go_sem]) ⟨fun _ => s1, ?_⟩
          simp only [Act.put, List.setIfInBounds_toArray, List.set_cons_zero, List.set_cons_succ]
          obtain ⟨V2, hV2⟩ : ∃ V2, V2 = V1.alloc (.cells #[numV 0, str [], str [], str [], .slice none 0 0, .slice none 0 0, .slice none 0 0] 84) := ⟨_, rfl⟩
          obtain ⟨X, hX⟩ : ∃ b, b = V1.heap.size := ⟨_, rfl⟩
          have bX : Bl V2 X #[numV 0, str [], str [], str [], .slice none 0 0, .slice none 0 0, .slice none 0 0] 84 := by rw [hV2, hX]; exact Bl.new V1 _ _
          have bY : Bl V2 Y #[numV 0, str [], str [], str [], .slice none 0 0, .slice none 0 0, .slice none 0 0] 84 := by rw [hV2]; exact b1.alloc _
          have bW : Below wr.heap.size wr V2 := by rw [hV2]; exact w1.alloc w1.size _
          have s2 := HS.out V2 bW
          refine wpAnyL_one (i := 8) (by kernel_rfl) (wpOpL_get (d := 6) rfl rfl rfl (v := .pointer (some ⟨X, 0, none⟩)) (w' := V2) (by rw [hV2, hX]; simp [execOp, go_sem]) ⟨fun _ => s2, ?_⟩)
          simp only [Act.put, List.setIfInBounds_toArray, List.set_cons_zero, List.set_cons_succ]
          have hlt1 := b1.lt
          have hsz1 := w1.size
          clear hV1 hV2 s1 s2
          have x0 := bX.cell 0
          have x1 := bX.cell 1
          have x2 := bX.cell 2
          have x3 := bX.cell 3
          have x4 := bX.cell 4
          have x5 := bX.cell 5
          have x6 := bX.cell 6
          have fx : ∀ o, V2.frozen? ⟨X, o, none⟩ = false := bX.free
          obtain ⟨V3, hV3⟩ : ∃ V3, V3 = (((((((V2.setCell ⟨X, 0, none⟩ (numV kd)).setCell ⟨X, 1, none⟩ (str na)).setCell ⟨X, 2, none⟩ (str nn)).setCell ⟨X, 3, none⟩ (str no)).setCell ⟨X, 4, none⟩ (.slice ag1 lg1 cg1)).setCell ⟨X, 5, none⟩ (.slice ad1 ld1 cd1)).setCell ⟨X, 6, none⟩ (.slice as1 ls1 cs1)) := ⟨_, rfl⟩
          have hF1 : Fr [X] V2 [X] V3 := by rw [hV3]; exact (((((((Fr.refl [X] V2).set (.inl (by simp)) _).set (.inl (by simp)) _).set (.inl (by simp)) _).set (.inl (by simp)) _).set (.inl (by simp)) _).set (.inl (by simp)) _).set (.inl (by simp)) _
          have hB3 : Below wr.heap.size wr V3 := bW.trans (hF1.to_below bW.size (by simp; omega))
          refine wpAnyL_one (i := 10) (by kernel_rfl) (wpOpL_none rfl rfl rfl (w' := V3) (by rw [hV3]; simp [execOp, go_sem, Act.eval, x0, x1, x2, x3, x4, x5, x6, fx]) ⟨fun _ => HS.out V3 hB3, ?_⟩)
          have bX3 := (((((((bX.set 0 (numV kd)).set 1 (str na)).set 2 (str nn)).set 3 (str no)).set 4 (.slice ag1 lg1 cg1)).set 5 (.slice ad1 ld1 cd1)).set 6 (.slice as1 ls1 cs1))
          simp only [List.setIfInBounds_toArray, List.set_cons_succ, List.set_cons_zero] at bX3
          rw [← hV3] at bX3
          have bY3 := (hF1.bl bY (by simp; omega)).1
          clear hV3 x0 x1 x2 x3 x4 x5 x6 fx bX bY
          have y0 := bY3.cell 0
          have y1 := bY3.cell 1
          have y2 := bY3.cell 2
          have y3 := bY3.cell 3
          have y4 := bY3.cell 4
          have y5 := bY3.cell 5
          have y6 := bY3.cell 6
          have fy : ∀ o, V3.frozen? ⟨Y, o, none⟩ = false := bY3.free
          obtain ⟨V4, hV4⟩ : ∃ V4, V4 = (((((((V3.setCell ⟨Y, 0, none⟩ (numV kd)).setCell ⟨Y, 1, none⟩ (str na)).setCell ⟨Y, 2, none⟩ (str nn)).setCell ⟨Y, 3, none⟩ (str no)).setCell ⟨Y, 4, none⟩ (.slice ag2 lg2 cg2)).setCell ⟨Y, 5, none⟩ (.slice ad2 ld2 cd2)).setCell ⟨Y, 6, none⟩ (.slice as2 ls2 cs2)) := ⟨_, rfl⟩
          have hF2 : Fr [Y] V3 [Y] V4 := by rw [hV4]; exact (((((((Fr.refl [Y] V3).set (.inl (by simp)) _).set (.inl (by simp)) _).set (.inl (by simp)) _).set (.inl (by simp)) _).set (.inl (by simp)) _).set (.inl (by simp)) _).set (.inl (by simp)) _
          have hB4 : Below wr.heap.size wr V4 := hB3.trans (hF2.to_below hB3.size (by simp; omega))
          refine wpAnyL_one (i := 11) (by kernel_rfl) (wpOpL_none rfl rfl rfl (w' := V4) (by rw [hV4]; simp [execOp, go_sem, Act.eval, y0, y1, y2, y3, y4, y5, y6, fy]) ⟨fun _ => HS.out V4 hB4, ?_⟩)
          have bY4 := (((((((bY3.set 0 (numV kd)).set 1 (str na)).set 2 (str nn)).set 3 (str no)).set 4 (.slice ag2 lg2 cg2)).set 5 (.slice ad2 ld2 cd2)).set 6 (.slice as2 ls2 cs2))
          simp only [List.setIfInBounds_toArray, List.set_cons_succ, List.set_cons_zero] at bY4
          rw [← hV4] at bY4
          have bX4 := (hF2.bl bX3 (by simp; omega)).1
          clear hV4 y0 y1 y2 y3 y4 y5 y6 fy bX3
          refine wpAnyL_done (by kernel_rfl) ?_ _
          go_wp2_with fail
          go_meet
          exact ⟨X, Y, rfl, rfl, hB4, bX4, bY4⟩
      case rest =>
        obtain ⟨X, Y, rfl, rfl, hB4, bX, bY⟩ := hcut
        have x0 := bX.cell 0
        have y0 := bY.cell 0
        have x1 := bX.cell 1
        have y1 := bY.cell 1
        have x2 := bX.cell 2
        have y2 := bY.cell 2
        have x3 := bX.cell 3
        have y3 := bY.cell 3
        have x4 := bX.cell 4
        have y4 := bY.cell 4
        have x5 := bX.cell 5
        have y5 := bY.cell 5
        have x6 := bX.cell 6
        have y6 := bY.cell 6
        have H4 := Lib.hid (And.intro hB4 (And.intro bX bY))
        clear hB4 bX bY s0
        go_wp2_with (first
          | (go_at_call 28
             refine (HC.out.1 _ H4.out.1).mono ?_
             rintro e v0 ⟨rfl, hb⟩
             have bX := H4.out.2.1.below hb H4.out.2.1.lt
             have bY := H4.out.2.2.below hb H4.out.2.2.lt
             have hB := H4.out.1.trans (hb.mono H4.out.1.size)
             have x0 := bX.cell 0
             have y0 := bY.cell 0
             have x1 := bX.cell 1
             have y1 := bY.cell 1
             have x2 := bX.cell 2
             have y2 := bY.cell 2
             have x3 := bX.cell 3
             have y3 := bY.cell 3
             have x4 := bX.cell 4
             have y4 := bY.cell 4
             have x5 := bX.cell 5
             have y5 := bY.cell 5
             have x6 := bX.cell 6
             have y6 := bY.cell 6
             have G0 := Lib.hid (And.intro hB (And.intro bX bY))
             clear hb bX bY hB)
          | (go_at_call 19
             refine (HC.out.2.1 _ G0.out.1).mono ?_
             rintro e v1 ⟨rfl, hb⟩
             have bX := G0.out.2.1.below hb G0.out.2.1.lt
             have bY := G0.out.2.2.below hb G0.out.2.2.lt
             have hB := G0.out.1.trans (hb.mono G0.out.1.size)
             have x0 := bX.cell 0
             have y0 := bY.cell 0
             have x1 := bX.cell 1
             have y1 := bY.cell 1
             have x2 := bX.cell 2
             have y2 := bY.cell 2
             have x3 := bX.cell 3
             have y3 := bY.cell 3
             have x4 := bX.cell 4
             have y4 := bY.cell 4
             have x5 := bX.cell 5
             have y5 := bY.cell 5
             have x6 := bX.cell 6
             have y6 := bY.cell 6
             have G1 := Lib.hid (And.intro hB (And.intro bX bY))
             clear hb bX bY hB)
          | (go_at_call 20
             refine (HC.out.2.2 _ G1.out.1).mono ?_
             rintro e v2 ⟨rfl, hb⟩
             have bX := G1.out.2.1.below hb G1.out.2.1.lt
             have bY := G1.out.2.2.below hb G1.out.2.2.lt
             have hB := G1.out.1.trans (hb.mono G1.out.1.size)
             have x0 := bX.cell 0
             have y0 := bY.cell 0
             have x1 := bX.cell 1
             have y1 := bY.cell 1
             have x2 := bX.cell 2
             have y2 := bY.cell 2
             have x3 := bX.cell 3
             have y3 := bY.cell 3
             have x4 := bX.cell 4
             have y4 := bY.cell 4
             have x5 := bX.cell 5
             have y5 := bY.cell 5
             have x6 := bX.cell 6
             have y6 := bY.cell 6
             have G2 := Lib.hid (And.intro hB (And.intro bX bY))
             clear hb bX bY hB))
        go_roundg k
        case measure => omega
        case rel => exact ⟨j + 1, by omega, by go_num, HB.out.trans (G2.out.1.mono HB.out.size)⟩

theorem sameSels_any (ss : List ISel) (s1 s2 : Value) (w : World) (h1 : IslAt (Cw w) ss s1) (h2 : IslAt (Cw w) ss s2) : Calls Tryz.prog 20 #[s1, s2] w (Yes w) := by
  have all : ∀ n, SSels n := fun n => by
    induction n using Nat.strongRecOn with
    | ind n ih => exact sameSels_step n ih
  exact all (SizeOf.sizeOf ss) ss s1 s2 w (fun d hd => List.sizeOf_lt_of_mem hd) h1 h2

end Go.Proofs.YtobiaaabikfglaaGreatDoor
