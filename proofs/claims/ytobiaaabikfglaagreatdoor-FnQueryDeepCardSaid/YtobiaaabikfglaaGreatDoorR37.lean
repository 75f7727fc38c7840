/-
  Two documents that are the same: sameDoc by a contract. No conditions but lengths.
-/
import Derived.Test.YtobiaaabikfglaaGreatDoorR36
import Derived.Test.YtobiaaabikfglaaGreatDoorR23
namespace Go.Proofs.YtobiaaabikfglaaGreatDoor
open Go.RowKit Go.Proofs.YtobiaaabikfglaaGreatDoor.Pq Go.Lib

theorem IoAt.len {C : Ck} {i : IOp} {c : List Value} (h : IoAt C i c) : c.length = 6 := by
  obtain ⟨_, _, _, rfl, _⟩ := h
  rfl
theorem IfAt.len {C : Ck} {i : IFrag} {c : List Value} (h : IfAt C i c) : c.length = 5 := by
  obtain ⟨_, _, rfl, _⟩ := h
  rfl
theorem IosAt.get {C : Ck} : ∀ (l : List IOp) (xs : List Value), IosAt C l xs → ∀ (j : Nat) (v : IOp), l[j]? = some v → ∃ c, IoAt C v c ∧ ∀ i u, c[i]? = some u → xs[j * 6 + i]? = some u
  | [], xs => fun _ j v hj => by simp at hj
  | a :: l, xs => fun ⟨c, ys, h1, h2, h3⟩ j v hj => by
    have hc : c.length = 6 := IoAt.len h2
    cases j with
    | zero =>
      simp at hj; subst hj
      refine ⟨c, h2, fun i u hi => ?_⟩
      rw [h1, Nat.zero_mul, Nat.zero_add, List.getElem?_append_left (List.getElem?_eq_some_iff.1 hi).1]
      exact hi
    | succ j =>
      obtain ⟨d, h4, h5⟩ := IosAt.get l ys h3 j v (by simpa using hj)
      refine ⟨d, h4, fun i u hi => ?_⟩
      have := h5 i u hi
      rw [h1, List.getElem?_append_right (by rw [hc]; omega), hc]
      simpa [show (j + 1) * 6 + i - 6 = j * 6 + i by omega] using this
theorem IfsAt.get {C : Ck} : ∀ (l : List IFrag) (xs : List Value), IfsAt C l xs → ∀ (j : Nat) (v : IFrag), l[j]? = some v → ∃ c, IfAt C v c ∧ ∀ i u, c[i]? = some u → xs[j * 5 + i]? = some u
  | [], xs => fun _ j v hj => by simp at hj
  | a :: l, xs => fun ⟨c, ys, h1, h2, h3⟩ j v hj => by
    have hc : c.length = 5 := IfAt.len h2
    cases j with
    | zero =>
      simp at hj; subst hj
      refine ⟨c, h2, fun i u hi => ?_⟩
      rw [h1, Nat.zero_mul, Nat.zero_add, List.getElem?_append_left (List.getElem?_eq_some_iff.1 hi).1]
      exact hi
    | succ j =>
      obtain ⟨d, h4, h5⟩ := IfsAt.get l ys h3 j v (by simpa using hj)
      refine ⟨d, h4, fun i u hi => ?_⟩
      have := h5 i u hi
      rw [h1, List.getElem?_append_right (by rw [hc]; omega), hc]
      simpa [show (j + 1) * 5 + i - 5 = j * 5 + i by omega] using this

theorem RowAt.later {w : World} {size n : Nat} {a : Option Addr} {cap : Nat} {xs : List Value} (h : RowAt (Cw w) size (.slice a n cap) n xs) : 0 < n → ∃ T off, a = some ⟨T, off, none⟩ ∧ ∀ j u, xs[j]? = some u → Cw w T (off + j) u := by
  obtain ⟨a1, cap1, e, _, hr⟩ := h.place
  cases e
  exact hr

set_option maxRecDepth 100000 in
set_option maxHeartbeats 16000000 in
theorem sameDoc_any (d : IDoc) (c1 c2 : List Value) (w0 : World) (h1 : IdocAt (Cw w0) d c1) (h2 : IdocAt (Cw w0) d c2) : Calls Tryz.prog 11 #[.agg c1.toArray, .agg c2.toArray] w0 (Yes w0) := by
  obtain ⟨so1, xo1, sf1, xf1, rfl, p1, e1, p3, e3⟩ := h1
  obtain ⟨so2, xo2, sf2, xf2, rfl, p2, e2, p4, e4⟩ := h2
  obtain ⟨a1, cap1, rfl, hm, _⟩ := p1.place
  obtain ⟨a2, cap2, rfl, _, _⟩ := p2.place
  obtain ⟨a3, cap3, rfl, hn, _⟩ := p3.place
  obtain ⟨a4, cap4, rfl, _, _⟩ := p4.place
  have hm : (d.ops.length : Int) ≤ 9223372036854775807 := by unfold maxLen at hm; omega
  have hn : (d.frags.length : Int) ≤ 9223372036854775807 := by unfold maxLen at hn; omega
  have H0 := Lib.hid (And.intro p1 (And.intro p2 (And.intro p3 (And.intro p4 (And.intro e1 (And.intro e2 (And.intro e3 e4)))))))
  clear p1 p2 p3 p4 e1 e2 e3 e4
  go_enter Tryz.func11, Tryz.ntmps11
  go_upto_region 0 with (fail)
  go_cut [2, 3] (fun xv yv wx => ∃ D1 D2, xv = .pointer (some ⟨D1, 0, none⟩) ∧ yv = .pointer (some ⟨D2, 0, none⟩) ∧ Below w0.heap.size w0 wx ∧ Bl wx D1 #[.slice a1 d.ops.length cap1, .slice a3 d.frags.length cap3] 27 ∧ Bl wx D2 #[.slice a2 d.ops.length cap2, .slice a4 d.frags.length cap4] 27)
  case first =>
    go_wp2_with fail
    go_meet
    have hz : ∀ o : Obj, (w0.alloc o).heap.size = w0.heap.size + 1 := fun o => by simp
    exact ⟨_, _, rfl, rfl, ((Below.refl _ _).alloc (Nat.le_refl _) _).alloc (by rw [hz]; omega) _, (Bl.new w0 _ _).alloc _, by rw [← hz]; exact Bl.new (w0.alloc _) _ _⟩
  case rest =>
    obtain ⟨D1, D2, rfl, rfl, hw0, bD1, bD2⟩ := hcut
    have hh := Cw.below hw0
    obtain ⟨w, hw⟩ : ∃ w, w = wc := ⟨_, rfl⟩
    subst hw
    have H := Lib.hid (And.intro ((H0.out.1.mono hh).later) (And.intro ((H0.out.2.1.mono hh).later) (And.intro (IosAt.mono hh _ _ H0.out.2.2.2.2.1) (And.intro (IosAt.mono hh _ _ H0.out.2.2.2.2.2.1) (And.intro ((H0.out.2.2.1.mono hh).later) (And.intro ((H0.out.2.2.2.1.mono hh).later) (And.intro (IfsAt.mono hh _ _ H0.out.2.2.2.2.2.2.1) (IfsAt.mono hh _ _ H0.out.2.2.2.2.2.2.2))))))))
    have HW0 := Lib.hid hw0
    have HD := Lib.hid (And.intro bD1 bD2)
    have x0 := HD.out.1.cell 0
    have x1 := HD.out.1.cell 1
    have y0 := HD.out.2.cell 0
    have y1 := HD.out.2.cell 1
    clear hw0 bD1 bD2 H0 hh
    go_wp2_with fail
    clear x0 x1 y0 y1
    go_loopg [5] d.ops.length (fun k i wr => ∃ j : Nat, j + k = d.ops.length ∧ i = .int .i64 j ∧ Below w.heap.size w wr)
    case atStart => exact ⟨0, by simp, rfl, .refl _ _⟩
    case round =>
      obtain ⟨j, hsum, rfl, hb⟩ := hrel
      have x0 := (HD.out.1.below hb HD.out.1.lt).cell 0
      have x1 := (HD.out.1.below hb HD.out.1.lt).cell 1
      have y0 := (HD.out.2.below hb HD.out.2.lt).cell 0
      have y1 := (HD.out.2.below hb HD.out.2.lt).cell 1
      have HB := Lib.hid hb
      clear hb
      cases gk with
      | zero =>
        obtain rfl : j = d.ops.length := by omega
        go_wp2_with fail
        clear x0 x1 y0 y1
        go_loopg [8] d.frags.length (fun k i wr => ∃ j : Nat, j + k = d.frags.length ∧ i = .int .i64 j ∧ Below w.heap.size w wr)
        case atStart => exact ⟨0, by simp, rfl, HB.out⟩
        case round =>
          clear HB
          obtain ⟨j, hsum, rfl, hb⟩ := hrel
          have x0 := (HD.out.1.below hb HD.out.1.lt).cell 0
          have x1 := (HD.out.1.below hb HD.out.1.lt).cell 1
          have y0 := (HD.out.2.below hb HD.out.2.lt).cell 0
          have y1 := (HD.out.2.below hb HD.out.2.lt).cell 1
          have HB := Lib.hid hb
          clear hb
          cases gk with
          | zero =>
            go_wp2_with fail
            go_ret
            exact ⟨rfl, HW0.out.trans (HB.out.mono HW0.out.size)⟩
          | succ k =>
            obtain ⟨T1, o1, rfl, k1⟩ := H.out.2.2.2.2.1 (by omega)
            obtain ⟨T2, o2, rfl, k2⟩ := H.out.2.2.2.2.2.1 (by omega)
            obtain ⟨v, hv⟩ : ∃ v, d.frags[j]? = some v := ⟨d.frags[j]'(by omega), List.getElem?_eq_getElem (by omega)⟩
            obtain ⟨vn, vo, vd, vs, vl⟩ := v
            obtain ⟨y1, q1, m1⟩ := IfsAt.get _ _ H.out.2.2.2.2.2.2.1 j _ hv
            obtain ⟨y2, q2, m2⟩ := IfsAt.get _ _ H.out.2.2.2.2.2.2.2 j _ hv
            obtain ⟨sd1, sl1, rfl, d1, r1⟩ := q1
            obtain ⟨ad1, ld1, cd1, rfl⟩ := d1.shape
            obtain ⟨as1, ls1, cs1, rfl⟩ := r1.shape
            obtain ⟨sd2, sl2, rfl, d2, r2⟩ := q2
            obtain ⟨ad2, ld2, cd2, rfl⟩ := d2.shape
            obtain ⟨as2, ls2, cs2, rfl⟩ := r2.shape
            have hbw : Below w.heap.size w wr := HB.out
            have hS : ∀ V, Below wr.heap.size wr V → V.cell? ⟨D1, 1, none⟩ = some (.slice (some ⟨T1, o1, none⟩) d.frags.length cap3) ∧ V.cell? ⟨D2, 1, none⟩ = some (.slice (some ⟨T2, o2, none⟩) d.frags.length cap4) ∧ V.cell? ⟨T1, o1 + j * 5, none⟩ = some (str vn) ∧ V.cell? ⟨T1, o1 + j * 5 + 1, none⟩ = some (str vo) ∧ V.cell? ⟨T1, o1 + j * 5 + 2, none⟩ = some (str vd) ∧ V.cell? ⟨T1, o1 + j * 5 + 3, none⟩ = some (.slice ad1 ld1 cd1) ∧ V.cell? ⟨T1, o1 + j * 5 + 4, none⟩ = some (.slice as1 ls1 cs1) ∧ V.cell? ⟨T2, o2 + j * 5, none⟩ = some (str vn) ∧ V.cell? ⟨T2, o2 + j * 5 + 1, none⟩ = some (str vo) ∧ V.cell? ⟨T2, o2 + j * 5 + 2, none⟩ = some (str vd) ∧ V.cell? ⟨T2, o2 + j * 5 + 3, none⟩ = some (.slice ad2 ld2 cd2) ∧ V.cell? ⟨T2, o2 + j * 5 + 4, none⟩ = some (.slice as2 ls2 cs2) := fun V hV => by
              have hw := hbw.trans (hV.mono hbw.size)
              exact ⟨(HD.out.1.below hw HD.out.1.lt).cell 1, (HD.out.2.below hw HD.out.2.lt).cell 1, (Cw.below hw _ _ _ (k1 _ _ (m1 0 _ rfl))).2, (Cw.below hw _ _ _ (k1 _ _ (m1 1 _ rfl))).2, (Cw.below hw _ _ _ (k1 _ _ (m1 2 _ rfl))).2, (Cw.below hw _ _ _ (k1 _ _ (m1 3 _ rfl))).2, (Cw.below hw _ _ _ (k1 _ _ (m1 4 _ rfl))).2, (Cw.below hw _ _ _ (k2 _ _ (m2 0 _ rfl))).2, (Cw.below hw _ _ _ (k2 _ _ (m2 1 _ rfl))).2, (Cw.below hw _ _ _ (k2 _ _ (m2 2 _ rfl))).2, (Cw.below hw _ _ _ (k2 _ _ (m2 3 _ rfl))).2, (Cw.below hw _ _ _ (k2 _ _ (m2 4 _ rfl))).2⟩
            have hc0 : ∀ V, Below wr.heap.size wr V → Calls Tryz.prog 19 #[.slice ad1 ld1 cd1, .slice ad2 ld2 cd2] V (Yes V) := fun V hV => by
              have hw := hbw.trans (hV.mono hbw.size)
              exact sameDirs_any _ _ _ V (d1.mono (Cw.below hw)) (d2.mono (Cw.below hw))
            have hc1 : ∀ V, Below wr.heap.size wr V → Calls Tryz.prog 20 #[.slice as1 ls1 cs1, .slice as2 ls2 cs2] V (Yes V) := fun V hV => by
              have hw := hbw.trans (hV.mono hbw.size)
              exact sameSels_any _ _ _ V (r1.mono (Cw.below hw)) (r2.mono (Cw.below hw))
            have HC := Lib.hid (And.intro hc0 hc1)
            have HS := Lib.hid hS
            have HW := Lib.hid hbw
            have s0 := HS.out wr.drew ⟨rfl, rfl, rfl, Nat.le_refl _, fun _ _ => rfl⟩
            have hj0 : (0 : Int) ≤ (j : Int) := Int.natCast_nonneg _
            have hj1 : (j : Int) < (d.frags.length : Int) := by omega
            clear k1 k2 hv m1 m2 hS hbw d1 d2 r1 r2 hc0 hc1
            go_upto_region 12 with (fail)
            go_cut [9, 10] (fun xv yv wx => ∃ X Y, xv = .pointer (some ⟨X, 0, none⟩) ∧ yv = .pointer (some ⟨Y, 0, none⟩) ∧ Below wr.heap.size wr wx ∧ Bl wx X #[str vn, str vo, str vd, .slice ad1 ld1 cd1, .slice as1 ls1 cs1] 74 ∧ Bl wx Y #[str vn, str vo, str vd, .slice ad2 ld2 cd2, .slice as2 ls2 cs2] 74)
            case first =>
              refine wp_region_late (S := fun V => V.cell? ⟨D1, 1, none⟩ = some (.slice (some ⟨T1, o1, none⟩) d.frags.length cap3) ∧ V.cell? ⟨D2, 1, none⟩ = some (.slice (some ⟨T2, o2, none⟩) d.frags.length cap4) ∧ V.cell? ⟨T1, o1 + j * 5, none⟩ = some (str vn) ∧ V.cell? ⟨T1, o1 + j * 5 + 1, none⟩ = some (str vo) ∧ V.cell? ⟨T1, o1 + j * 5 + 2, none⟩ = some (str vd) ∧ V.cell? ⟨T1, o1 + j * 5 + 3, none⟩ = some (.slice ad1 ld1 cd1) ∧ V.cell? ⟨T1, o1 + j * 5 + 4, none⟩ = some (.slice as1 ls1 cs1) ∧ V.cell? ⟨T2, o2 + j * 5, none⟩ = some (str vn) ∧ V.cell? ⟨T2, o2 + j * 5 + 1, none⟩ = some (str vo) ∧ V.cell? ⟨T2, o2 + j * 5 + 2, none⟩ = some (str vd) ∧ V.cell? ⟨T2, o2 + j * 5 + 3, none⟩ = some (.slice ad2 ld2 cd2) ∧ V.cell? ⟨T2, o2 + j * 5 + 4, none⟩ = some (.slice as2 ls2 cs2)) (late := fun _ => false) (by kernel_rfl) ?_
              refine wpAnyL_get (i := 0) (d := 94) (v := .pointer (some ⟨D1, 1, none⟩)) rfl rfl (by kernel_rfl) (by kernel_rfl) (by kernel_rfl) (by kernel_rfl) (by kernel_rfl) (fun _ _ _ h => h) rfl (fun w hS => by (try dsimp only at hS); go_simp) s0 ?_
              simp only [Act.put, List.setIfInBounds_toArray, List.set_cons_zero, List.set_cons_succ]
              refine wpAnyL_get (i := 1) (d := 95) (v := .slice (some ⟨T1, o1, none⟩) d.frags.length cap3) rfl rfl (by kernel_rfl) (by kernel_rfl) (by kernel_rfl) (by kernel_rfl) (by kernel_rfl) (fun _ _ _ h => h) rfl (fun w hS => by (try dsimp only at hS); go_simp) s0 ?_
              simp only [Act.put, List.setIfInBounds_toArray, List.set_cons_zero, List.set_cons_succ]
              refine wpAnyL_get (i := 2) (d := 96) (v := .int .i64 j) rfl rfl (by kernel_rfl) (by kernel_rfl) (by kernel_rfl) (by kernel_rfl) (by kernel_rfl) (fun _ _ _ h => h) rfl (fun w hS => by (try dsimp only at hS); go_simp) s0 ?_
              simp only [Act.put, List.setIfInBounds_toArray, List.set_cons_zero, List.set_cons_succ]
              refine wpAnyL_get (i := 3) (d := 97) (v := .pointer (some ⟨T1, o1 + j * 5, none⟩)) rfl rfl (by kernel_rfl) (by kernel_rfl) (by kernel_rfl) (by kernel_rfl) (by kernel_rfl) (fun _ _ _ h => h) rfl (fun w hS => by (try dsimp only at hS); go_simp) s0 ?_
              simp only [Act.put, List.setIfInBounds_toArray, List.set_cons_zero, List.set_cons_succ]
              refine wpAnyL_get (i := 4) (d := 98) (v := .agg #[str vn, str vo, str vd, .slice ad1 ld1 cd1, .slice as1 ls1 cs1]) rfl rfl (by kernel_rfl) (by kernel_rfl) (by kernel_rfl) (by kernel_rfl) (by kernel_rfl) (fun _ _ _ h => h) rfl (fun w hS => by (try dsimp only at hS); go_simp) s0 ?_
              simp only [Act.put, List.setIfInBounds_toArray, List.set_cons_zero, List.set_cons_succ]
              refine wpAnyL_get (i := 5) (d := 99) (v := .pointer (some ⟨D2, 1, none⟩)) rfl rfl (by kernel_rfl) (by kernel_rfl) (by kernel_rfl) (by kernel_rfl) (by kernel_rfl) (fun _ _ _ h => h) rfl (fun w hS => by (try dsimp only at hS); go_simp) s0 ?_
              simp only [Act.put, List.setIfInBounds_toArray, List.set_cons_zero, List.set_cons_succ]
              refine wpAnyL_get (i := 6) (d := 100) (v := .slice (some ⟨T2, o2, none⟩) d.frags.length cap4) rfl rfl (by kernel_rfl) (by kernel_rfl) (by kernel_rfl) (by kernel_rfl) (by kernel_rfl) (fun _ _ _ h => h) rfl (fun w hS => by (try dsimp only at hS); go_simp) s0 ?_
              simp only [Act.put, List.setIfInBounds_toArray, List.set_cons_zero, List.set_cons_succ]
              refine wpAnyL_get (i := 7) (d := 101) (v := .int .i64 j) rfl rfl (by kernel_rfl) (by kernel_rfl) (by kernel_rfl) (by kernel_rfl) (by kernel_rfl) (fun _ _ _ h => h) rfl (fun w hS => by (try dsimp only at hS); go_simp) s0 ?_
              simp only [Act.put, List.setIfInBounds_toArray, List.set_cons_zero, List.set_cons_succ]
              refine wpAnyL_get (i := 8) (d := 102) (v := .pointer (some ⟨T2, o2 + j * 5, none⟩)) rfl rfl (by kernel_rfl) (by kernel_rfl) (by kernel_rfl) (by kernel_rfl) (by kernel_rfl) (fun _ _ _ h => h) rfl (fun w hS => by (try dsimp only at hS); go_simp) s0 ?_
              simp only [Act.put, List.setIfInBounds_toArray, List.set_cons_zero, List.set_cons_succ]
              refine wpAnyL_get (i := 9) (d := 103) (v := .agg #[str vn, str vo, str vd, .slice ad2 ld2 cd2, .slice as2 ls2 cs2]) rfl rfl (by kernel_rfl) (by kernel_rfl) (by kernel_rfl) (by kernel_rfl) (by kernel_rfl) (fun _ _ _ h => h) rfl (fun w hS => by (try dsimp only at hS); go_simp) s0 ?_
              simp only [Act.put, List.setIfInBounds_toArray, List.set_cons_zero, List.set_cons_succ]
              clear s0
              refine wpAnyL_all (rs := [10, 11]) (by kernel_rfl) (by simp) ?_
              intro i hi
              simp only [List.mem_cons, List.not_mem_nil, or_false] at hi
              rcases hi with rfl | rfl
              · obtain ⟨V1, hV1⟩ : ∃ V1, V1 = wr.drew.alloc (.cells #[str [], str [], str [], .slice none 0 0, .slice none 0 0] 74) := ⟨_, rfl⟩
                obtain ⟨X, hX⟩ : ∃ b, b = wr.heap.size := ⟨_, rfl⟩
                have b1 : Bl V1 X #[str [], str [], str [], .slice none 0 0, .slice none 0 0] 74 := by rw [hV1, hX]; exact Bl.new wr.drew _ _
                have w1 : Below wr.heap.size wr V1 := by rw [hV1]; exact (Below.drew (.refl _ _)).alloc (Nat.le_refl _) _
                have s1 := HS.out V1 w1
                refine wpOpL_get (d := 9) rfl rfl rfl (v := .pointer (some ⟨X, 0, none⟩)) (w' := V1) (by rw [hV1, hX]; simp [execOp, go_sem]) ⟨fun _ => s1, ?_⟩
                simp only [Act.put, List.setIfInBounds_toArray, List.set_cons_zero, List.set_cons_succ]
                obtain ⟨V2, hV2⟩ : ∃ V2, V2 = V1.alloc (.cells #[str [], str [], str [], .slice none 0 0, .slice none 0 0] 74) := ⟨_, rfl⟩
                obtain ⟨Y, hY⟩ : ∃ b, b = V1.heap.size := ⟨_, rfl⟩
                have bY : Bl V2 Y #[str [], str [], str [], .slice none 0 0, .slice none 0 0] 74 := by rw [hV2, hY]; exact Bl.new V1 _ _
                have bX : Bl V2 X #[str [], str [], str [], .slice none 0 0, .slice none 0 0] 74 := by rw [hV2]; exact b1.alloc _
                have bW : Below wr.heap.size wr V2 := by rw [hV2]; exact w1.alloc w1.size _
                have s2 := HS.out V2 bW
                refine wpAnyL_one (i := 11) (by kernel_rfl) (wpOpL_get (d := 10) rfl rfl rfl (v := .pointer (some ⟨Y, 0, none⟩)) (w' := V2) (by rw [hV2, hY]; simp [execOp, go_sem]) ⟨fun _ => s2, ?_⟩)
                simp only [Act.put, List.setIfInBounds_toArray, List.set_cons_zero, List.set_cons_succ]
                have hlt1 := b1.lt
                have hsz1 := w1.size
                clear hV1 hV2 s1 s2
                have x0 := bX.cell 0
                have x1 := bX.cell 1
                have x2 := bX.cell 2
                have x3 := bX.cell 3
                have x4 := bX.cell 4
                have fx : ∀ o, V2.frozen? ⟨X, o, none⟩ = false := bX.free
                obtain ⟨V3, hV3⟩ : ∃ V3, V3 = (((((V2.setCell ⟨X, 0, none⟩ (str vn)).setCell ⟨X, 1, none⟩ (str vo)).setCell ⟨X, 2, none⟩ (str vd)).setCell ⟨X, 3, none⟩ (.slice ad1 ld1 cd1)).setCell ⟨X, 4, none⟩ (.slice as1 ls1 cs1)) := ⟨_, rfl⟩
                have hF1 : Fr [X] V2 [X] V3 := by rw [hV3]; exact (((((Fr.refl [X] V2).set (.inl (by simp)) _).set (.inl (by simp)) _).set (.inl (by simp)) _).set (.inl (by simp)) _).set (.inl (by simp)) _
                have hB3 : Below wr.heap.size wr V3 := bW.trans (hF1.to_below bW.size (by simp; omega))
                refine wpAnyL_one (i := 12) (by kernel_rfl) (wpOpL_none rfl rfl rfl (w' := V3) (by rw [hV3]; simp [execOp, go_sem, Act.eval, x0, x1, x2, x3, x4, fx]) ⟨fun _ => HS.out V3 hB3, ?_⟩)
                have bX3 := (((((bX.set 0 (str vn)).set 1 (str vo)).set 2 (str vd)).set 3 (.slice ad1 ld1 cd1)).set 4 (.slice as1 ls1 cs1))
                simp only [List.setIfInBounds_toArray, List.set_cons_succ, List.set_cons_zero] at bX3
                rw [← hV3] at bX3
                have bY3 := (hF1.bl bY (by simp; omega)).1
                clear hV3 x0 x1 x2 x3 x4 fx bX bY
                have y0 := bY3.cell 0
                have y1 := bY3.cell 1
                have y2 := bY3.cell 2
                have y3 := bY3.cell 3
                have y4 := bY3.cell 4
                have fy : ∀ o, V3.frozen? ⟨Y, o, none⟩ = false := bY3.free
                obtain ⟨V4, hV4⟩ : ∃ V4, V4 = (((((V3.setCell ⟨Y, 0, none⟩ (str vn)).setCell ⟨Y, 1, none⟩ (str vo)).setCell ⟨Y, 2, none⟩ (str vd)).setCell ⟨Y, 3, none⟩ (.slice ad2 ld2 cd2)).setCell ⟨Y, 4, none⟩ (.slice as2 ls2 cs2)) := ⟨_, rfl⟩
                have hF2 : Fr [Y] V3 [Y] V4 := by rw [hV4]; exact (((((Fr.refl [Y] V3).set (.inl (by simp)) _).set (.inl (by simp)) _).set (.inl (by simp)) _).set (.inl (by simp)) _).set (.inl (by simp)) _
                have hB4 : Below wr.heap.size wr V4 := hB3.trans (hF2.to_below hB3.size (by simp; omega))
                refine wpAnyL_one (i := 13) (by kernel_rfl) (wpOpL_none rfl rfl rfl (w' := V4) (by rw [hV4]; simp [execOp, go_sem, Act.eval, y0, y1, y2, y3, y4, fy]) ⟨fun _ => HS.out V4 hB4, ?_⟩)
                have bY4 := (((((bY3.set 0 (str vn)).set 1 (str vo)).set 2 (str vd)).set 3 (.slice ad2 ld2 cd2)).set 4 (.slice as2 ls2 cs2))
                simp only [List.setIfInBounds_toArray, List.set_cons_succ, List.set_cons_zero] at bY4
                rw [← hV4] at bY4
                have bX4 := (hF2.bl bX3 (by simp; omega)).1
                clear hV4 y0 y1 y2 y3 y4 fy bX3
                refine wpAnyL_done (by kernel_rfl) ?_ _
                go_wp2_with fail
                go_meet
                exact ⟨X, Y, rfl, rfl, hB4, bX4, bY4⟩
              · obtain ⟨V1, hV1⟩ : ∃ V1, V1 = wr.drew.alloc (.cells #[str [], str [], str [], .slice none 0 0, .slice none 0 0] 74) := ⟨_, rfl⟩
                obtain ⟨Y, hY⟩ : ∃ b, b = wr.heap.size := ⟨_, rfl⟩
                have b1 : Bl V1 Y #[str [], str [], str [], .slice none 0 0, .slice none 0 0] 74 := by rw [hV1, hY]; exact Bl.new wr.drew _ _
                have w1 : Below wr.heap.size wr V1 := by rw [hV1]; exact (Below.drew (.refl _ _)).alloc (Nat.le_refl _) _
                have s1 := HS.out V1 w1
                refine wpOpL_get (d := 10) rfl rfl rfl (v := .pointer (some ⟨Y, 0, none⟩)) (w' := V1) (by rw [hV1, hY]; simp [execOp, go_sem]) ⟨fun _ => s1, ?_⟩
                simp only [Act.put, List.setIfInBounds_toArray, List.set_cons_zero, List.set_cons_succ]
                obtain ⟨V2, hV2⟩ : ∃ V2, V2 = V1.alloc (.cells #[str [], str [], str [], .slice none 0 0, .slice none 0 0] 74) := ⟨_, rfl⟩
                obtain ⟨X, hX⟩ : ∃ b, b = V1.heap.size := ⟨_, rfl⟩
                have bX : Bl V2 X #[str [], str [], str [], .slice none 0 0, .slice none 0 0] 74 := by rw [hV2, hX]; exact Bl.new V1 _ _
                have bY : Bl V2 Y #[str [], str [], str [], .slice none 0 0, .slice none 0 0] 74 := by rw [hV2]; exact b1.alloc _
                have bW : Below wr.heap.size wr V2 := by rw [hV2]; exact w1.alloc w1.size _
                have s2 := HS.out V2 bW
                refine wpAnyL_one (i := 10) (by kernel_rfl) (wpOpL_get (d := 9) rfl rfl rfl (v := .pointer (some ⟨X, 0, none⟩)) (w' := V2) (by rw [hV2, hX]; simp [execOp, go_sem]) ⟨fun _ => s2, ?_⟩)
                simp only [Act.put, List.setIfInBounds_toArray, List.set_cons_zero, List.set_cons_succ]
                have hlt1 := b1.lt
                have hsz1 := w1.size
                clear hV1 hV2 s1 s2
                have x0 := bX.cell 0
                have x1 := bX.cell 1
                have x2 := bX.cell 2
                have x3 := bX.cell 3
                have x4 := bX.cell 4
                have fx : ∀ o, V2.frozen? ⟨X, o, none⟩ = false := bX.free
                obtain ⟨V3, hV3⟩ : ∃ V3, V3 = (((((V2.setCell ⟨X, 0, none⟩ (str vn)).setCell ⟨X, 1, none⟩ (str vo)).setCell ⟨X, 2, none⟩ (str vd)).setCell ⟨X, 3, none⟩ (.slice ad1 ld1 cd1)).setCell ⟨X, 4, none⟩ (.slice as1 ls1 cs1)) := ⟨_, rfl⟩
                have hF1 : Fr [X] V2 [X] V3 := by rw [hV3]; exact (((((Fr.refl [X] V2).set (.inl (by simp)) _).set (.inl (by simp)) _).set (.inl (by simp)) _).set (.inl (by simp)) _).set (.inl (by simp)) _
                have hB3 : Below wr.heap.size wr V3 := bW.trans (hF1.to_below bW.size (by simp; omega))
                refine wpAnyL_one (i := 12) (by kernel_rfl) (wpOpL_none rfl rfl rfl (w' := V3) (by rw [hV3]; simp [execOp, go_sem, Act.eval, x0, x1, x2, x3, x4, fx]) ⟨fun _ => HS.out V3 hB3, ?_⟩)
                have bX3 := (((((bX.set 0 (str vn)).set 1 (str vo)).set 2 (str vd)).set 3 (.slice ad1 ld1 cd1)).set 4 (.slice as1 ls1 cs1))
                simp only [List.setIfInBounds_toArray, List.set_cons_succ, List.set_cons_zero] at bX3
                rw [← hV3] at bX3
                have bY3 := (hF1.bl bY (by simp; omega)).1
                clear hV3 x0 x1 x2 x3 x4 fx bX bY
                have y0 := bY3.cell 0
                have y1 := bY3.cell 1
                have y2 := bY3.cell 2
                have y3 := bY3.cell 3
                have y4 := bY3.cell 4
                have fy : ∀ o, V3.frozen? ⟨Y, o, none⟩ = false := bY3.free
                obtain ⟨V4, hV4⟩ : ∃ V4, V4 = (((((V3.setCell ⟨Y, 0, none⟩ (str vn)).setCell ⟨Y, 1, none⟩ (str vo)).setCell ⟨Y, 2, none⟩ (str vd)).setCell ⟨Y, 3, none⟩ (.slice ad2 ld2 cd2)).setCell ⟨Y, 4, none⟩ (.slice as2 ls2 cs2)) := ⟨_, rfl⟩
                have hF2 : Fr [Y] V3 [Y] V4 := by rw [hV4]; exact (((((Fr.refl [Y] V3).set (.inl (by simp)) _).set (.inl (by simp)) _).set (.inl (by simp)) _).set (.inl (by simp)) _).set (.inl (by simp)) _
                have hB4 : Below wr.heap.size wr V4 := hB3.trans (hF2.to_below hB3.size (by simp; omega))
                refine wpAnyL_one (i := 13) (by kernel_rfl) (wpOpL_none rfl rfl rfl (w' := V4) (by rw [hV4]; simp [execOp, go_sem, Act.eval, y0, y1, y2, y3, y4, fy]) ⟨fun _ => HS.out V4 hB4, ?_⟩)
                have bY4 := (((((bY3.set 0 (str vn)).set 1 (str vo)).set 2 (str vd)).set 3 (.slice ad2 ld2 cd2)).set 4 (.slice as2 ls2 cs2))
                simp only [List.setIfInBounds_toArray, List.set_cons_succ, List.set_cons_zero] at bY4
                rw [← hV4] at bY4
                have bX4 := (hF2.bl bX3 (by simp; omega)).1
                clear hV4 y0 y1 y2 y3 y4 fy bX3
                refine wpAnyL_done (by kernel_rfl) ?_ _
                go_wp2_with fail
                go_meet
                exact ⟨X, Y, rfl, rfl, hB4, bX4, bY4⟩
            case rest =>
              obtain ⟨X, Y, rfl, rfl, hB4, bX, bY⟩ := hcut
              have x0 := bX.cell 0
              have y0 := bY.cell 0
              have x1 := bX.cell 1
              have y1 := bY.cell 1
              have x2 := bX.cell 2
              have y2 := bY.cell 2
              have x3 := bX.cell 3
              have y3 := bY.cell 3
              have x4 := bX.cell 4
              have y4 := bY.cell 4
              have H4 := Lib.hid (And.intro hB4 (And.intro bX bY))
              clear hB4 bX bY s0
              go_wp2_with (first
                | (go_at_call 19
                   refine (HC.out.1 _ H4.out.1).mono ?_
                   rintro e v0 ⟨rfl, hb⟩
                   have bX := H4.out.2.1.below hb H4.out.2.1.lt
                   have bY := H4.out.2.2.below hb H4.out.2.2.lt
                   have hB := H4.out.1.trans (hb.mono H4.out.1.size)
                   have x0 := bX.cell 0
                   have y0 := bY.cell 0
                   have x1 := bX.cell 1
                   have y1 := bY.cell 1
                   have x2 := bX.cell 2
                   have y2 := bY.cell 2
                   have x3 := bX.cell 3
                   have y3 := bY.cell 3
                   have x4 := bX.cell 4
                   have y4 := bY.cell 4
                   have G0 := Lib.hid (And.intro hB (And.intro bX bY))
                   clear hb bX bY hB)
                | (go_at_call 20
                   refine (HC.out.2 _ G0.out.1).mono ?_
                   rintro e v1 ⟨rfl, hb⟩
                   have bX := G0.out.2.1.below hb G0.out.2.1.lt
                   have bY := G0.out.2.2.below hb G0.out.2.2.lt
                   have hB := G0.out.1.trans (hb.mono G0.out.1.size)
                   have x0 := bX.cell 0
                   have y0 := bY.cell 0
                   have x1 := bX.cell 1
                   have y1 := bY.cell 1
                   have x2 := bX.cell 2
                   have y2 := bY.cell 2
                   have x3 := bX.cell 3
                   have y3 := bY.cell 3
                   have x4 := bX.cell 4
                   have y4 := bY.cell 4
                   have G1 := Lib.hid (And.intro hB (And.intro bX bY))
                   clear hb bX bY hB))
              go_roundg k
              case measure => omega
              case rel => exact ⟨j + 1, by omega, by go_num, HB.out.trans (G1.out.1.mono HB.out.size)⟩
      | succ k =>
        obtain ⟨T1, o1, rfl, k1⟩ := H.out.1 (by omega)
        obtain ⟨T2, o2, rfl, k2⟩ := H.out.2.1 (by omega)
        obtain ⟨v, hv⟩ : ∃ v, d.ops[j]? = some v := ⟨d.ops[j]'(by omega), List.getElem?_eq_getElem (by omega)⟩
        obtain ⟨vk, vn, vd, vv, vs, vl⟩ := v
        obtain ⟨y1, q1, m1⟩ := IosAt.get _ _ H.out.2.2.1 j _ hv
        obtain ⟨y2, q2, m2⟩ := IosAt.get _ _ H.out.2.2.2.1 j _ hv
        obtain ⟨sv1, sd1, sl1, rfl, e1, d1, r1⟩ := q1
        obtain ⟨av1, lv1, cv1, rfl⟩ := e1.shape
        obtain ⟨ad1, ld1, cd1, rfl⟩ := d1.shape
        obtain ⟨as1, ls1, cs1, rfl⟩ := r1.shape
        obtain ⟨sv2, sd2, sl2, rfl, e2, d2, r2⟩ := q2
        obtain ⟨av2, lv2, cv2, rfl⟩ := e2.shape
        obtain ⟨ad2, ld2, cd2, rfl⟩ := d2.shape
        obtain ⟨as2, ls2, cs2, rfl⟩ := r2.shape
        have hbw : Below w.heap.size w wr := HB.out
        have hS : ∀ V, Below wr.heap.size wr V → V.cell? ⟨D1, 0, none⟩ = some (.slice (some ⟨T1, o1, none⟩) d.ops.length cap1) ∧ V.cell? ⟨D2, 0, none⟩ = some (.slice (some ⟨T2, o2, none⟩) d.ops.length cap2) ∧ V.cell? ⟨T1, o1 + j * 6, none⟩ = some (numV vk) ∧ V.cell? ⟨T1, o1 + j * 6 + 1, none⟩ = some (str vn) ∧ V.cell? ⟨T1, o1 + j * 6 + 2, none⟩ = some (str vd) ∧ V.cell? ⟨T1, o1 + j * 6 + 3, none⟩ = some (.slice av1 lv1 cv1) ∧ V.cell? ⟨T1, o1 + j * 6 + 4, none⟩ = some (.slice ad1 ld1 cd1) ∧ V.cell? ⟨T1, o1 + j * 6 + 5, none⟩ = some (.slice as1 ls1 cs1) ∧ V.cell? ⟨T2, o2 + j * 6, none⟩ = some (numV vk) ∧ V.cell? ⟨T2, o2 + j * 6 + 1, none⟩ = some (str vn) ∧ V.cell? ⟨T2, o2 + j * 6 + 2, none⟩ = some (str vd) ∧ V.cell? ⟨T2, o2 + j * 6 + 3, none⟩ = some (.slice av2 lv2 cv2) ∧ V.cell? ⟨T2, o2 + j * 6 + 4, none⟩ = some (.slice ad2 ld2 cd2) ∧ V.cell? ⟨T2, o2 + j * 6 + 5, none⟩ = some (.slice as2 ls2 cs2) := fun V hV => by
          have hw := hbw.trans (hV.mono hbw.size)
          exact ⟨(HD.out.1.below hw HD.out.1.lt).cell 0, (HD.out.2.below hw HD.out.2.lt).cell 0, (Cw.below hw _ _ _ (k1 _ _ (m1 0 _ rfl))).2, (Cw.below hw _ _ _ (k1 _ _ (m1 1 _ rfl))).2, (Cw.below hw _ _ _ (k1 _ _ (m1 2 _ rfl))).2, (Cw.below hw _ _ _ (k1 _ _ (m1 3 _ rfl))).2, (Cw.below hw _ _ _ (k1 _ _ (m1 4 _ rfl))).2, (Cw.below hw _ _ _ (k1 _ _ (m1 5 _ rfl))).2, (Cw.below hw _ _ _ (k2 _ _ (m2 0 _ rfl))).2, (Cw.below hw _ _ _ (k2 _ _ (m2 1 _ rfl))).2, (Cw.below hw _ _ _ (k2 _ _ (m2 2 _ rfl))).2, (Cw.below hw _ _ _ (k2 _ _ (m2 3 _ rfl))).2, (Cw.below hw _ _ _ (k2 _ _ (m2 4 _ rfl))).2, (Cw.below hw _ _ _ (k2 _ _ (m2 5 _ rfl))).2⟩
        have hc0 : ∀ V, Below wr.heap.size wr V → Calls Tryz.prog 18 #[.slice av1 lv1 cv1, .slice av2 lv2 cv2] V (Yes V) := fun V hV => by
          have hw := hbw.trans (hV.mono hbw.size)
          exact sameInputs_any _ _ _ V (e1.mono (Cw.below hw)) (e2.mono (Cw.below hw))
        have hc1 : ∀ V, Below wr.heap.size wr V → Calls Tryz.prog 19 #[.slice ad1 ld1 cd1, .slice ad2 ld2 cd2] V (Yes V) := fun V hV => by
          have hw := hbw.trans (hV.mono hbw.size)
          exact sameDirs_any _ _ _ V (d1.mono (Cw.below hw)) (d2.mono (Cw.below hw))
        have hc2 : ∀ V, Below wr.heap.size wr V → Calls Tryz.prog 20 #[.slice as1 ls1 cs1, .slice as2 ls2 cs2] V (Yes V) := fun V hV => by
          have hw := hbw.trans (hV.mono hbw.size)
          exact sameSels_any _ _ _ V (r1.mono (Cw.below hw)) (r2.mono (Cw.below hw))
        have HC := Lib.hid (And.intro hc0 (And.intro hc1 hc2))
        have HS := Lib.hid hS
        have HW := Lib.hid hbw
        have s0 := HS.out wr.drew ⟨rfl, rfl, rfl, Nat.le_refl _, fun _ _ => rfl⟩
        have hj0 : (0 : Int) ≤ (j : Int) := Int.natCast_nonneg _
        have hj1 : (j : Int) < (d.ops.length : Int) := by omega
        clear k1 k2 hv m1 m2 hS hbw e1 e2 d1 d2 r1 r2 hc0 hc1 hc2
        go_upto_region 6 with (fail)
        go_cut [6, 7] (fun xv yv wx => ∃ X Y, xv = .pointer (some ⟨X, 0, none⟩) ∧ yv = .pointer (some ⟨Y, 0, none⟩) ∧ Below wr.heap.size wr wx ∧ Bl wx X #[numV vk, str vn, str vd, .slice av1 lv1 cv1, .slice ad1 ld1 cd1, .slice as1 ls1 cs1] 65 ∧ Bl wx Y #[numV vk, str vn, str vd, .slice av2 lv2 cv2, .slice ad2 ld2 cd2, .slice as2 ls2 cs2] 65)
        case first =>
          refine wp_region_late (S := fun V => V.cell? ⟨D1, 0, none⟩ = some (.slice (some ⟨T1, o1, none⟩) d.ops.length cap1) ∧ V.cell? ⟨D2, 0, none⟩ = some (.slice (some ⟨T2, o2, none⟩) d.ops.length cap2) ∧ V.cell? ⟨T1, o1 + j * 6, none⟩ = some (numV vk) ∧ V.cell? ⟨T1, o1 + j * 6 + 1, none⟩ = some (str vn) ∧ V.cell? ⟨T1, o1 + j * 6 + 2, none⟩ = some (str vd) ∧ V.cell? ⟨T1, o1 + j * 6 + 3, none⟩ = some (.slice av1 lv1 cv1) ∧ V.cell? ⟨T1, o1 + j * 6 + 4, none⟩ = some (.slice ad1 ld1 cd1) ∧ V.cell? ⟨T1, o1 + j * 6 + 5, none⟩ = some (.slice as1 ls1 cs1) ∧ V.cell? ⟨T2, o2 + j * 6, none⟩ = some (numV vk) ∧ V.cell? ⟨T2, o2 + j * 6 + 1, none⟩ = some (str vn) ∧ V.cell? ⟨T2, o2 + j * 6 + 2, none⟩ = some (str vd) ∧ V.cell? ⟨T2, o2 + j * 6 + 3, none⟩ = some (.slice av2 lv2 cv2) ∧ V.cell? ⟨T2, o2 + j * 6 + 4, none⟩ = some (.slice ad2 ld2 cd2) ∧ V.cell? ⟨T2, o2 + j * 6 + 5, none⟩ = some (.slice as2 ls2 cs2)) (late := fun _ => false) (by kernel_rfl) ?_
          refine wpAnyL_get (i := 0) (d := 34) (v := .pointer (some ⟨D1, 0, none⟩)) rfl rfl (by kernel_rfl) (by kernel_rfl) (by kernel_rfl) (by kernel_rfl) (by kernel_rfl) (fun _ _ _ h => h) rfl (fun w hS => by (try dsimp only at hS); go_simp) s0 ?_
          simp only [Act.put, List.setIfInBounds_toArray, List.set_cons_zero, List.set_cons_succ]
          refine wpAnyL_get (i := 1) (d := 35) (v := .slice (some ⟨T1, o1, none⟩) d.ops.length cap1) rfl rfl (by kernel_rfl) (by kernel_rfl) (by kernel_rfl) (by kernel_rfl) (by kernel_rfl) (fun _ _ _ h => h) rfl (fun w hS => by (try dsimp only at hS); go_simp) s0 ?_
          simp only [Act.put, List.setIfInBounds_toArray, List.set_cons_zero, List.set_cons_succ]
          refine wpAnyL_get (i := 2) (d := 36) (v := .int .i64 j) rfl rfl (by kernel_rfl) (by kernel_rfl) (by kernel_rfl) (by kernel_rfl) (by kernel_rfl) (fun _ _ _ h => h) rfl (fun w hS => by (try dsimp only at hS); go_simp) s0 ?_
          simp only [Act.put, List.setIfInBounds_toArray, List.set_cons_zero, List.set_cons_succ]
          refine wpAnyL_get (i := 3) (d := 37) (v := .pointer (some ⟨T1, o1 + j * 6, none⟩)) rfl rfl (by kernel_rfl) (by kernel_rfl) (by kernel_rfl) (by kernel_rfl) (by kernel_rfl) (fun _ _ _ h => h) rfl (fun w hS => by (try dsimp only at hS); go_simp) s0 ?_
          simp only [Act.put, List.setIfInBounds_toArray, List.set_cons_zero, List.set_cons_succ]
          refine wpAnyL_get (i := 4) (d := 38) (v := .agg #[numV vk, str vn, str vd, .slice av1 lv1 cv1, .slice ad1 ld1 cd1, .slice as1 ls1 cs1]) rfl rfl (by kernel_rfl) (by kernel_rfl) (by kernel_rfl) (by kernel_rfl) (by kernel_rfl) (fun _ _ _ h => h) rfl (fun w hS => by (try dsimp only at hS); go_simp) s0 ?_
          simp only [Act.put, List.setIfInBounds_toArray, List.set_cons_zero, List.set_cons_succ]
          refine wpAnyL_get (i := 5) (d := 39) (v := .pointer (some ⟨D2, 0, none⟩)) rfl rfl (by kernel_rfl) (by kernel_rfl) (by kernel_rfl) (by kernel_rfl) (by kernel_rfl) (fun _ _ _ h => h) rfl (fun w hS => by (try dsimp only at hS); go_simp) s0 ?_
          simp only [Act.put, List.setIfInBounds_toArray, List.set_cons_zero, List.set_cons_succ]
          refine wpAnyL_get (i := 6) (d := 40) (v := .slice (some ⟨T2, o2, none⟩) d.ops.length cap2) rfl rfl (by kernel_rfl) (by kernel_rfl) (by kernel_rfl) (by kernel_rfl) (by kernel_rfl) (fun _ _ _ h => h) rfl (fun w hS => by (try dsimp only at hS); go_simp) s0 ?_
          simp only [Act.put, List.setIfInBounds_toArray, List.set_cons_zero, List.set_cons_succ]
          refine wpAnyL_get (i := 7) (d := 41) (v := .int .i64 j) rfl rfl (by kernel_rfl) (by kernel_rfl) (by kernel_rfl) (by kernel_rfl) (by kernel_rfl) (fun _ _ _ h => h) rfl (fun w hS => by (try dsimp only at hS); go_simp) s0 ?_
          simp only [Act.put, List.setIfInBounds_toArray, List.set_cons_zero, List.set_cons_succ]
          refine wpAnyL_get (i := 8) (d := 42) (v := .pointer (some ⟨T2, o2 + j * 6, none⟩)) rfl rfl (by kernel_rfl) (by kernel_rfl) (by kernel_rfl) (by kernel_rfl) (by kernel_rfl) (fun _ _ _ h => h) rfl (fun w hS => by (try dsimp only at hS); go_simp) s0 ?_
          simp only [Act.put, List.setIfInBounds_toArray, List.set_cons_zero, List.set_cons_succ]
          refine wpAnyL_get (i := 9) (d := 43) (v := .agg #[numV vk, str vn, str vd, .slice av2 lv2 cv2, .slice ad2 ld2 cd2, .slice as2 ls2 cs2]) rfl rfl (by kernel_rfl) (by kernel_rfl) (by kernel_rfl) (by kernel_rfl) (by kernel_rfl) (fun _ _ _ h => h) rfl (fun w hS => by (try dsimp only at hS); go_simp) s0 ?_
          simp only [Act.put, List.setIfInBounds_toArray, List.set_cons_zero, List.set_cons_succ]
          clear s0
          refine wpAnyL_all (rs := [10, 11]) (by kernel_rfl) (by simp) ?_
          intro i hi
          simp only [List.mem_cons, List.not_mem_nil, or_false] at hi
          rcases hi with rfl | rfl
          · obtain ⟨V1, hV1⟩ : ∃ V1, V1 = wr.drew.alloc (.cells #[numV 0, str [], str [], .slice none 0 0, .slice none 0 0, .slice none 0 0] 65) := ⟨_, rfl⟩
            obtain ⟨X, hX⟩ : ∃ b, b = wr.heap.size := ⟨_, rfl⟩
            have b1 : Bl V1 X #[numV 0, str [], str [], .slice none 0 0, .slice none 0 0, .slice none 0 0] 65 := by rw [hV1, hX]; exact Bl.new wr.drew _ _
            have w1 : Below wr.heap.size wr V1 := by rw [hV1]; exact (Below.drew (.refl _ _)).alloc (Nat.le_refl _) _
            have s1 := HS.out V1 w1
            refine wpOpL_get (d := 6) rfl rfl rfl (v := .pointer (some ⟨X, 0, none⟩)) (w' := V1) (by rw [hV1, hX]; simp [execOp, go_sem]) ⟨fun _ => s1, ?_⟩
            simp only [Act.put, List.setIfInBounds_toArray, List.set_cons_zero, List.set_cons_succ]
            obtain ⟨V2, hV2⟩ : ∃ V2, V2 = V1.alloc (.cells #[numV 0, str [], str [], .slice none 0 0, .slice none 0 0, .slice none 0 0] 65) := ⟨_, rfl⟩
            obtain ⟨Y, hY⟩ : ∃ b, b = V1.heap.size := ⟨_, rfl⟩
            have bY : Bl V2 Y #[numV 0, str [], str [], .slice none 0 0, .slice none 0 0, .slice none 0 0] 65 := by rw [hV2, hY]; exact Bl.new V1 _ _
            have bX : Bl V2 X #[numV 0, str [], str [], .slice none 0 0, .slice none 0 0, .slice none 0 0] 65 := by rw [hV2]; exact b1.alloc _
            have bW : Below wr.heap.size wr V2 := by rw [hV2]; exact w1.alloc w1.size _
            have s2 := HS.out V2 bW
            refine wpAnyL_one (i := 11) (by kernel_rfl) (wpOpL_get (d := 7) rfl rfl rfl (v := .pointer (some ⟨Y, 0, none⟩)) (w' := V2) (by rw [hV2, hY]; simp [execOp, go_sem]) ⟨fun _ => s2, ?_⟩)
            simp only [Act.put, List.setIfInBounds_toArray, List.set_cons_zero, List.set_cons_succ]
            have hlt1 := b1.lt
            have hsz1 := w1.size
            clear hV1 hV2 s1 s2
            have x0 := bX.cell 0
            have x1 := bX.cell 1
            have x2 := bX.cell 2
            have x3 := bX.cell 3
            have x4 := bX.cell 4
            have x5 := bX.cell 5
            have fx : ∀ o, V2.frozen? ⟨X, o, none⟩ = false := bX.free
            obtain ⟨V3, hV3⟩ : ∃ V3, V3 = ((((((V2.setCell ⟨X, 0, none⟩ (numV vk)).setCell ⟨X, 1, none⟩ (str vn)).setCell ⟨X, 2, none⟩ (str vd)).setCell ⟨X, 3, none⟩ (.slice av1 lv1 cv1)).setCell ⟨X, 4, none⟩ (.slice ad1 ld1 cd1)).setCell ⟨X, 5, none⟩ (.slice as1 ls1 cs1)) := ⟨_, rfl⟩
            have hF1 : Fr [X] V2 [X] V3 := by rw [hV3]; exact ((((((Fr.refl [X] V2).set (.inl (by simp)) _).set (.inl (by simp)) _).set (.inl (by simp)) _).set (.inl (by simp)) _).set (.inl (by simp)) _).set (.inl (by simp)) _
            have hB3 : Below wr.heap.size wr V3 := bW.trans (hF1.to_below bW.size (by simp; omega))
            refine wpAnyL_one (i := 12) (by kernel_rfl) (wpOpL_none rfl rfl rfl (w' := V3) (by rw [hV3]; simp [execOp, go_sem, Act.eval, x0, x1, x2, x3, x4, x5, fx]) ⟨fun _ => HS.out V3 hB3, ?_⟩)
            have bX3 := ((((((bX.set 0 (numV vk)).set 1 (str vn)).set 2 (str vd)).set 3 (.slice av1 lv1 cv1)).set 4 (.slice ad1 ld1 cd1)).set 5 (.slice as1 ls1 cs1))
            simp only [List.setIfInBounds_toArray, List.set_cons_succ, List.set_cons_zero] at bX3
            rw [← hV3] at bX3
            have bY3 := (hF1.bl bY (by simp; omega)).1
            clear hV3 x0 x1 x2 x3 x4 x5 fx bX bY
            have y0 := bY3.cell 0
            have y1 := bY3.cell 1
            have y2 := bY3.cell 2
            have y3 := bY3.cell 3
            have y4 := bY3.cell 4
            have y5 := bY3.cell 5
            have fy : ∀ o, V3.frozen? ⟨Y, o, none⟩ = false := bY3.free
            obtain ⟨V4, hV4⟩ : ∃ V4, V4 = ((((((V3.setCell ⟨Y, 0, none⟩ (numV vk)).setCell ⟨Y, 1, none⟩ (str vn)).setCell ⟨Y, 2, none⟩ (str vd)).setCell ⟨Y, 3, none⟩ (.slice av2 lv2 cv2)).setCell ⟨Y, 4, none⟩ (.slice ad2 ld2 cd2)).setCell ⟨Y, 5, none⟩ (.slice as2 ls2 cs2)) := ⟨_, rfl⟩
            have hF2 : Fr [Y] V3 [Y] V4 := by rw [hV4]; exact ((((((Fr.refl [Y] V3).set (.inl (by simp)) _).set (.inl (by simp)) _).set (.inl (by simp)) _).set (.inl (by simp)) _).set (.inl (by simp)) _).set (.inl (by simp)) _
            have hB4 : Below wr.heap.size wr V4 := hB3.trans (hF2.to_below hB3.size (by simp; omega))
            refine wpAnyL_one (i := 13) (by kernel_rfl) (wpOpL_none rfl rfl rfl (w' := V4) (by rw [hV4]; simp [execOp, go_sem, Act.eval, y0, y1, y2, y3, y4, y5, fy]) ⟨fun _ => HS.out V4 hB4, ?_⟩)
            have bY4 := ((((((bY3.set 0 (numV vk)).set 1 (str vn)).set 2 (str vd)).set 3 (.slice av2 lv2 cv2)).set 4 (.slice ad2 ld2 cd2)).set 5 (.slice as2 ls2 cs2))
            simp only [List.setIfInBounds_toArray, List.set_cons_succ, List.set_cons_zero] at bY4
            rw [← hV4] at bY4
            have bX4 := (hF2.bl bX3 (by simp; omega)).1
            clear hV4 y0 y1 y2 y3 y4 y5 fy bX3
            refine wpAnyL_done (by kernel_rfl) ?_ _
            go_wp2_with fail
            go_meet
            exact ⟨X, Y, rfl, rfl, hB4, bX4, bY4⟩
          · obtain ⟨V1, hV1⟩ : ∃ V1, V1 = wr.drew.alloc (.cells #[numV 0, str [], str [], .slice none 0 0, .slice none 0 0, .slice none 0 0] 65) := ⟨_, rfl⟩
            obtain ⟨Y, hY⟩ : ∃ b, b = wr.heap.size := ⟨_, rfl⟩
            have b1 : Bl V1 Y #[numV 0, str [], str [], .slice none 0 0, .slice none 0 0, .slice none 0 0] 65 := by rw [hV1, hY]; exact Bl.new wr.drew _ _
            have w1 : Below wr.heap.size wr V1 := by rw [hV1]; exact (Below.drew (.refl _ _)).alloc (Nat.le_refl _) _
            have s1 := HS.out V1 w1
            refine wpOpL_get (d := 7) rfl rfl rfl (v := .pointer (some ⟨Y, 0, none⟩)) (w' := V1) (by rw [hV1, hY]; simp [execOp, go_sem]) ⟨fun _ => s1, ?_⟩
            simp only [Act.put, List.setIfInBounds_toArray, List.set_cons_zero, List.set_cons_succ]
            obtain ⟨V2, hV2⟩ : ∃ V2, V2 = V1.alloc (.cells #[numV 0, str [], str [], .slice none 0 0, .slice none 0 0, .slice none 0 0] 65) := ⟨_, rfl⟩
            obtain ⟨X, hX⟩ : ∃ b, b = V1.heap.size := ⟨_, rfl⟩
            have bX : Bl V2 X #[numV 0, str [], str [], .slice none 0 0, .slice none 0 0, .slice none 0 0] 65 := by rw [hV2, hX]; exact Bl.new V1 _ _
            have bY : Bl V2 Y #[numV 0, str [], str [], .slice none 0 0, .slice none 0 0, .slice none 0 0] 65 := by rw [hV2]; exact b1.alloc _
            have bW : Below wr.heap.size wr V2 := by rw [hV2]; exact w1.alloc w1.size _
            have s2 := HS.out V2 bW
            refine wpAnyL_one (i := 10) (by kernel_rfl) (wpOpL_get (d := 6) rfl rfl rfl (v := .pointer (some ⟨X, 0, none⟩)) (w' := V2) (by rw [hV2, hX]; simp [execOp, go_sem]) ⟨fun _ => s2, ?_⟩)
            simp only [Act.put, List.setIfInBounds_toArray, List.set_cons_zero, List.set_cons_succ]
            have hlt1 := b1.lt
            have hsz1 := w1.size
            clear hV1 hV2 s1 s2
            have x0 := bX.cell 0
            have x1 := bX.cell 1
            have x2 := bX.cell 2
            have x3 := bX.cell 3
            have x4 := bX.cell 4
            have x5 := bX.cell 5
            have fx : ∀ o, V2.frozen? ⟨X, o, none⟩ = false := bX.free
            obtain ⟨V3, hV3⟩ : ∃ V3, V3 = ((((((V2.setCell ⟨X, 0, none⟩ (numV vk)).setCell ⟨X, 1, none⟩ (str vn)).setCell ⟨X, 2, none⟩ (str vd)).setCell ⟨X, 3, none⟩ (.slice av1 lv1 cv1)).setCell ⟨X, 4, none⟩ (.slice ad1 ld1 cd1)).setCell ⟨X, 5, none⟩ (.slice as1 ls1 cs1)) := ⟨_, rfl⟩
            have hF1 : Fr [X] V2 [X] V3 := by rw [hV3]; exact ((((((Fr.refl [X] V2).set (.inl (by simp)) _).set (.inl (by simp)) _).set (.inl (by simp)) _).set (.inl (by simp)) _).set (.inl (by simp)) _).set (.inl (by simp)) _
            have hB3 : Below wr.heap.size wr V3 := bW.trans (hF1.to_below bW.size (by simp; omega))
            refine wpAnyL_one (i := 12) (by kernel_rfl) (wpOpL_none rfl rfl rfl (w' := V3) (by rw [hV3]; simp [execOp, go_sem, Act.eval, x0, x1, x2, x3, x4, x5, fx]) ⟨fun _ => HS.out V3 hB3, ?_⟩)
            have bX3 := ((((((bX.set 0 (numV vk)).set 1 (str vn)).set 2 (str vd)).set 3 (.slice av1 lv1 cv1)).set 4 (.slice ad1 ld1 cd1)).set 5 (.slice as1 ls1 cs1))
            simp only [List.setIfInBounds_toArray, List.set_cons_succ, List.set_cons_zero] at bX3
            rw [← hV3] at bX3
            have bY3 := (hF1.bl bY (by simp; omega)).1
            clear hV3 x0 x1 x2 x3 x4 x5 fx bX bY
            have y0 := bY3.cell 0
            have y1 := bY3.cell 1
            have y2 := bY3.cell 2
            have y3 := bY3.cell 3
            have y4 := bY3.cell 4
            have y5 := bY3.cell 5
            have fy : ∀ o, V3.frozen? ⟨Y, o, none⟩ = false := bY3.free
            obtain ⟨V4, hV4⟩ : ∃ V4, V4 = ((((((V3.setCell ⟨Y, 0, none⟩ (numV vk)).setCell ⟨Y, 1, none⟩ (str vn)).setCell ⟨Y, 2, none⟩ (str vd)).setCell ⟨Y, 3, none⟩ (.slice av2 lv2 cv2)).setCell ⟨Y, 4, none⟩ (.slice ad2 ld2 cd2)).setCell ⟨Y, 5, none⟩ (.slice as2 ls2 cs2)) := ⟨_, rfl⟩
            have hF2 : Fr [Y] V3 [Y] V4 := by rw [hV4]; exact ((((((Fr.refl [Y] V3).set (.inl (by simp)) _).set (.inl (by simp)) _).set (.inl (by simp)) _).set (.inl (by simp)) _).set (.inl (by simp)) _).set (.inl (by simp)) _
            have hB4 : Below wr.heap.size wr V4 := hB3.trans (hF2.to_below hB3.size (by simp; omega))
            refine wpAnyL_one (i := 13) (by kernel_rfl) (wpOpL_none rfl rfl rfl (w' := V4) (by rw [hV4]; simp [execOp, go_sem, Act.eval, y0, y1, y2, y3, y4, y5, fy]) ⟨fun _ => HS.out V4 hB4, ?_⟩)
            have bY4 := ((((((bY3.set 0 (numV vk)).set 1 (str vn)).set 2 (str vd)).set 3 (.slice av2 lv2 cv2)).set 4 (.slice ad2 ld2 cd2)).set 5 (.slice as2 ls2 cs2))
            simp only [List.setIfInBounds_toArray, List.set_cons_succ, List.set_cons_zero] at bY4
            rw [← hV4] at bY4
            have bX4 := (hF2.bl bX3 (by simp; omega)).1
            clear hV4 y0 y1 y2 y3 y4 y5 fy bX3
            refine wpAnyL_done (by kernel_rfl) ?_ _
            go_wp2_with fail
            go_meet
            exact ⟨X, Y, rfl, rfl, hB4, bX4, bY4⟩
        case rest =>
          obtain ⟨X, Y, rfl, rfl, hB4, bX, bY⟩ := hcut
          have x0 := bX.cell 0
          have y0 := bY.cell 0
          have x1 := bX.cell 1
          have y1 := bY.cell 1
          have x2 := bX.cell 2
          have y2 := bY.cell 2
          have x3 := bX.cell 3
          have y3 := bY.cell 3
          have x4 := bX.cell 4
          have y4 := bY.cell 4
          have x5 := bX.cell 5
          have y5 := bY.cell 5
          have H4 := Lib.hid (And.intro hB4 (And.intro bX bY))
          clear hB4 bX bY s0
          go_wp2_with (first
            | (go_at_call 18
               refine (HC.out.1 _ H4.out.1).mono ?_
               rintro e v0 ⟨rfl, hb⟩
               have bX := H4.out.2.1.below hb H4.out.2.1.lt
               have bY := H4.out.2.2.below hb H4.out.2.2.lt
               have hB := H4.out.1.trans (hb.mono H4.out.1.size)
               have x0 := bX.cell 0
               have y0 := bY.cell 0
               have x1 := bX.cell 1
               have y1 := bY.cell 1
               have x2 := bX.cell 2
               have y2 := bY.cell 2
               have x3 := bX.cell 3
               have y3 := bY.cell 3
               have x4 := bX.cell 4
               have y4 := bY.cell 4
               have x5 := bX.cell 5
               have y5 := bY.cell 5
               have G0 := Lib.hid (And.intro hB (And.intro bX bY))
               clear hb bX bY hB)
            | (go_at_call 19
               refine (HC.out.2.1 _ G0.out.1).mono ?_
               rintro e v1 ⟨rfl, hb⟩
               have bX := G0.out.2.1.below hb G0.out.2.1.lt
               have bY := G0.out.2.2.below hb G0.out.2.2.lt
               have hB := G0.out.1.trans (hb.mono G0.out.1.size)
               have x0 := bX.cell 0
               have y0 := bY.cell 0
               have x1 := bX.cell 1
               have y1 := bY.cell 1
               have x2 := bX.cell 2
               have y2 := bY.cell 2
               have x3 := bX.cell 3
               have y3 := bY.cell 3
               have x4 := bX.cell 4
               have y4 := bY.cell 4
               have x5 := bX.cell 5
               have y5 := bY.cell 5
               have G1 := Lib.hid (And.intro hB (And.intro bX bY))
               clear hb bX bY hB)
            | (go_at_call 20
               refine (HC.out.2.2 _ G1.out.1).mono ?_
               rintro e v2 ⟨rfl, hb⟩
               have bX := G1.out.2.1.below hb G1.out.2.1.lt
               have bY := G1.out.2.2.below hb G1.out.2.2.lt
               have hB := G1.out.1.trans (hb.mono G1.out.1.size)
               have x0 := bX.cell 0
               have y0 := bY.cell 0
               have x1 := bX.cell 1
               have y1 := bY.cell 1
               have x2 := bX.cell 2
               have y2 := bY.cell 2
               have x3 := bX.cell 3
               have y3 := bY.cell 3
               have x4 := bX.cell 4
               have y4 := bY.cell 4
               have x5 := bX.cell 5
               have y5 := bY.cell 5
               have G2 := Lib.hid (And.intro hB (And.intro bX bY))
               clear hb bX bY hB))
          go_roundg k
          case measure => omega
          case rel => exact ⟨j + 1, by omega, by go_num, HB.out.trans (G2.out.1.mono HB.out.size)⟩


end Go.Proofs.YtobiaaabikfglaaGreatDoor
