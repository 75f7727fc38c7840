/-
  Two lists of definitions of variables that are the same: sameInputs by a contract. No conditions but lengths.
-/
import Derived.Test.YtobiaaabikfglaaGreatDoorR34
import Derived.Test.YtobiaaabikfglaaGreatDoorR23
namespace Go.Proofs.YtobiaaabikfglaaGreatDoor
open Go.RowKit Go.Proofs.YtobiaaabikfglaaGreatDoor.Pq Go.Lib

theorem IiAt.len {C : Ck} {i : IInp} {c : List Value} (h : IiAt C i c) : c.length = 11 := by
  obtain ⟨ct, cv, sd, rfl, h1, h2, _⟩ := h
  obtain ⟨_, _, _, _, _, rfl⟩ := h1.shape
  obtain ⟨_, _, _, _, _, _, _, _, rfl⟩ := h2.shape
  rfl
theorem IisAt.get {C : Ck} : ∀ (l : List IInp) (xs : List Value), IisAt C l xs → ∀ (j : Nat) (v : IInp), l[j]? = some v → ∃ c, IiAt C v c ∧ ∀ i u, c[i]? = some u → xs[j * 11 + i]? = some u
  | [], xs => fun _ j v hj => by simp at hj
  | a :: l, xs => fun ⟨c, ys, h1, h2, h3⟩ j v hj => by
    have hc : c.length = 11 := IiAt.len h2
    cases j with
    | zero =>
      simp at hj; subst hj
      refine ⟨c, h2, fun i u hi => ?_⟩
      rw [h1, Nat.zero_mul, Nat.zero_add, List.getElem?_append_left (List.getElem?_eq_some_iff.1 hi).1]
      exact hi
    | succ j =>
      obtain ⟨d, h4, h5⟩ := IisAt.get l ys h3 j v (by simpa using hj)
      refine ⟨d, h4, fun i u hi => ?_⟩
      have := h5 i u hi
      rw [h1, List.getElem?_append_right (by rw [hc]; omega), hc]
      simpa [show (j + 1) * 11 + i - 11 = j * 11 + i by omega] using this

set_option maxRecDepth 100000 in
set_option maxHeartbeats 8000000 in
theorem sameInputs_any (is : List IInp) (s1 s2 : Value) (w : World) (h1 : IilAt (Cw w) is s1) (h2 : IilAt (Cw w) is s2) : Calls Tryz.prog 18 #[s1, s2] w (Yes w) := by
  obtain ⟨x1, p1, e1⟩ := h1
  obtain ⟨x2, p2, e2⟩ := h2
  obtain ⟨a1, cap1, rfl, hm, hr1⟩ := p1.place
  obtain ⟨a2, cap2, rfl, _, hr2⟩ := p2.place
  have hm : (is.length : Int) ≤ 9223372036854775807 := by unfold maxLen at hm; omega
  have H := Lib.hid (And.intro hr1 (And.intro hr2 (And.intro e1 (And.intro e2 trivial))))
  clear p1 p2 hr1 hr2 e1 e2 
  go_enter Tryz.func18, Tryz.ntmps18
  go_wp2_with fail
  go_loopg [5] is.length (fun k i wr => ∃ j : Nat, j + k = is.length ∧ i = .int .i64 j ∧ Below w.heap.size w wr)
  case atStart => exact ⟨0, by simp, rfl, .refl _ _⟩
  case round =>
    obtain ⟨j, hsum, rfl, hb⟩ := hrel
    have HB := Lib.hid hb
    clear hb
    cases gk with
    | zero =>
      go_wp2_with fail
      go_ret
      exact ⟨rfl, HB.out⟩
    | succ k =>
      obtain ⟨T1, o1, rfl, k1⟩ := H.out.1 (by omega)
      obtain ⟨T2, o2, rfl, k2⟩ := H.out.2.1 (by omega)
      obtain ⟨v, hv⟩ : ∃ v, is[j]? = some v := ⟨is[j]'(by omega), List.getElem?_eq_getElem (by omega)⟩
      have hvm := List.mem_of_getElem? hv
      obtain ⟨y1, q1, m1⟩ := IisAt.get _ _ H.out.2.2.1 j v hv
      obtain ⟨y2, q2, m2⟩ := IisAt.get _ _ H.out.2.2.2.1 j v hv
      obtain ⟨ct1', cv1', sd1', rfl, t1, u1, d1⟩ := q1
      obtain ⟨kt1, st1, at1, lt1, ct1, rfl⟩ := t1.shape
      obtain ⟨kv1, sv1, av1, lv1, cv1, aw1, lw1, cw1, rfl⟩ := u1.shape
      obtain ⟨ad1, ld1, cd1, rfl⟩ := d1.shape
      obtain ⟨ct2', cv2', sd2', rfl, t2, u2, d2⟩ := q2
      obtain ⟨kt2, st2, at2, lt2, ct2, rfl⟩ := t2.shape
      obtain ⟨kv2, sv2, av2, lv2, cv2, aw2, lw2, cw2, rfl⟩ := u2.shape
      obtain ⟨ad2, ld2, cd2, rfl⟩ := d2.shape
      have hbw : Below w.heap.size w wr := HB.out
      have hS : ∀ V, Below wr.heap.size wr V → V.cell? ⟨T1, o1 + j * 11, none⟩ = some (str v.name) ∧ V.cell? ⟨T1, o1 + j * 11 + 1, none⟩ = some (str v.desc) ∧ V.cell? ⟨T1, o1 + j * 11 + 2, none⟩ = some (numV kt1) ∧ V.cell? ⟨T1, o1 + j * 11 + 3, none⟩ = some (str st1) ∧ V.cell? ⟨T1, o1 + j * 11 + 4, none⟩ = some (.slice at1 lt1 ct1) ∧ V.cell? ⟨T1, o1 + j * 11 + 5, none⟩ = some (.bool v.has) ∧ V.cell? ⟨T1, o1 + j * 11 + 6, none⟩ = some (numV kv1) ∧ V.cell? ⟨T1, o1 + j * 11 + 7, none⟩ = some (str sv1) ∧ V.cell? ⟨T1, o1 + j * 11 + 8, none⟩ = some (.slice av1 lv1 cv1) ∧ V.cell? ⟨T1, o1 + j * 11 + 9, none⟩ = some (.slice aw1 lw1 cw1) ∧ V.cell? ⟨T1, o1 + j * 11 + 10, none⟩ = some (.slice ad1 ld1 cd1) ∧ V.cell? ⟨T2, o2 + j * 11, none⟩ = some (str v.name) ∧ V.cell? ⟨T2, o2 + j * 11 + 1, none⟩ = some (str v.desc) ∧ V.cell? ⟨T2, o2 + j * 11 + 2, none⟩ = some (numV kt2) ∧ V.cell? ⟨T2, o2 + j * 11 + 3, none⟩ = some (str st2) ∧ V.cell? ⟨T2, o2 + j * 11 + 4, none⟩ = some (.slice at2 lt2 ct2) ∧ V.cell? ⟨T2, o2 + j * 11 + 5, none⟩ = some (.bool v.has) ∧ V.cell? ⟨T2, o2 + j * 11 + 6, none⟩ = some (numV kv2) ∧ V.cell? ⟨T2, o2 + j * 11 + 7, none⟩ = some (str sv2) ∧ V.cell? ⟨T2, o2 + j * 11 + 8, none⟩ = some (.slice av2 lv2 cv2) ∧ V.cell? ⟨T2, o2 + j * 11 + 9, none⟩ = some (.slice aw2 lw2 cw2) ∧ V.cell? ⟨T2, o2 + j * 11 + 10, none⟩ = some (.slice ad2 ld2 cd2) := fun V hV => by
        have hw := hbw.trans (hV.mono hbw.size)
        exact ⟨(Cw.below hw _ _ _ (k1 _ _ (m1 0 _ rfl))).2, (Cw.below hw _ _ _ (k1 _ _ (m1 1 _ rfl))).2, (Cw.below hw _ _ _ (k1 _ _ (m1 2 _ rfl))).2, (Cw.below hw _ _ _ (k1 _ _ (m1 3 _ rfl))).2, (Cw.below hw _ _ _ (k1 _ _ (m1 4 _ rfl))).2, (Cw.below hw _ _ _ (k1 _ _ (m1 5 _ rfl))).2, (Cw.below hw _ _ _ (k1 _ _ (m1 6 _ rfl))).2, (Cw.below hw _ _ _ (k1 _ _ (m1 7 _ rfl))).2, (Cw.below hw _ _ _ (k1 _ _ (m1 8 _ rfl))).2, (Cw.below hw _ _ _ (k1 _ _ (m1 9 _ rfl))).2, (Cw.below hw _ _ _ (k1 _ _ (m1 10 _ rfl))).2, (Cw.below hw _ _ _ (k2 _ _ (m2 0 _ rfl))).2, (Cw.below hw _ _ _ (k2 _ _ (m2 1 _ rfl))).2, (Cw.below hw _ _ _ (k2 _ _ (m2 2 _ rfl))).2, (Cw.below hw _ _ _ (k2 _ _ (m2 3 _ rfl))).2, (Cw.below hw _ _ _ (k2 _ _ (m2 4 _ rfl))).2, (Cw.below hw _ _ _ (k2 _ _ (m2 5 _ rfl))).2, (Cw.below hw _ _ _ (k2 _ _ (m2 6 _ rfl))).2, (Cw.below hw _ _ _ (k2 _ _ (m2 7 _ rfl))).2, (Cw.below hw _ _ _ (k2 _ _ (m2 8 _ rfl))).2, (Cw.below hw _ _ _ (k2 _ _ (m2 9 _ rfl))).2, (Cw.below hw _ _ _ (k2 _ _ (m2 10 _ rfl))).2⟩
      have hc0 : ∀ V, Below wr.heap.size wr V → Calls Tryz.prog 26 #[.agg #[numV kt1, str st1, .slice at1 lt1 ct1], .agg #[numV kt2, str st2, .slice at2 lt2 ct2]] V (Yes V) := fun V hV => by
        have hw := hbw.trans (hV.mono hbw.size)
        exact sameType_any _ _ _ V (ItAt.mono (Cw.below hw) _ _ t1) (ItAt.mono (Cw.below hw) _ _ t2)
      have hc1 : ∀ V, Below wr.heap.size wr V → Calls Tryz.prog 27 #[.agg #[numV kv1, str sv1, .slice av1 lv1 cv1, .slice aw1 lw1 cw1], .agg #[numV kv2, str sv2, .slice av2 lv2 cv2, .slice aw2 lw2 cw2]] V (Yes V) := fun V hV => by
        have hw := hbw.trans (hV.mono hbw.size)
        exact sameValue_any _ _ _ V (IvAt.mono (Cw.below hw) _ _ u1) (IvAt.mono (Cw.below hw) _ _ u2)
      have hc2 : ∀ V, Below wr.heap.size wr V → Calls Tryz.prog 19 #[.slice ad1 ld1 cd1, .slice ad2 ld2 cd2] V (Yes V) := fun V hV => by
        have hw := hbw.trans (hV.mono hbw.size)
        exact sameDirs_any _ _ _ V (d1.mono (Cw.below hw)) (d2.mono (Cw.below hw))
      have HC := Lib.hid (And.intro hc0 (And.intro hc1 hc2))
      have HS := Lib.hid hS
      have HW := Lib.hid hbw
      have s0 := HS.out wr.drew ⟨rfl, rfl, rfl, Nat.le_refl _, fun _ _ => rfl⟩
      have hj0 : (0 : Int) ≤ (j : Int) := Int.natCast_nonneg _
      have hj1 : (j : Int) < (is.length : Int) := by omega
      clear k1 k2 hv m1 m2 hS hbw t1 t2 u1 u2 d1 d2 hvm hc0 hc1 hc2
      go_upto_region 6 with (fail)
      go_cut [6, 7] (fun xv yv wx => ∃ X Y, xv = .pointer (some ⟨X, 0, none⟩) ∧ yv = .pointer (some ⟨Y, 0, none⟩) ∧ Below wr.heap.size wr wx ∧ Bl wx X #[str v.name, str v.desc, numV kt1, str st1, .slice at1 lt1 ct1, .bool v.has, numV kv1, str sv1, .slice av1 lv1 cv1, .slice aw1 lw1 cw1, .slice ad1 ld1 cd1] 108 ∧ Bl wx Y #[str v.name, str v.desc, numV kt2, str st2, .slice at2 lt2 ct2, .bool v.has, numV kv2, str sv2, .slice av2 lv2 cv2, .slice aw2 lw2 cw2, .slice ad2 ld2 cd2] 108)
      case first =>
        refine wp_region_late (S := fun V => V.cell? ⟨T1, o1 + j * 11, none⟩ = some (str v.name) ∧ V.cell? ⟨T1, o1 + j * 11 + 1, none⟩ = some (str v.desc) ∧ V.cell? ⟨T1, o1 + j * 11 + 2, none⟩ = some (numV kt1) ∧ V.cell? ⟨T1, o1 + j * 11 + 3, none⟩ = some (str st1) ∧ V.cell? ⟨T1, o1 + j * 11 + 4, none⟩ = some (.slice at1 lt1 ct1) ∧ V.cell? ⟨T1, o1 + j * 11 + 5, none⟩ = some (.bool v.has) ∧ V.cell? ⟨T1, o1 + j * 11 + 6, none⟩ = some (numV kv1) ∧ V.cell? ⟨T1, o1 + j * 11 + 7, none⟩ = some (str sv1) ∧ V.cell? ⟨T1, o1 + j * 11 + 8, none⟩ = some (.slice av1 lv1 cv1) ∧ V.cell? ⟨T1, o1 + j * 11 + 9, none⟩ = some (.slice aw1 lw1 cw1) ∧ V.cell? ⟨T1, o1 + j * 11 + 10, none⟩ = some (.slice ad1 ld1 cd1) ∧ V.cell? ⟨T2, o2 + j * 11, none⟩ = some (str v.name) ∧ V.cell? ⟨T2, o2 + j * 11 + 1, none⟩ = some (str v.desc) ∧ V.cell? ⟨T2, o2 + j * 11 + 2, none⟩ = some (numV kt2) ∧ V.cell? ⟨T2, o2 + j * 11 + 3, none⟩ = some (str st2) ∧ V.cell? ⟨T2, o2 + j * 11 + 4, none⟩ = some (.slice at2 lt2 ct2) ∧ V.cell? ⟨T2, o2 + j * 11 + 5, none⟩ = some (.bool v.has) ∧ V.cell? ⟨T2, o2 + j * 11 + 6, none⟩ = some (numV kv2) ∧ V.cell? ⟨T2, o2 + j * 11 + 7, none⟩ = some (str sv2) ∧ V.cell? ⟨T2, o2 + j * 11 + 8, none⟩ = some (.slice av2 lv2 cv2) ∧ V.cell? ⟨T2, o2 + j * 11 + 9, none⟩ = some (.slice aw2 lw2 cw2) ∧ V.cell? ⟨T2, o2 + j * 11 + 10, none⟩ = some (.slice ad2 ld2 cd2)) (late := fun _ => false) (by kernel_rfl) ?_
        refine wpAnyL_get (i := 0) (d := 19) (v := .slice (some ⟨T1, o1, none⟩) is.length cap1) rfl rfl (by kernel_rfl) (by kernel_rfl) (by kernel_rfl) (by kernel_rfl) (by kernel_rfl) (fun _ _ _ h => h) rfl (fun w hS => by (try dsimp only at hS); go_simp) s0 ?_
        simp only [Act.put, List.setIfInBounds_toArray, List.set_cons_zero, List.set_cons_succ]
        refine wpAnyL_get (i := 1) (d := 20) (v := .int .i64 j) rfl rfl (by kernel_rfl) (by kernel_rfl) (by kernel_rfl) (by kernel_rfl) (by kernel_rfl) (fun _ _ _ h => h) rfl (fun w hS => by (try dsimp only at hS); go_simp) s0 ?_
        simp only [Act.put, List.setIfInBounds_toArray, List.set_cons_zero, List.set_cons_succ]
        refine wpAnyL_get (i := 2) (d := 21) (v := .pointer (some ⟨T1, o1 + j * 11, none⟩)) rfl rfl (by kernel_rfl) (by kernel_rfl) (by kernel_rfl) (by kernel_rfl) (by kernel_rfl) (fun _ _ _ h => h) rfl (fun w hS => by (try dsimp only at hS); go_simp) s0 ?_
        simp only [Act.put, List.setIfInBounds_toArray, List.set_cons_zero, List.set_cons_succ]
        refine wpAnyL_get (i := 3) (d := 22) (v := .agg #[str v.name, str v.desc, numV kt1, str st1, .slice at1 lt1 ct1, .bool v.has, numV kv1, str sv1, .slice av1 lv1 cv1, .slice aw1 lw1 cw1, .slice ad1 ld1 cd1]) rfl rfl (by kernel_rfl) (by kernel_rfl) (by kernel_rfl) (by kernel_rfl) (by kernel_rfl) (fun _ _ _ h => h) rfl (fun w hS => by (try dsimp only at hS); go_simp) s0 ?_
        simp only [Act.put, List.setIfInBounds_toArray, List.set_cons_zero, List.set_cons_succ]
        refine wpAnyL_get (i := 4) (d := 23) (v := .slice (some ⟨T2, o2, none⟩) is.length cap2) rfl rfl (by kernel_rfl) (by kernel_rfl) (by kernel_rfl) (by kernel_rfl) (by kernel_rfl) (fun _ _ _ h => h) rfl (fun w hS => by (try dsimp only at hS); go_simp) s0 ?_
        simp only [Act.put, List.setIfInBounds_toArray, List.set_cons_zero, List.set_cons_succ]
        refine wpAnyL_get (i := 5) (d := 24) (v := .int .i64 j) rfl rfl (by kernel_rfl) (by kernel_rfl) (by kernel_rfl) (by kernel_rfl) (by kernel_rfl) (fun _ _ _ h => h) rfl (fun w hS => by (try dsimp only at hS); go_simp) s0 ?_
        simp only [Act.put, List.setIfInBounds_toArray, List.set_cons_zero, List.set_cons_succ]
        refine wpAnyL_get (i := 6) (d := 25) (v := .pointer (some ⟨T2, o2 + j * 11, none⟩)) rfl rfl (by kernel_rfl) (by kernel_rfl) (by kernel_rfl) (by kernel_rfl) (by kernel_rfl) (fun _ _ _ h => h) rfl (fun w hS => by (try dsimp only at hS); go_simp) s0 ?_
        simp only [Act.put, List.setIfInBounds_toArray, List.set_cons_zero, List.set_cons_succ]
        refine wpAnyL_get (i := 7) (d := 26) (v := .agg #[str v.name, str v.desc, numV kt2, str st2, .slice at2 lt2 ct2, .bool v.has, numV kv2, str sv2, .slice av2 lv2 cv2, .slice aw2 lw2 cw2, .slice ad2 ld2 cd2]) rfl rfl (by kernel_rfl) (by kernel_rfl) (by kernel_rfl) (by kernel_rfl) (by kernel_rfl) (fun _ _ _ h => h) rfl (fun w hS => by (try dsimp only at hS); go_simp) s0 ?_
        simp only [Act.put, List.setIfInBounds_toArray, List.set_cons_zero, List.set_cons_succ]
        clear s0
        refine wpAnyL_all (rs := [8, 9]) (by kernel_rfl) (by simp) ?_
        intro i hi
        simp only [List.mem_cons, List.not_mem_nil, or_false] at hi
        rcases hi with rfl | rfl
        · obtain ⟨V1, hV1⟩ : ∃ V1, V1 = wr.drew.alloc (.cells #[str [], str [], numV 0, str [], .slice none 0 0, .bool false, numV 0, str [], .slice none 0 0, .slice none 0 0, .slice none 0 0] 108) := ⟨_, rfl⟩
          obtain ⟨X, hX⟩ : ∃ b, b = wr.heap.size := ⟨_, rfl⟩
          have b1 : Bl V1 X #[str [], str [], numV 0, str [], .slice none 0 0, .bool false, numV 0, str [], .slice none 0 0, .slice none 0 0, .slice none 0 0] 108 := by rw [hV1, hX]; exact Bl.new wr.drew _ _
          have w1 : Below wr.heap.size wr V1 := by rw [hV1]; exact (Below.drew (.refl _ _)).alloc (Nat.le_refl _) _
          have s1 := HS.out V1 w1
          refine wpOpL_get (d := 6) rfl rfl rfl (v := .pointer (some ⟨X, 0, none⟩)) (w' := V1) (by rw [hV1, hX]; simp [execOp, go_sem]) ⟨fun _ => s1, ?_⟩
          simp only [Act.put, List.setIfInBounds_toArray, List.set_cons_zero, List.set_cons_succ]
          obtain ⟨V2, hV2⟩ : ∃ V2, V2 = V1.alloc (.cells #[str [], str [], numV 0, str [], .slice none 0 0, .bool false, numV 0, str [], .slice none 0 0, .slice none 0 0, .slice none 0 0] 108) := ⟨_, rfl⟩
          obtain ⟨Y, hY⟩ : ∃ b, b = V1.heap.size := ⟨_, rfl⟩
          have bY : Bl V2 Y #[str [], str [], numV 0, str [], .slice none 0 0, .bool false, numV 0, str [], .slice none 0 0, .slice none 0 0, .slice none 0 0] 108 := by rw [hV2, hY]; exact Bl.new V1 _ _
          have bX : Bl V2 X #[str [], str [], numV 0, str [], .slice none 0 0, .bool false, numV 0, str [], .slice none 0 0, .slice none 0 0, .slice none 0 0] 108 := by rw [hV2]; exact b1.alloc _
          have bW : Below wr.heap.size wr V2 := by rw [hV2]; exact w1.alloc w1.size _
          have s2 := HS.out V2 bW
          refine wpAnyL_one (i := 9) (by kernel_rfl) (wpOpL_get (d := 7) rfl rfl rfl (v := .pointer (some ⟨Y, 0, none⟩)) (w' := V2) (by rw [hV2, hY]; simp [execOp, go_sem]) ⟨fun _ => s2, ?_⟩)
          simp only [Act.put, List.setIfInBounds_toArray, List.set_cons_zero, List.set_cons_succ]
          have hlt1 := b1.lt
          have hsz1 := w1.size
          clear hV1 hV2 s1 s2
          have x0 := bX.cell 0
          have x1 := bX.cell 1
          have x2 := bX.cell 2
          have x3 := bX.cell 3
          have x4 := bX.cell 4
          have x5 := bX.cell 5
          have x6 := bX.cell 6
          have x7 := bX.cell 7
          have x8 := bX.cell 8
          have x9 := bX.cell 9
          have x10 := bX.cell 10
          have fx : ∀ o, V2.frozen? ⟨X, o, none⟩ = false := bX.free
          obtain ⟨V3, hV3⟩ : ∃ V3, V3 = (((((((((((V2.setCell ⟨X, 0, none⟩ (str v.name)).setCell ⟨X, 1, none⟩ (str v.desc)).setCell ⟨X, 2, none⟩ (numV kt1)).setCell ⟨X, 3, none⟩ (str st1)).setCell ⟨X, 4, none⟩ (.slice at1 lt1 ct1)).setCell ⟨X, 5, none⟩ (.bool v.has)).setCell ⟨X, 6, none⟩ (numV kv1)).setCell ⟨X, 7, none⟩ (str sv1)).setCell ⟨X, 8, none⟩ (.slice av1 lv1 cv1)).setCell ⟨X, 9, none⟩ (.slice aw1 lw1 cw1)).setCell ⟨X, 10, none⟩ (.slice ad1 ld1 cd1)) := ⟨_, rfl⟩
          have hF1 : Fr [X] V2 [X] V3 := by rw [hV3]; exact (((((((((((Fr.refl [X] V2).set (.inl (by simp)) _).set (.inl (by simp)) _).set (.inl (by simp)) _).set (.inl (by simp)) _).set (.inl (by simp)) _).set (.inl (by simp)) _).set (.inl (by simp)) _).set (.inl (by simp)) _).set (.inl (by simp)) _).set (.inl (by simp)) _).set (.inl (by simp)) _
          have hB3 : Below wr.heap.size wr V3 := bW.trans (hF1.to_below bW.size (by simp; omega))
          refine wpAnyL_one (i := 10) (by kernel_rfl) (wpOpL_none rfl rfl rfl (w' := V3) (by rw [hV3]; simp [execOp, go_sem, Act.eval, x0, x1, x2, x3, x4, x5, x6, x7, x8, x9, x10, fx]) ⟨fun _ => HS.out V3 hB3, ?_⟩)
          have bX3 := (((((((((((bX.set 0 (str v.name)).set 1 (str v.desc)).set 2 (numV kt1)).set 3 (str st1)).set 4 (.slice at1 lt1 ct1)).set 5 (.bool v.has)).set 6 (numV kv1)).set 7 (str sv1)).set 8 (.slice av1 lv1 cv1)).set 9 (.slice aw1 lw1 cw1)).set 10 (.slice ad1 ld1 cd1))
          simp only [List.setIfInBounds_toArray, List.set_cons_succ, List.set_cons_zero] at bX3
          rw [← hV3] at bX3
          have bY3 := (hF1.bl bY (by simp; omega)).1
          clear hV3 x0 x1 x2 x3 x4 x5 x6 x7 x8 x9 x10 fx bX bY
          have y0 := bY3.cell 0
          have y1 := bY3.cell 1
          have y2 := bY3.cell 2
          have y3 := bY3.cell 3
          have y4 := bY3.cell 4
          have y5 := bY3.cell 5
          have y6 := bY3.cell 6
          have y7 := bY3.cell 7
          have y8 := bY3.cell 8
          have y9 := bY3.cell 9
          have y10 := bY3.cell 10
          have fy : ∀ o, V3.frozen? ⟨Y, o, none⟩ = false := bY3.free
          obtain ⟨V4, hV4⟩ : ∃ V4, V4 = (((((((((((V3.setCell ⟨Y, 0, none⟩ (str v.name)).setCell ⟨Y, 1, none⟩ (str v.desc)).setCell ⟨Y, 2, none⟩ (numV kt2)).setCell ⟨Y, 3, none⟩ (str st2)).setCell ⟨Y, 4, none⟩ (.slice at2 lt2 ct2)).setCell ⟨Y, 5, none⟩ (.bool v.has)).setCell ⟨Y, 6, none⟩ (numV kv2)).setCell ⟨Y, 7, none⟩ (str sv2)).setCell ⟨Y, 8, none⟩ (.slice av2 lv2 cv2)).setCell ⟨Y, 9, none⟩ (.slice aw2 lw2 cw2)).setCell ⟨Y, 10, none⟩ (.slice ad2 ld2 cd2)) := ⟨_, rfl⟩
          have hF2 : Fr [Y] V3 [Y] V4 := by rw [hV4]; exact (((((((((((Fr.refl [Y] V3).set (.inl (by simp)) _).set (.inl (by simp)) _).set (.inl (by simp)) _).set (.inl (by simp)) _).set (.inl (by simp)) _).set (.inl (by simp)) _).set (.inl (by simp)) _).set (.inl (by simp)) _).set (.inl (by simp)) _).set (.inl (by simp)) _).set (.inl (by simp)) _
          have hB4 : Below wr.heap.size wr V4 := hB3.trans (hF2.to_below hB3.size (by simp; omega))
          refine wpAnyL_one (i := 11) (by kernel_rfl) (wpOpL_none rfl rfl rfl (w' := V4) (by rw [hV4]; simp [execOp, go_sem, Act.eval, y0, y1, y2, y3, y4, y5, y6, y7, y8, y9, y10, fy]) ⟨fun _ => HS.out V4 hB4, ?_⟩)
          have bY4 := (((((((((((bY3.set 0 (str v.name)).set 1 (str v.desc)).set 2 (numV kt2)).set 3 (str st2)).set 4 (.slice at2 lt2 ct2)).set 5 (.bool v.has)).set 6 (numV kv2)).set 7 (str sv2)).set 8 (.slice av2 lv2 cv2)).set 9 (.slice aw2 lw2 cw2)).set 10 (.slice ad2 ld2 cd2))
          simp only [List.setIfInBounds_toArray, List.set_cons_succ, List.set_cons_zero] at bY4
          rw [← hV4] at bY4
          have bX4 := (hF2.bl bX3 (by simp; omega)).1
          clear hV4 y0 y1 y2 y3 y4 y5 y6 y7 y8 y9 y10 fy bX3
          refine wpAnyL_done (by kernel_rfl) ?_ _
          go_wp2_with fail
          go_meet
          exact ⟨X, Y, rfl, rfl, hB4, bX4, bY4⟩
        · obtain ⟨V1, hV1⟩ : ∃ V1, V1 = wr.drew.alloc (.cells #[str [], str [], numV 0, str [], .slice none 0 0, .bool false, numV 0, str [], .slice none 0 0, .slice none 0 0, .slice none 0 0] 108) := ⟨_, rfl⟩
          obtain ⟨Y, hY⟩ : ∃ b, b = wr.heap.size := ⟨_, rfl⟩
          have b1 : Bl V1 Y #[str [], str [], numV 0, str [], .slice none 0 0, .bool false, numV 0, str [], .slice none 0 0, .slice none 0 0, .slice none 0 0] 108 := by rw [hV1, hY]; exact Bl.new wr.drew _ _
          have w1 : Below wr.heap.size wr V1 := by rw [hV1]; exact (Below.drew (.refl _ _)).alloc (Nat.le_refl _) _
          have s1 := HS.out V1 w1
          refine wpOpL_get (d := 7) rfl rfl rfl (v := .pointer (some ⟨Y, 0, none⟩)) (w' := V1) (by rw [hV1, hY]; simp [execOp, go_sem]) ⟨fun _ => s1, ?_⟩
          simp only [Act.put, List.setIfInBounds_toArray, List.set_cons_zero, List.set_cons_succ]
          obtain ⟨V2, hV2⟩ : ∃ V2, V2 = V1.alloc (.cells #[str [], str [], numV 0, str [], .slice none 0 0, .bool false, numV 0, str [], .slice none 0 0, .slice none 0 0, .slice none 0 0] 108) := ⟨_, rfl⟩
          obtain ⟨X, hX⟩ : ∃ b, b = V1.heap.size := ⟨_, rfl⟩
          have bX : Bl V2 X #[str [], str [], numV 0, str [], .slice none 0 0, .bool false, numV 0, str [], .slice none 0 0, .slice none 0 0, .slice none 0 0] 108 := by rw [hV2, hX]; exact Bl.new V1 _ _
          have bY : Bl V2 Y #[str [], str [], numV 0, str [], .slice none 0 0, .bool false, numV 0, str [], .slice none 0 0, .slice none 0 0, .slice none 0 0] 108 := by rw [hV2]; exact b1.alloc _
          have bW : Below wr.heap.size wr V2 := by rw [hV2]; exact w1.alloc w1.size _
          have s2 := HS.out V2 bW
          refine wpAnyL_one (i := 8) (by kernel_rfl) (wpOpL_get (d := 6) rfl rfl rfl (v := .pointer (some ⟨X, 0, none⟩)) (w' := V2) (by rw [hV2, hX]; simp [execOp, go_sem]) ⟨fun _ => s2, ?_⟩)
          simp only [Act.put, List.setIfInBounds_toArray, List.set_cons_zero, List.set_cons_succ]
          have hlt1 := b1.lt
          have hsz1 := w1.size
          clear hV1 hV2 s1 s2
          have x0 := bX.cell 0
          have x1 := bX.cell 1
          have x2 := bX.cell 2
          have x3 := bX.cell 3
          have x4 := bX.cell 4
          have x5 := bX.cell 5
          have x6 := bX.cell 6
          have x7 := bX.cell 7
          have x8 := bX.cell 8
          have x9 := bX.cell 9
          have x10 := bX.cell 10
          have fx : ∀ o, V2.frozen? ⟨X, o, none⟩ = false := bX.free
          obtain ⟨V3, hV3⟩ : ∃ V3, V3 = (((((((((((V2.setCell ⟨X, 0, none⟩ (str v.name)).setCell ⟨X, 1, none⟩ (str v.desc)).setCell ⟨X, 2, none⟩ (numV kt1)).setCell ⟨X, 3, none⟩ (str st1)).setCell ⟨X, 4, none⟩ (.slice at1 lt1 ct1)).setCell ⟨X, 5, none⟩ (.bool v.has)).setCell ⟨X, 6, none⟩ (numV kv1)).setCell ⟨X, 7, none⟩ (str sv1)).setCell ⟨X, 8, none⟩ (.slice av1 lv1 cv1)).setCell ⟨X, 9, none⟩ (.slice aw1 lw1 cw1)).setCell ⟨X, 10, none⟩ (.slice ad1 ld1 cd1)) := ⟨_, rfl⟩
          have hF1 : Fr [X] V2 [X] V3 := by rw [hV3]; exact (((((((((((Fr.refl [X] V2).set (.inl (by simp)) _).set (.inl (by simp)) _).set (.inl (by simp)) _).set (.inl (by simp)) _).set (.inl (by simp)) _).set (.inl (by simp)) _).set (.inl (by simp)) _).set (.inl (by simp)) _).set (.inl (by simp)) _).set (.inl (by simp)) _).set (.inl (by simp)) _
          have hB3 : Below wr.heap.size wr V3 := bW.trans (hF1.to_below bW.size (by simp; omega))
          refine wpAnyL_one (i := 10) (by kernel_rfl) (wpOpL_none rfl rfl rfl (w' := V3) (by rw [hV3]; simp [execOp, go_sem, Act.eval, x0, x1, x2, x3, x4, x5, x6, x7, x8, x9, x10, fx]) ⟨fun _ => HS.out V3 hB3, ?_⟩)
          have bX3 := (((((((((((bX.set 0 (str v.name)).set 1 (str v.desc)).set 2 (numV kt1)).set 3 (str st1)).set 4 (.slice at1 lt1 ct1)).set 5 (.bool v.has)).set 6 (numV kv1)).set 7 (str sv1)).set 8 (.slice av1 lv1 cv1)).set 9 (.slice aw1 lw1 cw1)).set 10 (.slice ad1 ld1 cd1))
          simp only [List.setIfInBounds_toArray, List.set_cons_succ, List.set_cons_zero] at bX3
          rw [← hV3] at bX3
          have bY3 := (hF1.bl bY (by simp; omega)).1
          clear hV3 x0 x1 x2 x3 x4 x5 x6 x7 x8 x9 x10 fx bX bY
          have y0 := bY3.cell 0
          have y1 := bY3.cell 1
          have y2 := bY3.cell 2
          have y3 := bY3.cell 3
          have y4 := bY3.cell 4
          have y5 := bY3.cell 5
          have y6 := bY3.cell 6
          have y7 := bY3.cell 7
          have y8 := bY3.cell 8
          have y9 := bY3.cell 9
          have y10 := bY3.cell 10
          have fy : ∀ o, V3.frozen? ⟨Y, o, none⟩ = false := bY3.free
          obtain ⟨V4, hV4⟩ : ∃ V4, V4 = (((((((((((V3.setCell ⟨Y, 0, none⟩ (str v.name)).setCell ⟨Y, 1, none⟩ (str v.desc)).setCell ⟨Y, 2, none⟩ (numV kt2)).setCell ⟨Y, 3, none⟩ (str st2)).setCell ⟨Y, 4, none⟩ (.slice at2 lt2 ct2)).setCell ⟨Y, 5, none⟩ (.bool v.has)).setCell ⟨Y, 6, none⟩ (numV kv2)).setCell ⟨Y, 7, none⟩ (str sv2)).setCell ⟨Y, 8, none⟩ (.slice av2 lv2 cv2)).setCell ⟨Y, 9, none⟩ (.slice aw2 lw2 cw2)).setCell ⟨Y, 10, none⟩ (.slice ad2 ld2 cd2)) := ⟨_, rfl⟩
          have hF2 : Fr [Y] V3 [Y] V4 := by rw [hV4]; exact (((((((((((Fr.refl [Y] V3).set (.inl (by simp)) _).set (.inl (by simp)) _).set (.inl (by simp)) _).set (.inl (by simp)) _).set (.inl (by simp)) _).set (.inl (by simp)) _).set (.inl (by simp)) _).set (.inl (by simp)) _).set (.inl (by simp)) _).set (.inl (by simp)) _).set (.inl (by simp)) _
          have hB4 : Below wr.heap.size wr V4 := hB3.trans (hF2.to_below hB3.size (by simp; omega))
          refine wpAnyL_one (i := 11) (by kernel_rfl) (wpOpL_none rfl rfl rfl (w' := V4) (by rw [hV4]; simp [execOp, go_sem, Act.eval, y0, y1, y2, y3, y4, y5, y6, y7, y8, y9, y10, fy]) ⟨fun _ => HS.out V4 hB4, ?_⟩)
          have bY4 := (((((((((((bY3.set 0 (str v.name)).set 1 (str v.desc)).set 2 (numV kt2)).set 3 (str st2)).set 4 (.slice at2 lt2 ct2)).set 5 (.bool v.has)).set 6 (numV kv2)).set 7 (str sv2)).set 8 (.slice av2 lv2 cv2)).set 9 (.slice aw2 lw2 cw2)).set 10 (.slice ad2 ld2 cd2))
          simp only [List.setIfInBounds_toArray, List.set_cons_succ, List.set_cons_zero] at bY4
          rw [← hV4] at bY4
          have bX4 := (hF2.bl bX3 (by simp; omega)).1
          clear hV4 y0 y1 y2 y3 y4 y5 y6 y7 y8 y9 y10 fy bX3
          refine wpAnyL_done (by kernel_rfl) ?_ _
          go_wp2_with fail
          go_meet
          exact ⟨X, Y, rfl, rfl, hB4, bX4, bY4⟩
      case rest =>
        obtain ⟨X, Y, rfl, rfl, hB4, bX, bY⟩ := hcut
        have x0 := bX.cell 0
        have y0 := bY.cell 0
        have x1 := bX.cell 1
        have y1 := bY.cell 1
        have x2 := bX.cell 2
        have y2 := bY.cell 2
        have x3 := bX.cell 3
        have y3 := bY.cell 3
        have x4 := bX.cell 4
        have y4 := bY.cell 4
        have x5 := bX.cell 5
        have y5 := bY.cell 5
        have x6 := bX.cell 6
        have y6 := bY.cell 6
        have x7 := bX.cell 7
        have y7 := bY.cell 7
        have x8 := bX.cell 8
        have y8 := bY.cell 8
        have x9 := bX.cell 9
        have y9 := bY.cell 9
        have x10 := bX.cell 10
        have y10 := bY.cell 10
        have H4 := Lib.hid (And.intro hB4 (And.intro bX bY))
        clear hB4 bX bY s0
        go_wp2_with (first
          | (go_at_call 26
             refine (HC.out.1 _ H4.out.1).mono ?_
             rintro e v0 ⟨rfl, hb⟩
             have bX := H4.out.2.1.below hb H4.out.2.1.lt
             have bY := H4.out.2.2.below hb H4.out.2.2.lt
             have hB := H4.out.1.trans (hb.mono H4.out.1.size)
             have x0 := bX.cell 0
             have y0 := bY.cell 0
             have x1 := bX.cell 1
             have y1 := bY.cell 1
             have x2 := bX.cell 2
             have y2 := bY.cell 2
             have x3 := bX.cell 3
             have y3 := bY.cell 3
             have x4 := bX.cell 4
             have y4 := bY.cell 4
             have x5 := bX.cell 5
             have y5 := bY.cell 5
             have x6 := bX.cell 6
             have y6 := bY.cell 6
             have x7 := bX.cell 7
             have y7 := bY.cell 7
             have x8 := bX.cell 8
             have y8 := bY.cell 8
             have x9 := bX.cell 9
             have y9 := bY.cell 9
             have x10 := bX.cell 10
             have y10 := bY.cell 10
             have G0 := Lib.hid (And.intro hB (And.intro bX bY))
             clear hb bX bY hB)
          | (go_at_call 27
             refine (HC.out.2.1 _ G0.out.1).mono ?_
             rintro e v1 ⟨rfl, hb⟩
             have bX := G0.out.2.1.below hb G0.out.2.1.lt
             have bY := G0.out.2.2.below hb G0.out.2.2.lt
             have hB := G0.out.1.trans (hb.mono G0.out.1.size)
             have x0 := bX.cell 0
             have y0 := bY.cell 0
             have x1 := bX.cell 1
             have y1 := bY.cell 1
             have x2 := bX.cell 2
             have y2 := bY.cell 2
             have x3 := bX.cell 3
             have y3 := bY.cell 3
             have x4 := bX.cell 4
             have y4 := bY.cell 4
             have x5 := bX.cell 5
             have y5 := bY.cell 5
             have x6 := bX.cell 6
             have y6 := bY.cell 6
             have x7 := bX.cell 7
             have y7 := bY.cell 7
             have x8 := bX.cell 8
             have y8 := bY.cell 8
             have x9 := bX.cell 9
             have y9 := bY.cell 9
             have x10 := bX.cell 10
             have y10 := bY.cell 10
             have G1 := Lib.hid (And.intro hB (And.intro bX bY))
             clear hb bX bY hB)
          | (go_at_call 19
             refine (HC.out.2.2 _ G1.out.1).mono ?_
             rintro e v2 ⟨rfl, hb⟩
             have bX := G1.out.2.1.below hb G1.out.2.1.lt
             have bY := G1.out.2.2.below hb G1.out.2.2.lt
             have hB := G1.out.1.trans (hb.mono G1.out.1.size)
             have x0 := bX.cell 0
             have y0 := bY.cell 0
             have x1 := bX.cell 1
             have y1 := bY.cell 1
             have x2 := bX.cell 2
             have y2 := bY.cell 2
             have x3 := bX.cell 3
             have y3 := bY.cell 3
             have x4 := bX.cell 4
             have y4 := bY.cell 4
             have x5 := bX.cell 5
             have y5 := bY.cell 5
             have x6 := bX.cell 6
             have y6 := bY.cell 6
             have x7 := bX.cell 7
             have y7 := bY.cell 7
             have x8 := bX.cell 8
             have y8 := bY.cell 8
             have x9 := bX.cell 9
             have y9 := bY.cell 9
             have x10 := bX.cell 10
             have y10 := bY.cell 10
             have G2 := Lib.hid (And.intro hB (And.intro bX bY))
             clear hb bX bY hB))
        go_roundg k
        case measure => omega
        case rel => exact ⟨j + 1, by omega, by go_num, HB.out.trans (G2.out.1.mono HB.out.size)⟩

end Go.Proofs.YtobiaaabikfglaaGreatDoor
