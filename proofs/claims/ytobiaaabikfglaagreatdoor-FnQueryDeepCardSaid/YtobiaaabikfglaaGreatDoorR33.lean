/-
  Two data of impl's that are the same: sameTexts, sameType, sameValue by contracts. No conditions but lengths.
-/
import Derived.Test.YtobiaaabikfglaaGreatDoorR21
import Derived.Test.YtobiaaabikfglaaGreatDoorR20
import Derived.Deep.RegionHeld3
namespace Go.Proofs.YtobiaaabikfglaaGreatDoor
open Go.RowKit Go.Proofs.YtobiaaabikfglaaGreatDoor.Pq Go.Lib

/-- the cells of a world -/
def Cw (w : World) : Ck := fun b i u => b < w.heap.size ∧ w.cell? ⟨b, i, none⟩ = some u

theorem Cw.below {w w' : World} (h : Below w.heap.size w w') : ∀ b i u, Cw w b i u → Cw w' b i u :=
  fun b i _u k => ⟨Nat.lt_of_lt_of_le k.1 h.size, (World.cell?_of_block (a := ⟨b, i, none⟩) (h.block b k.1)).trans k.2⟩

theorem CN.cw {w : World} {base : Nat} {x : Option Nat} : ∀ b i u, CN w base x b i u → Cw w b i u := fun _ _ _ ⟨_, _, cs, t, h3, h4⟩ => ⟨h3.lt, by rw [h3.cell]; exact h4⟩

/-- the answer is yes; memory is as it was -/
def Yes (w : World) (e : Ending) (w' : World) : Prop := e = .returned (.bool true) ∧ Below w.heap.size w w'

theorem IvsAt.get {C : Ck} : ∀ (l : List IVal) (xs : List Value), IvsAt C l xs → ∀ (j : Nat) (v : IVal), l[j]? = some v → ∃ c, IvAt C v c ∧ ∀ i u, c[i]? = some u → xs[j * 4 + i]? = some u
  | [], xs => fun _ j v hj => by simp at hj
  | a :: l, xs => fun ⟨c, ys, h1, h2, h3⟩ j v hj => by
    obtain ⟨k0, s0, a1, l1, c1, a2, l2, c2, hc⟩ := h2.shape
    cases j with
    | zero =>
      simp at hj; subst hj
      refine ⟨c, h2, fun i u hi => ?_⟩
      rw [h1, Nat.zero_mul, Nat.zero_add, List.getElem?_append_left (List.getElem?_eq_some_iff.1 hi).1]
      exact hi
    | succ j =>
      obtain ⟨d, h4, h5⟩ := IvsAt.get l ys h3 j v (by simpa using hj)
      refine ⟨d, h4, fun i u hi => ?_⟩
      have := h5 i u hi
      rw [h1, List.getElem?_append_right (by rw [hc]; simp; omega)]
      rw [hc]
      simpa [show (j + 1) * 4 + i - 4 = j * 4 + i by omega] using this
theorem ItsAt.get {C : Ck} : ∀ (l : List ITy) (xs : List Value), ItsAt C l xs → ∀ (j : Nat) (v : ITy), l[j]? = some v → ∃ c, ItAt C v c ∧ ∀ i u, c[i]? = some u → xs[j * 3 + i]? = some u
  | [], xs => fun _ j v hj => by simp at hj
  | a :: l, xs => fun ⟨c, ys, h1, h2, h3⟩ j v hj => by
    obtain ⟨k0, s0, a1, l1, c1, hc⟩ := h2.shape
    cases j with
    | zero =>
      simp at hj; subst hj
      refine ⟨c, h2, fun i u hi => ?_⟩
      rw [h1, Nat.zero_mul, Nat.zero_add, List.getElem?_append_left (List.getElem?_eq_some_iff.1 hi).1]
      exact hi
    | succ j =>
      obtain ⟨d, h4, h5⟩ := ItsAt.get l ys h3 j v (by simpa using hj)
      refine ⟨d, h4, fun i u hi => ?_⟩
      have := h5 i u hi
      rw [h1, List.getElem?_append_right (by rw [hc]; simp; omega)]
      rw [hc]
      simpa [show (j + 1) * 3 + i - 3 = j * 3 + i by omega] using this

/-- a place of a slice -/
theorem RowAt.place {w : World} {size : Nat} {sl : Value} {n : Nat} {xs : List Value} (h : RowAt (Cw w) size sl n xs) :
    ∃ a cap, sl = .slice a n cap ∧ n ≤ maxLen ∧ (0 < n → ∃ T off, a = some ⟨T, off, none⟩ ∧ ∀ j u, xs[j]? = some u → Cw w T (off + j) u) := by
  obtain ⟨a, cap, h1, h2, h3, h4, h5⟩ := h
  refine ⟨a, cap, h1, by omega, fun hn => ?_⟩
  rcases h5 with h5 | h5
  · omega
  · exact h5

set_option maxRecDepth 100000 in
set_option maxHeartbeats 2000000 in
theorem sameTexts_yes (ks : List Bs) (s1 s2 : Value) (w : World) (h1 : RowAt (Cw w) 1 s1 ks.length (ks.map str)) (h2 : RowAt (Cw w) 1 s2 ks.length (ks.map str)) :
    Calls Tryz.prog 44 #[s1, s2] w (Yes w) := by
  obtain ⟨a1, c1, rfl, hm, hr1⟩ := h1.place
  obtain ⟨a2, c2, rfl, _, hr2⟩ := h2.place
  have hm : (ks.length : Int) ≤ 9223372036854775807 := by unfold maxLen at hm; omega
  have H := Lib.hid (And.intro hr1 hr2)
  clear h1 h2 hr1 hr2
  go_enter Tryz.func44, Tryz.ntmps44
  go_wp2_with fail
  go_loopg [5] ks.length (fun k i wr => ∃ j : Nat, j + k = ks.length ∧ i = .int .i64 j ∧ Below w.heap.size w wr)
  case atStart => exact ⟨0, by simp, rfl, .refl _ _⟩
  case round =>
    obtain ⟨j, hsum, rfl, hb⟩ := hrel
    have HB := Lib.hid hb
    clear hb
    cases gk with
    | zero =>
      go_wp2_with fail
      go_ret
      exact ⟨rfl, HB.out⟩
    | succ k =>
      obtain ⟨T1, o1, rfl, g1⟩ := H.out.1 (by omega)
      obtain ⟨T2, o2, rfl, g2⟩ := H.out.2 (by omega)
      obtain ⟨s, hs⟩ : ∃ s, ks[j]? = some s := ⟨ks[j]'(by omega), List.getElem?_eq_getElem (by omega)⟩
      have q1 : wr.cell? ⟨T1, o1 + j, none⟩ = some (str s) := (Cw.below HB.out _ _ _ (g1 j (str s) (by simp [hs]))).2
      have q2 : wr.cell? ⟨T2, o2 + j, none⟩ = some (str s) := (Cw.below HB.out _ _ _ (g2 j (str s) (by simp [hs]))).2
      have hj0 : (0 : Int) ≤ (j : Int) := Int.natCast_nonneg _
      have hj1 : (j : Int) < (ks.length : Int) := by omega
      clear g1 g2 hs
      go_wp2_with fail
      go_quiet (fail)
      go_wp2_with fail
      go_roundg k
      case measure => omega
      case rel => exact ⟨j + 1, by omega, by go_num, ⟨HB.out.os, HB.out.tape, HB.out.output, HB.out.size, HB.out.block⟩⟩

set_option maxRecDepth 100000 in
set_option maxHeartbeats 4000000 in
theorem sameType_yes (n : Nat) : ∀ (t : ITy) (c1 c2 : List Value) (w : World), SizeOf.sizeOf t < n → ItAt (Cw w) t c1 → ItAt (Cw w) t c2 → Calls Tryz.prog 26 #[.agg c1.toArray, .agg c2.toArray] w (Yes w) := by
  induction n with
  | zero => intro t c1 c2 w h; omega
  | succ n ih =>
  intro t c1 c2 w hn h1 h2
  cases t with
  | mk kd s l =>
  obtain ⟨sl1, x1, rfl, p1, e1⟩ := h1
  obtain ⟨sl2, x2, rfl, p2, e2⟩ := h2
  obtain ⟨a1, cap1, rfl, hm, hr1⟩ := p1.place
  obtain ⟨a2, cap2, rfl, _, hr2⟩ := p2.place
  have hm : (l.length : Int) ≤ 9223372036854775807 := by unfold maxLen at hm; omega
  obtain ⟨W, hW⟩ : ∃ W, W = (w.alloc (.cells #[numV kd, str s, .slice a1 l.length cap1] 105)).alloc (.cells #[numV kd, str s, .slice a2 l.length cap2] 105) := ⟨_, rfl⟩
  have hbW : Below w.heap.size w W := by rw [hW]; exact ((Below.refl _ _).alloc (Nat.le_refl _) _).alloc (by simp) _
  have hb1 : Bl W w.heap.size #[numV kd, str s, .slice a1 l.length cap1] 105 := by rw [hW]; exact (Bl.new w _ _).alloc _
  have hb2 : Bl W (w.heap.size + 1) #[numV kd, str s, .slice a2 l.length cap2] 105 := by
    rw [hW]
    have := Bl.new (w.alloc (.cells #[numV kd, str s, .slice a1 l.length cap1] 105)) #[numV kd, str s, .slice a2 l.length cap2] 105
    simpa using this
  have hlt : ∀ v, v ∈ l → SizeOf.sizeOf v < n := fun v hv => by have := List.sizeOf_lt_of_mem hv; simp at hn; omega
  have H := Lib.hid (And.intro hr1 (And.intro hr2 (And.intro e1 (And.intro e2 (And.intro hbW (And.intro hb1 (And.intro hb2 hlt)))))))
  have g0 : W.cell? ⟨w.heap.size, 2, none⟩ = some (.slice a1 l.length cap1) := hb1.cell 2
  have g1 : W.cell? ⟨w.heap.size + 1, 2, none⟩ = some (.slice a2 l.length cap2) := hb2.cell 2
  clear p1 p2 hr1 hr2 e1 e2 hbW hb1 hb2 hlt hn
  go_enter Tryz.func26, Tryz.ntmps26
  go_wp2_with fail
  rw [← hW]
  clear hW
  go_loopg [5] l.length (fun k i wr => ∃ j : Nat, j + k = l.length ∧ i = .int .i64 j ∧ Below W.heap.size W wr)
  case atStart => exact ⟨0, by simp, rfl, .refl _ _⟩
  case round =>
    obtain ⟨j, hsum, rfl, hb⟩ := hrel
    have r0 : wr.cell? ⟨w.heap.size, 2, none⟩ = some (.slice a1 l.length cap1) := (H.out.2.2.2.2.2.1.below hb H.out.2.2.2.2.2.1.lt).cell 2
    have HB := Lib.hid hb
    clear hb
    cases gk with
    | zero =>
      go_wp2_with fail
      go_ret
      exact ⟨rfl, H.out.2.2.2.2.1.trans (HB.out.mono H.out.2.2.2.2.1.size)⟩
    | succ k =>
      obtain ⟨T1, o1, rfl, k1⟩ := H.out.1 (by omega)
      obtain ⟨T2, o2, rfl, k2⟩ := H.out.2.1 (by omega)
      obtain ⟨v, hv⟩ : ∃ v, l[j]? = some v := ⟨l[j]'(by omega), List.getElem?_eq_getElem (by omega)⟩
      obtain ⟨d1, i1, m1⟩ := ItsAt.get _ _ H.out.2.2.1 j v hv
      obtain ⟨d2, i2, m2⟩ := ItsAt.get _ _ H.out.2.2.2.1 j v hv
      obtain ⟨kd1, st1, b1, l1, cc1, rfl⟩ := i1.shape
      obtain ⟨kd2, st2, b2, l2, cc2, rfl⟩ := i2.shape
      have hbw : Below w.heap.size w wr := H.out.2.2.2.2.1.trans (HB.out.mono H.out.2.2.2.2.1.size)
      have hS : ∀ V, Below wr.heap.size wr V → V.cell? ⟨w.heap.size, 2, none⟩ = some (.slice (some ⟨T1, o1, none⟩) l.length cap1) ∧ V.cell? ⟨w.heap.size + 1, 2, none⟩ = some (.slice (some ⟨T2, o2, none⟩) l.length cap2) ∧
          V.cell? ⟨T1, o1 + j * 3, none⟩ = some (numV kd1) ∧ V.cell? ⟨T1, o1 + j * 3 + 1, none⟩ = some (str st1) ∧ V.cell? ⟨T1, o1 + j * 3 + 2, none⟩ = some (.slice b1 l1 cc1) ∧
          V.cell? ⟨T2, o2 + j * 3, none⟩ = some (numV kd2) ∧ V.cell? ⟨T2, o2 + j * 3 + 1, none⟩ = some (str st2) ∧ V.cell? ⟨T2, o2 + j * 3 + 2, none⟩ = some (.slice b2 l2 cc2) := fun V hV => by
        have hw := hbw.trans (hV.mono hbw.size)
        have hWV := HB.out.trans (hV.mono HB.out.size)
        refine ⟨(H.out.2.2.2.2.2.1.below hWV H.out.2.2.2.2.2.1.lt).cell 2, (H.out.2.2.2.2.2.2.1.below hWV H.out.2.2.2.2.2.2.1.lt).cell 2, ?_, ?_, ?_, ?_, ?_, ?_⟩
        · exact (Cw.below hw _ _ _ (k1 _ _ (m1 0 _ rfl))).2
        · exact (Cw.below hw _ _ _ (k1 _ _ (m1 1 _ rfl))).2
        · exact (Cw.below hw _ _ _ (k1 _ _ (m1 2 _ rfl))).2
        · exact (Cw.below hw _ _ _ (k2 _ _ (m2 0 _ rfl))).2
        · exact (Cw.below hw _ _ _ (k2 _ _ (m2 1 _ rfl))).2
        · exact (Cw.below hw _ _ _ (k2 _ _ (m2 2 _ rfl))).2
      have hcall := ih v _ _ wr.drew (H.out.2.2.2.2.2.2.2 v (List.mem_of_getElem? hv)) (ItAt.mono (Cw.below (w' := wr.drew) hbw.drew) _ _ i1) (ItAt.mono (Cw.below (w' := wr.drew) hbw.drew) _ _ i2)
      have HC := Lib.hid hcall
      have HS := Lib.hid hS
      have s0 := HS.out wr.drew ⟨rfl, rfl, rfl, Nat.le_refl _, fun _ _ => rfl⟩
      have hj0 : (0 : Int) ≤ (j : Int) := Int.natCast_nonneg _
      have hj1 : (j : Int) < (l.length : Int) := by omega
      clear k1 k2 hv i1 m1 i2 m2 hbw hS hcall
      go_wp2_with fail
      go_region_held3 (fun V => V.cell? ⟨w.heap.size, 2, none⟩ = some (.slice (some ⟨T1, o1, none⟩) l.length cap1) ∧ V.cell? ⟨w.heap.size + 1, 2, none⟩ = some (.slice (some ⟨T2, o2, none⟩) l.length cap2) ∧
          V.cell? ⟨T1, o1 + j * 3, none⟩ = some (numV kd1) ∧ V.cell? ⟨T1, o1 + j * 3 + 1, none⟩ = some (str st1) ∧ V.cell? ⟨T1, o1 + j * 3 + 2, none⟩ = some (.slice b1 l1 cc1) ∧
          V.cell? ⟨T2, o2 + j * 3, none⟩ = some (numV kd2) ∧ V.cell? ⟨T2, o2 + j * 3 + 1, none⟩ = some (str st2) ∧ V.cell? ⟨T2, o2 + j * 3 + 2, none⟩ = some (.slice b2 l2 cc2)) (first | exact s0 | exact s1) ((
        go_at_call 26
        refine HC.out.mono ?_
        rintro e w3 ⟨rfl, hb3⟩
        have hb3 : Below wr.heap.size wr w3 := ⟨hb3.os, hb3.tape, hb3.output, hb3.size, hb3.block⟩
        have s1 := HS.out w3 hb3
        have H3 := Lib.hid hb3
        clear hb3))
      clear s0 s1
      go_wp2_with fail
      go_roundg k
      case measure => omega
      case rel => exact ⟨j + 1, by omega, by go_num, HB.out.trans (H3.out.mono HB.out.size)⟩

end Go.Proofs.YtobiaaabikfglaaGreatDoor

/-
  Two values of impl's that are the same: sameValue by a contract. No conditions but lengths.
-/
namespace Go.Proofs.YtobiaaabikfglaaGreatDoor
open Go.RowKit Go.Proofs.YtobiaaabikfglaaGreatDoor.Pq Go.Lib

set_option maxRecDepth 100000 in
set_option maxHeartbeats 4000000 in
theorem sameValue_yes (n : Nat) : ∀ (t : IVal) (c1 c2 : List Value) (w : World), SizeOf.sizeOf t < n → IvAt (Cw w) t c1 → IvAt (Cw w) t c2 → Calls Tryz.prog 27 #[.agg c1.toArray, .agg c2.toArray] w (Yes w) := by
  induction n with
  | zero => intro t c1 c2 w h; omega
  | succ n ih =>
  intro t c1 c2 w hn h1 h2
  cases t with
  | mk kd s l ks =>
  obtain ⟨sl1, x1, sk1, rfl, p1, e1, y1⟩ := h1
  obtain ⟨sl2, x2, sk2, rfl, p2, e2, y2⟩ := h2
  have y10 := y1
  have y20 := y2
  obtain ⟨a3, cap3, rfl, _, _⟩ := y1.place
  obtain ⟨a4, cap4, rfl, _, _⟩ := y2.place
  obtain ⟨a1, cap1, rfl, hm, hr1⟩ := p1.place
  obtain ⟨a2, cap2, rfl, _, hr2⟩ := p2.place
  have hm : (l.length : Int) ≤ 9223372036854775807 := by unfold maxLen at hm; omega
  obtain ⟨W, hW⟩ : ∃ W, W = (w.alloc (.cells #[numV kd, str s, .slice a1 l.length cap1, .slice a3 ks.length cap3] 79)).alloc (.cells #[numV kd, str s, .slice a2 l.length cap2, .slice a4 ks.length cap4] 79) := ⟨_, rfl⟩
  have hbW : Below w.heap.size w W := by rw [hW]; exact ((Below.refl _ _).alloc (Nat.le_refl _) _).alloc (by simp) _
  have hb1 : Bl W w.heap.size #[numV kd, str s, .slice a1 l.length cap1, .slice a3 ks.length cap3] 79 := by rw [hW]; exact (Bl.new w _ _).alloc _
  have hb2 : Bl W (w.heap.size + 1) #[numV kd, str s, .slice a2 l.length cap2, .slice a4 ks.length cap4] 79 := by
    rw [hW]
    have := Bl.new (w.alloc (.cells #[numV kd, str s, .slice a1 l.length cap1, .slice a3 ks.length cap3] 79)) #[numV kd, str s, .slice a2 l.length cap2, .slice a4 ks.length cap4] 79
    simpa using this
  have hlt : ∀ v, v ∈ l → SizeOf.sizeOf v < n := fun v hv => by have := List.sizeOf_lt_of_mem hv; simp at hn; omega
  have HT := Lib.hid (sameTexts_yes ks _ _ W (y10.mono (Cw.below hbW)) (y20.mono (Cw.below hbW)))
  have H := Lib.hid (And.intro hr1 (And.intro hr2 (And.intro e1 (And.intro e2 (And.intro hbW (And.intro hb1 (And.intro hb2 hlt)))))))
  have g0 : W.cell? ⟨w.heap.size, 2, none⟩ = some (.slice a1 l.length cap1) := hb1.cell 2
  have g1 : W.cell? ⟨w.heap.size + 1, 2, none⟩ = some (.slice a2 l.length cap2) := hb2.cell 2
  clear y1 y2 y10 y20 p1 p2 hr1 hr2 e1 e2 hbW hb1 hb2 hlt hn
  go_enter Tryz.func27, Tryz.ntmps27
  go_wp2_with fail
  rw [← hW]
  clear hW
  refine HT.out.mono ?_
  rintro e w2 ⟨rfl, hb2⟩
  have HW2 := Lib.hid hb2
  clear hb2
  go_wp2_with fail
  go_loopg [5] l.length (fun k i wr => ∃ j : Nat, j + k = l.length ∧ i = .int .i64 j ∧ Below W.heap.size W wr)
  case atStart => exact ⟨0, by simp, rfl, HW2.out⟩
  case round =>
    obtain ⟨j, hsum, rfl, hb⟩ := hrel
    have r0 : wr.cell? ⟨w.heap.size, 2, none⟩ = some (.slice a1 l.length cap1) := (H.out.2.2.2.2.2.1.below hb H.out.2.2.2.2.2.1.lt).cell 2
    have HB := Lib.hid hb
    clear hb
    cases gk with
    | zero =>
      go_wp2_with fail
      go_ret
      exact ⟨rfl, H.out.2.2.2.2.1.trans (HB.out.mono H.out.2.2.2.2.1.size)⟩
    | succ k =>
      obtain ⟨T1, o1, rfl, k1⟩ := H.out.1 (by omega)
      obtain ⟨T2, o2, rfl, k2⟩ := H.out.2.1 (by omega)
      obtain ⟨v, hv⟩ : ∃ v, l[j]? = some v := ⟨l[j]'(by omega), List.getElem?_eq_getElem (by omega)⟩
      obtain ⟨d1, i1, m1⟩ := IvsAt.get _ _ H.out.2.2.1 j v hv
      obtain ⟨d2, i2, m2⟩ := IvsAt.get _ _ H.out.2.2.2.1 j v hv
      obtain ⟨kd1, st1, b1, l1, cc1, b3, l3, cc3, rfl⟩ := i1.shape
      obtain ⟨kd2, st2, b2, l2, cc2, b4, l4, cc4, rfl⟩ := i2.shape
      have hbw : Below w.heap.size w wr := H.out.2.2.2.2.1.trans (HB.out.mono H.out.2.2.2.2.1.size)
      have hS : ∀ V, Below wr.heap.size wr V → V.cell? ⟨w.heap.size, 2, none⟩ = some (.slice (some ⟨T1, o1, none⟩) l.length cap1) ∧ V.cell? ⟨w.heap.size + 1, 2, none⟩ = some (.slice (some ⟨T2, o2, none⟩) l.length cap2) ∧
          V.cell? ⟨T1, o1 + j * 4, none⟩ = some (numV kd1) ∧ V.cell? ⟨T1, o1 + j * 4 + 1, none⟩ = some (str st1) ∧ V.cell? ⟨T1, o1 + j * 4 + 2, none⟩ = some (.slice b1 l1 cc1) ∧ V.cell? ⟨T1, o1 + j * 4 + 3, none⟩ = some (.slice b3 l3 cc3) ∧
          V.cell? ⟨T2, o2 + j * 4, none⟩ = some (numV kd2) ∧ V.cell? ⟨T2, o2 + j * 4 + 1, none⟩ = some (str st2) ∧ V.cell? ⟨T2, o2 + j * 4 + 2, none⟩ = some (.slice b2 l2 cc2) ∧ V.cell? ⟨T2, o2 + j * 4 + 3, none⟩ = some (.slice b4 l4 cc4) := fun V hV => by
        have hw := hbw.trans (hV.mono hbw.size)
        have hWV := HB.out.trans (hV.mono HB.out.size)
        refine ⟨(H.out.2.2.2.2.2.1.below hWV H.out.2.2.2.2.2.1.lt).cell 2, (H.out.2.2.2.2.2.2.1.below hWV H.out.2.2.2.2.2.2.1.lt).cell 2, ?_, ?_, ?_, ?_, ?_, ?_, ?_, ?_⟩
        · exact (Cw.below hw _ _ _ (k1 _ _ (m1 0 _ rfl))).2
        · exact (Cw.below hw _ _ _ (k1 _ _ (m1 1 _ rfl))).2
        · exact (Cw.below hw _ _ _ (k1 _ _ (m1 2 _ rfl))).2
        · exact (Cw.below hw _ _ _ (k1 _ _ (m1 3 _ rfl))).2
        · exact (Cw.below hw _ _ _ (k2 _ _ (m2 0 _ rfl))).2
        · exact (Cw.below hw _ _ _ (k2 _ _ (m2 1 _ rfl))).2
        · exact (Cw.below hw _ _ _ (k2 _ _ (m2 2 _ rfl))).2
        · exact (Cw.below hw _ _ _ (k2 _ _ (m2 3 _ rfl))).2
      have hcall := ih v _ _ wr.drew (H.out.2.2.2.2.2.2.2 v (List.mem_of_getElem? hv)) (IvAt.mono (Cw.below (w' := wr.drew) hbw.drew) _ _ i1) (IvAt.mono (Cw.below (w' := wr.drew) hbw.drew) _ _ i2)
      have HC := Lib.hid hcall
      have HS := Lib.hid hS
      have s0 := HS.out wr.drew ⟨rfl, rfl, rfl, Nat.le_refl _, fun _ _ => rfl⟩
      have hj0 : (0 : Int) ≤ (j : Int) := Int.natCast_nonneg _
      have hj1 : (j : Int) < (l.length : Int) := by omega
      clear k1 k2 hv i1 m1 i2 m2 hbw hS hcall
      go_wp2_with fail
      go_region_held3 (fun V => V.cell? ⟨w.heap.size, 2, none⟩ = some (.slice (some ⟨T1, o1, none⟩) l.length cap1) ∧ V.cell? ⟨w.heap.size + 1, 2, none⟩ = some (.slice (some ⟨T2, o2, none⟩) l.length cap2) ∧
          V.cell? ⟨T1, o1 + j * 4, none⟩ = some (numV kd1) ∧ V.cell? ⟨T1, o1 + j * 4 + 1, none⟩ = some (str st1) ∧ V.cell? ⟨T1, o1 + j * 4 + 2, none⟩ = some (.slice b1 l1 cc1) ∧ V.cell? ⟨T1, o1 + j * 4 + 3, none⟩ = some (.slice b3 l3 cc3) ∧
          V.cell? ⟨T2, o2 + j * 4, none⟩ = some (numV kd2) ∧ V.cell? ⟨T2, o2 + j * 4 + 1, none⟩ = some (str st2) ∧ V.cell? ⟨T2, o2 + j * 4 + 2, none⟩ = some (.slice b2 l2 cc2) ∧ V.cell? ⟨T2, o2 + j * 4 + 3, none⟩ = some (.slice b4 l4 cc4)) (first | exact s0 | exact s1) ((
        go_at_call 27
        refine HC.out.mono ?_
        rintro e w3 ⟨rfl, hb3⟩
        have hb3 : Below wr.heap.size wr w3 := ⟨hb3.os, hb3.tape, hb3.output, hb3.size, hb3.block⟩
        have s1 := HS.out w3 hb3
        have H3 := Lib.hid hb3
        clear hb3))
      clear s0 s1
      go_wp2_with fail
      go_roundg k
      case measure => omega
      case rel => exact ⟨j + 1, by omega, by go_num, HB.out.trans (H3.out.mono HB.out.size)⟩

theorem sameValue_any (t : IVal) (c1 c2 : List Value) (w : World) (h1 : IvAt (Cw w) t c1) (h2 : IvAt (Cw w) t c2) : Calls Tryz.prog 27 #[.agg c1.toArray, .agg c2.toArray] w (Yes w) :=
  sameValue_yes (SizeOf.sizeOf t + 1) t c1 c2 w (Nat.lt_succ_self _) h1 h2

theorem sameType_any (t : ITy) (c1 c2 : List Value) (w : World) (h1 : ItAt (Cw w) t c1) (h2 : ItAt (Cw w) t c2) : Calls Tryz.prog 26 #[.agg c1.toArray, .agg c2.toArray] w (Yes w) :=
  sameType_yes (SizeOf.sizeOf t + 1) t c1 c2 w (Nat.lt_succ_self _) h1 h2

end Go.Proofs.YtobiaaabikfglaaGreatDoor

/-
  Two lists of directives, of arguments that are the same: sameDirs, sameArgs by contracts. No conditions but lengths.
-/
namespace Go.Proofs.YtobiaaabikfglaaGreatDoor
open Go.RowKit Go.Proofs.YtobiaaabikfglaaGreatDoor.Pq Go.Lib

theorem IdsAt.get {C : Ck} : ∀ (l : List IDir) (xs : List Value), IdsAt C l xs → ∀ (j : Nat) (n : Bs) (gs : List IArg), l[j]? = some (.mk n gs) → ∃ sl, IalAt C gs sl ∧ xs[j * 2]? = some (str n) ∧ xs[j * 2 + 1]? = some sl
  | [], xs => fun _ j v _ hj => by simp at hj
  | .mk m hs :: l, xs => fun ⟨c, ys, h1, h2, h3⟩ j n gs hj => by
    obtain ⟨sl, zs, hc, h4, h5⟩ := h2
    cases j with
    | zero =>
      simp at hj
      obtain ⟨rfl, rfl⟩ := hj
      exact ⟨sl, ⟨zs, h4, h5⟩, by rw [h1, hc]; rfl, by rw [h1, hc]; rfl⟩
    | succ j =>
      obtain ⟨sl', h6, h7, h8⟩ := IdsAt.get l ys h3 j n gs (by simpa using hj)
      refine ⟨sl', h6, ?_, ?_⟩
      · rw [h1, hc, List.getElem?_append_right (by simp; omega)]
        simpa [show (j + 1) * 2 - 2 = j * 2 by omega] using h7
      · rw [h1, hc, List.getElem?_append_right (by simp; omega)]
        simpa [show (j + 1) * 2 + 1 - 2 = j * 2 + 1 by omega] using h8

theorem IasAt.get {C : Ck} : ∀ (l : List IArg) (xs : List Value), IasAt C l xs → ∀ (j : Nat) (n : Bs) (v : IVal) (ds : List IDir), l[j]? = some (n, v, ds) →
    ∃ c sl, IvAt C v c ∧ IdlAt C ds sl ∧ ∀ i u, (str n :: c ++ [sl])[i]? = some u → xs[j * 6 + i]? = some u
  | [], xs => fun _ j v _ _ hj => by simp at hj
  | (m, u, es) :: l, xs => fun ⟨c, sl, zs, ys, h1, h2, h3, h4, h5⟩ j n v ds hj => by
    obtain ⟨k0, s0, a1, l1, c1, a2, l2, c2, hc⟩ := h2.shape
    cases j with
    | zero =>
      simp at hj
      obtain ⟨rfl, rfl, rfl⟩ := hj
      refine ⟨c, sl, h2, ⟨zs, h3, h4⟩, fun i u hi => ?_⟩
      rw [h1, Nat.zero_mul, Nat.zero_add, List.getElem?_append_left (List.getElem?_eq_some_iff.1 hi).1]
      exact hi
    | succ j =>
      obtain ⟨c', sl', h6, h7, h8⟩ := IasAt.get l ys h5 j n v ds (by simpa using hj)
      refine ⟨c', sl', h6, h7, fun i u hi => ?_⟩
      have := h8 i u hi
      rw [h1, List.getElem?_append_right (by rw [hc]; simp; omega)]
      rw [hc]
      simpa [show (j + 1) * 6 + i - 6 = j * 6 + i by omega] using this

def SDirs (n : Nat) : Prop := ∀ (ds : List IDir) (s1 s2 : Value) (w : World), (∀ d, d ∈ ds → SizeOf.sizeOf d < n) → IdlAt (Cw w) ds s1 → IdlAt (Cw w) ds s2 → Calls Tryz.prog 19 #[s1, s2] w (Yes w)
def SArgs (n : Nat) : Prop := ∀ (gs : List IArg) (s1 s2 : Value) (w : World), (∀ g, g ∈ gs → ∀ d, d ∈ g.2.2 → SizeOf.sizeOf d < n) → IalAt (Cw w) gs s1 → IalAt (Cw w) gs s2 → Calls Tryz.prog 28 #[s1, s2] w (Yes w)

set_option maxRecDepth 100000 in
set_option maxHeartbeats 4000000 in
theorem sameDirs_step (n : Nat) (ih : ∀ m, m < n → SArgs m) : SDirs n := by
  intro ds s1 s2 w hn h1 h2
  obtain ⟨x1, p1, e1⟩ := h1
  obtain ⟨x2, p2, e2⟩ := h2
  obtain ⟨a1, cap1, rfl, hm, hr1⟩ := p1.place
  obtain ⟨a2, cap2, rfl, _, hr2⟩ := p2.place
  have hm : (ds.length : Int) ≤ 9223372036854775807 := by unfold maxLen at hm; omega
  have H := Lib.hid (And.intro hr1 (And.intro hr2 (And.intro e1 (And.intro e2 hn))))
  clear p1 p2 hr1 hr2 e1 e2 hn
  go_enter Tryz.func19, Tryz.ntmps19
  go_wp2_with fail
  go_loopg [5] ds.length (fun k i wr => ∃ j : Nat, j + k = ds.length ∧ i = .int .i64 j ∧ Below w.heap.size w wr)
  case atStart => exact ⟨0, by simp, rfl, .refl _ _⟩
  case round =>
    obtain ⟨j, hsum, rfl, hb⟩ := hrel
    have HB := Lib.hid hb
    clear hb
    cases gk with
    | zero =>
      go_wp2_with fail
      go_ret
      exact ⟨rfl, HB.out⟩
    | succ k =>
      obtain ⟨T1, o1, rfl, k1⟩ := H.out.1 (by omega)
      obtain ⟨T2, o2, rfl, k2⟩ := H.out.2.1 (by omega)
      obtain ⟨v, hv⟩ : ∃ v, ds[j]? = some v := ⟨ds[j]'(by omega), List.getElem?_eq_getElem (by omega)⟩
      have hvm := List.mem_of_getElem? hv
      obtain ⟨nm, gs⟩ := v
      obtain ⟨g1, i1, m1, m1'⟩ := IdsAt.get _ _ H.out.2.2.1 j nm gs hv
      obtain ⟨g2, i2, m2, m2'⟩ := IdsAt.get _ _ H.out.2.2.2.1 j nm gs hv
      obtain ⟨b1, l1, cc1, rfl⟩ := i1.shape
      obtain ⟨b2, l2, cc2, rfl⟩ := i2.shape
      have hS : ∀ V, Below wr.heap.size wr V → V.cell? ⟨T1, o1 + j * 2, none⟩ = some (str nm) ∧ V.cell? ⟨T1, o1 + j * 2 + 1, none⟩ = some (.slice b1 l1 cc1) ∧
          V.cell? ⟨T2, o2 + j * 2, none⟩ = some (str nm) ∧ V.cell? ⟨T2, o2 + j * 2 + 1, none⟩ = some (.slice b2 l2 cc2) := fun V hV => by
        have hw := HB.out.trans (hV.mono HB.out.size)
        exact ⟨(Cw.below hw _ _ _ (k1 _ _ m1)).2, (Cw.below hw _ _ _ (k1 _ _ m1')).2, (Cw.below hw _ _ _ (k2 _ _ m2)).2, (Cw.below hw _ _ _ (k2 _ _ m2')).2⟩
      have hcall := ih _ (H.out.2.2.2.2 _ hvm) gs _ _ wr.drew (fun g hg d hd => by
          have h1 := List.sizeOf_lt_of_mem hg
          have h2 := List.sizeOf_lt_of_mem hd
          obtain ⟨a, b, c⟩ := g
          simp at h1 h2 ⊢
          omega) (i1.mono (Cw.below (w' := wr.drew) HB.out.drew)) (i2.mono (Cw.below (w' := wr.drew) HB.out.drew))
      have HC := Lib.hid hcall
      have HS := Lib.hid hS
      have s0 := HS.out wr.drew ⟨rfl, rfl, rfl, Nat.le_refl _, fun _ _ => rfl⟩
      have hj0 : (0 : Int) ≤ (j : Int) := Int.natCast_nonneg _
      have hj1 : (j : Int) < (ds.length : Int) := by omega
      clear k1 k2 hv i1 m1 m1' i2 m2 m2' hS hcall hvm
      go_wp2_with fail
      go_region_held3 (fun V => V.cell? ⟨T1, o1 + j * 2, none⟩ = some (str nm) ∧ V.cell? ⟨T1, o1 + j * 2 + 1, none⟩ = some (.slice b1 l1 cc1) ∧
          V.cell? ⟨T2, o2 + j * 2, none⟩ = some (str nm) ∧ V.cell? ⟨T2, o2 + j * 2 + 1, none⟩ = some (.slice b2 l2 cc2)) (first | exact s0 | exact s1) ((
        go_at_call 28
        refine HC.out.mono ?_
        rintro e w3 ⟨rfl, hb3⟩
        have hb3 : Below wr.heap.size wr w3 := ⟨hb3.os, hb3.tape, hb3.output, hb3.size, hb3.block⟩
        have s1 := HS.out w3 hb3
        have H3 := Lib.hid hb3
        clear hb3))
      clear s0 s1
      go_wp2_with fail
      go_roundg k
      case measure => omega
      case rel => exact ⟨j + 1, by omega, by go_num, HB.out.trans (H3.out.mono HB.out.size)⟩

end Go.Proofs.YtobiaaabikfglaaGreatDoor
