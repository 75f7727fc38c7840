/-
  Two lists of arguments that are the same: sameArgs by a contract; all depths. No conditions but lengths.
-/
import Derived.Test.YtobiaaabikfglaaGreatDoorR33
namespace Go.Proofs.YtobiaaabikfglaaGreatDoor
open Go.RowKit Go.Proofs.YtobiaaabikfglaaGreatDoor.Pq Go.Lib

set_option maxRecDepth 100000 in
set_option maxHeartbeats 4000000 in
theorem sameArgs_step (n : Nat) (ih : SDirs n) : SArgs n := by
  intro ds s1 s2 w hn h1 h2
  obtain ⟨x1, p1, e1⟩ := h1
  obtain ⟨x2, p2, e2⟩ := h2
  obtain ⟨a1, cap1, rfl, hm, hr1⟩ := p1.place
  obtain ⟨a2, cap2, rfl, _, hr2⟩ := p2.place
  have hm : (ds.length : Int) ≤ 9223372036854775807 := by unfold maxLen at hm; omega
  have H := Lib.hid (And.intro hr1 (And.intro hr2 (And.intro e1 (And.intro e2 hn))))
  clear p1 p2 hr1 hr2 e1 e2 hn
  go_enter Tryz.func28, Tryz.ntmps28
  go_wp2_with fail
  go_loopg [5] ds.length (fun k i wr => ∃ j : Nat, j + k = ds.length ∧ i = .int .i64 j ∧ Below w.heap.size w wr)
  case atStart => exact ⟨0, by simp, rfl, .refl _ _⟩
  case round =>
    obtain ⟨j, hsum, rfl, hb⟩ := hrel
    have HB := Lib.hid hb
    clear hb
    cases gk with
    | zero =>
      go_wp2_with fail
      go_ret
      exact ⟨rfl, HB.out⟩
    | succ k =>
      obtain ⟨T1, o1, rfl, k1⟩ := H.out.1 (by omega)
      obtain ⟨T2, o2, rfl, k2⟩ := H.out.2.1 (by omega)
      obtain ⟨v, hv⟩ : ∃ v, ds[j]? = some v := ⟨ds[j]'(by omega), List.getElem?_eq_getElem (by omega)⟩
      have hvm := List.mem_of_getElem? hv
      obtain ⟨nm, v0, es⟩ := v
      obtain ⟨y1, g1, q1, i1, m1⟩ := IasAt.get _ _ H.out.2.2.1 j nm v0 es hv
      obtain ⟨y2, g2, q2, i2, m2⟩ := IasAt.get _ _ H.out.2.2.2.1 j nm v0 es hv
      obtain ⟨kd1, st1, b3, l3, cc3, b4, l4, cc4, rfl⟩ := q1.shape
      obtain ⟨kd2, st2, b5, l5, cc5, b6, l6, cc6, rfl⟩ := q2.shape
      obtain ⟨b1, l1, cc1, rfl⟩ := i1.shape
      obtain ⟨b2, l2, cc2, rfl⟩ := i2.shape
      have hS : ∀ V, Below wr.heap.size wr V → V.cell? ⟨T1, o1 + j * 6, none⟩ = some (str nm) ∧ V.cell? ⟨T1, o1 + j * 6 + 1, none⟩ = some (numV kd1) ∧ V.cell? ⟨T1, o1 + j * 6 + 2, none⟩ = some (str st1) ∧ V.cell? ⟨T1, o1 + j * 6 + 3, none⟩ = some (.slice b3 l3 cc3) ∧ V.cell? ⟨T1, o1 + j * 6 + 4, none⟩ = some (.slice b4 l4 cc4) ∧ V.cell? ⟨T1, o1 + j * 6 + 5, none⟩ = some (.slice b1 l1 cc1) ∧
          V.cell? ⟨T2, o2 + j * 6, none⟩ = some (str nm) ∧ V.cell? ⟨T2, o2 + j * 6 + 1, none⟩ = some (numV kd2) ∧ V.cell? ⟨T2, o2 + j * 6 + 2, none⟩ = some (str st2) ∧ V.cell? ⟨T2, o2 + j * 6 + 3, none⟩ = some (.slice b5 l5 cc5) ∧ V.cell? ⟨T2, o2 + j * 6 + 4, none⟩ = some (.slice b6 l6 cc6) ∧ V.cell? ⟨T2, o2 + j * 6 + 5, none⟩ = some (.slice b2 l2 cc2) := fun V hV => by
        have hw := HB.out.trans (hV.mono HB.out.size)
        refine ⟨?_, ?_, ?_, ?_, ?_, ?_, ?_, ?_, ?_, ?_, ?_, ?_⟩
        · exact (Cw.below hw _ _ _ (k1 _ _ (m1 0 _ rfl))).2
        · exact (Cw.below hw _ _ _ (k1 _ _ (m1 1 _ rfl))).2
        · exact (Cw.below hw _ _ _ (k1 _ _ (m1 2 _ rfl))).2
        · exact (Cw.below hw _ _ _ (k1 _ _ (m1 3 _ rfl))).2
        · exact (Cw.below hw _ _ _ (k1 _ _ (m1 4 _ rfl))).2
        · exact (Cw.below hw _ _ _ (k1 _ _ (m1 5 _ rfl))).2
        · exact (Cw.below hw _ _ _ (k2 _ _ (m2 0 _ rfl))).2
        · exact (Cw.below hw _ _ _ (k2 _ _ (m2 1 _ rfl))).2
        · exact (Cw.below hw _ _ _ (k2 _ _ (m2 2 _ rfl))).2
        · exact (Cw.below hw _ _ _ (k2 _ _ (m2 3 _ rfl))).2
        · exact (Cw.below hw _ _ _ (k2 _ _ (m2 4 _ rfl))).2
        · exact (Cw.below hw _ _ _ (k2 _ _ (m2 5 _ rfl))).2
      have hval := sameValue_any v0 _ _ wr.drew (IvAt.mono (Cw.below (w' := wr.drew) HB.out.drew) _ _ q1) (IvAt.mono (Cw.below (w' := wr.drew) HB.out.drew) _ _ q2)
      have hcall : ∀ V, Below wr.heap.size wr V → Calls Tryz.prog 19 #[.slice b1 l1 cc1, .slice b2 l2 cc2] V (Yes V) := fun V hV =>
        ih es _ _ V (fun d hd => H.out.2.2.2.2 _ hvm d hd) (i1.mono (Cw.below (HB.out.trans (hV.mono HB.out.size)))) (i2.mono (Cw.below (HB.out.trans (hV.mono HB.out.size))))
      have HC := Lib.hid (And.intro hval hcall)
      have HS := Lib.hid hS
      have s0 := HS.out wr.drew ⟨rfl, rfl, rfl, Nat.le_refl _, fun _ _ => rfl⟩
      have hj0 : (0 : Int) ≤ (j : Int) := Int.natCast_nonneg _
      have hj1 : (j : Int) < (ds.length : Int) := by omega
      clear k1 k2 hv i1 m1 i2 m2 q1 q2 hS hcall hval hvm
      go_wp2_with fail
      go_region_held3 (fun V => V.cell? ⟨T1, o1 + j * 6, none⟩ = some (str nm) ∧ V.cell? ⟨T1, o1 + j * 6 + 1, none⟩ = some (numV kd1) ∧ V.cell? ⟨T1, o1 + j * 6 + 2, none⟩ = some (str st1) ∧ V.cell? ⟨T1, o1 + j * 6 + 3, none⟩ = some (.slice b3 l3 cc3) ∧ V.cell? ⟨T1, o1 + j * 6 + 4, none⟩ = some (.slice b4 l4 cc4) ∧ V.cell? ⟨T1, o1 + j * 6 + 5, none⟩ = some (.slice b1 l1 cc1) ∧
          V.cell? ⟨T2, o2 + j * 6, none⟩ = some (str nm) ∧ V.cell? ⟨T2, o2 + j * 6 + 1, none⟩ = some (numV kd2) ∧ V.cell? ⟨T2, o2 + j * 6 + 2, none⟩ = some (str st2) ∧ V.cell? ⟨T2, o2 + j * 6 + 3, none⟩ = some (.slice b5 l5 cc5) ∧ V.cell? ⟨T2, o2 + j * 6 + 4, none⟩ = some (.slice b6 l6 cc6) ∧ V.cell? ⟨T2, o2 + j * 6 + 5, none⟩ = some (.slice b2 l2 cc2)) (first | exact s0 | exact s1 | exact s2) ((first
        | (go_at_call 27
           refine HC.out.1.mono ?_
           rintro e w3 ⟨rfl, hb3⟩
           have hb3 : Below wr.heap.size wr w3 := ⟨hb3.os, hb3.tape, hb3.output, hb3.size, hb3.block⟩
           have s1 := HS.out w3 hb3
           have H3 := Lib.hid hb3
           clear hb3)
        | (go_at_call 19
           refine (HC.out.2 w3 H3.out).mono ?_
           rintro e w4 ⟨rfl, hb4⟩
           have hb4 : Below wr.heap.size wr w4 := H3.out.trans (hb4.mono H3.out.size)
           have s2 := HS.out w4 hb4
           have H4 := Lib.hid hb4
           clear hb4)))
      clear s0 s1 s2
      go_wp2_with fail
      go_roundg k
      case measure => omega
      case rel => exact ⟨j + 1, by omega, by go_num, HB.out.trans (H4.out.mono HB.out.size)⟩

theorem sameDirs_all (n : Nat) : SDirs n := by
  induction n using Nat.strongRecOn with
  | ind n ih => exact sameDirs_step n (fun m hm => sameArgs_step m (ih m hm))

theorem sameDirs_any (ds : List IDir) (s1 s2 : Value) (w : World) (h1 : IdlAt (Cw w) ds s1) (h2 : IdlAt (Cw w) ds s2) : Calls Tryz.prog 19 #[s1, s2] w (Yes w) :=
  sameDirs_all (SizeOf.sizeOf ds) ds s1 s2 w (fun _d hd => List.sizeOf_lt_of_mem hd) h1 h2
theorem sameArgs_any (gs : List IArg) (s1 s2 : Value) (w : World) (h1 : IalAt (Cw w) gs s1) (h2 : IalAt (Cw w) gs s2) : Calls Tryz.prog 28 #[s1, s2] w (Yes w) :=
  sameArgs_step (SizeOf.sizeOf gs) (sameDirs_all _) gs s1 s2 w (fun g hg d hd => by
    have h1 := List.sizeOf_lt_of_mem hg
    have h2 := List.sizeOf_lt_of_mem hd
    obtain ⟨a, b, c⟩ := g
    simp at h1 h2 ⊢
    omega) h1 h2

end Go.Proofs.YtobiaaabikfglaaGreatDoor
