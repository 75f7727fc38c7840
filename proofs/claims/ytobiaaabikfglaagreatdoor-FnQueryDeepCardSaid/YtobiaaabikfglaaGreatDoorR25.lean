/-
  impl's conversion of values by a contract: objects; all values. No conditions but lengths.
-/
import Derived.Test.YtobiaaabikfglaaGreatDoorR24
namespace Go.Proofs.YtobiaaabikfglaaGreatDoor
open Go.RowKit Go.Proofs.YtobiaaabikfglaaGreatDoor.Pq Go.Lib

set_option maxRecDepth 100000 in
set_option maxHeartbeats 8000000 in
theorem value_obj (fs : List (Bs × Val)) (x : Value) (w : World) (ih : VConv (SizeOf.sizeOf (Val.obj fs))) (h : VAt (Bl w) (.obj fs) x) (hs : VSm FMax (.obj fs)) :
    Calls Tryz.prog 16 #[x] w (CRes IvAt (cVal (.obj fs)) w) := by
  obtain ⟨i0, hi, hz0, hz1, hz2⟩ := info_parts (by kernel_rfl : (Tryz.prog.info? 79).map (fun i => (i.zero, i.size, i.bytes)) = some (some (.agg #[.int .i64 0, .string ⟨#[]⟩, .slice none 0 0, .slice none 0 0]), 4, 72))
  obtain ⟨j0, ji, jz0, jz1, jz2⟩ := info_parts (by kernel_rfl : (Tryz.prog.info? 9).map (fun i => (i.zero, i.size, i.bytes)) = some (some (.string ⟨#[]⟩), 1, 16))
  obtain ⟨b, sl, src, l, c, rfl, h1, h2, h3⟩ := h
  obtain ⟨a0, cap0, rfl, hc1, hc2, hrd⟩ := h2.read
  have hlen := FsAt.len _ _ h3
  obtain ⟨w0, hw0⟩ : ∃ w0, w0 = (w.alloc (.cells #[numV 0, str [], .slice none 0 0, .slice none 0 0] 79)).alloc (.cells #[numV 8, str [], .slice none 0 0, .slice none 0 0] 79) := ⟨_, rfl⟩
  have hb0 : Below w.heap.size w w0 := by rw [hw0]; exact ((Below.refl _ _).alloc (Nat.le_refl _) _).alloc (by simp) _
  have hz : w0.heap.size = w.heap.size + 2 := by rw [hw0]; simp
  have hD : Bl w0 (w.heap.size + 1) #[numV 8, str [], .slice none 0 0, .slice none 0 0] 79 := by
    rw [hw0]
    have := Bl.new (w.alloc (.cells #[numV 0, str [], .slice none 0 0, .slice none 0 0] 79)) #[numV 8, str [], .slice none 0 0, .slice none 0 0] 79
    simpa using this
  have hR : Bl w0 w.heap.size #[numV 0, str [], .slice none 0 0, .slice none 0 0] 79 := by rw [hw0]; exact (Bl.new w _ _).alloc _
  have c0 : w0.cell? ⟨b, 0, none⟩ = some (.slice a0 src.length cap0) := (Bl.later hb0 _ _ _ h1).cell 0
  have t1 : ∀ (p : Value) (W : World), (Instr.typeAssert (.iface 154 p) 100 145 true).run Tryz.prog W = .ok (.tuple #[.pointer none, .bool false]) W := fun _ _ => by kernel_rfl
  have t2 : ∀ (p : Value) (W : World), (Instr.typeAssert (.iface 154 p) 100 146 true).run Tryz.prog W = .ok (.tuple #[.pointer none, .bool false]) W := fun _ _ => by kernel_rfl
  have t3 : ∀ (p : Value) (W : World), (Instr.typeAssert (.iface 154 p) 100 148 true).run Tryz.prog W = .ok (.tuple #[.pointer none, .bool false]) W := fun _ _ => by kernel_rfl
  have t4 : ∀ (p : Value) (W : World), (Instr.typeAssert (.iface 154 p) 100 150 true).run Tryz.prog W = .ok (.tuple #[.pointer none, .bool false]) W := fun _ _ => by kernel_rfl
  have t5 : ∀ (p : Value) (W : World), (Instr.typeAssert (.iface 154 p) 100 154 true).run Tryz.prog W = .ok (.tuple #[p, .bool true]) W := fun _ _ => by kernel_rfl
  have H := Lib.hid (And.intro hb0 (And.intro hz (And.intro hD (And.intro hR (And.intro h3 (And.intro hs (And.intro hrd hlen)))))))
  have HL := Lib.hid hlen
  have hc3 : (src.length : Int) ≤ 9223372036854775807 := by unfold maxLen at hc2; omega
  clear hb0 hz hD hR h1 h2 h3 hs hrd hlen hc1 hc2
  go_enter Tryz.func16, Tryz.ntmps16
  rw [hw0] at c0
  go_wp2_with fail
  rw [← hw0]
  rw [← hw0] at c0
  go_loopg [63] src.length (fun k i wr => ∃ j rest acc acck vl vk xl, ORel (fun u => SizeOf.sizeOf u < SizeOf.sizeOf (Val.obj fs) ∧ VSm FMax u) w (w.heap.size + 2) src.length src fs k i wr j rest acc acck vl vk xl (w.heap.size + 1))
  case atStart =>
    obtain ⟨k1, k2, k3, k4, k5, k6, k7, k8⟩ := H.out
    exact ⟨0, fs, [], [], .slice none 0 0, .slice none 0 0, [], rfl, by simp, by simpa using k5, k8.symm, FsSm.mem_obj k6.2, rfl, rfl, rfl, rfl, ⟨k1, ⟨World.ownsRow_nil _ _ _ 4, by omega⟩, ⟨World.ownsRow_nil _ _ _ 1, by omega⟩, (by simp [Value.ownBlock]), rfl, k3, k4, by omega, by omega⟩⟩
  case round =>
    obtain ⟨j, rest, acc, acck, vl, vk, xl, hV⟩ := hrel
    obtain ⟨al, ll, lc, rfl⟩ := hV.mid.rl.shape
    obtain ⟨ak, lk, ck, rfl⟩ := hV.mid.rk.shape
    obtain rfl := hV.idx
    have hsum := hV.sum
    have HV := Lib.hid hV
    clear hV
    cases gk with
    | zero =>
      have hb := HV.out.mid.box
      have g0 := hb.cell 0
      have g1 := hb.cell 1
      have g2 := hb.cell 2
      have g3 := hb.cell 3
      have r0 := HV.out.mid.res.cell 0
      have r1 := HV.out.mid.res.cell 1
      have r2 := HV.out.mid.res.cell 2
      have r3 := HV.out.mid.res.cell 3
      have f1 : ∀ o, wr.frozen? ⟨w.heap.size, o, none⟩ = false := HV.out.mid.res.free
      clear hb
      go_wp2_with fail
      refine bodyPost_ret (v := .agg #[numV 8, str [], .slice al ll lc, .slice ak lk ck]) (by simp [results, Tryz.results16, go_sem, r0, r1, r2, r3]) rfl ?_
      exact HV.out.finish (((((Fr.refl _ _).set (.inl (by simp)) _).set (.inl (by simp)) _).set (.inl (by simp)) _).set (.inl (by simp)) _)
    | succ k =>
      obtain ⟨n0, v0, rest', b1, l1, c1, T2, b2, rfl, hsj, hfb, hv0, hfs, hrl, hq, hqs⟩ := HV.out.next
      obtain ⟨T, rfl, hcell⟩ := H.out.2.2.2.2.2.2.1 j _ hsj
      have cj : wr.cell? ⟨T, j, none⟩ = some (ptrV b1) := cell_later HV.out.mid.below hcell
      have hcall : ∀ W, Below w.heap.size w W → Calls Tryz.prog 16 #[.iface T2 (ptrV b2)] W (CRes IvAt (cVal v0) W) := fun W hW =>
        ih v0 _ W hq.1 (VAt.mono (fun b cs t k => Bl.later hW b cs t k) _ _ hv0) hq.2
      have hal : acc.length + 1 ≤ FMax ∧ acck.length + 1 ≤ FMax := by have := HV.out.accl; have := HV.out.acckl; have := H.out.2.2.2.2.2.1.1; have := HL.out; omega
      have hS : ∀ W, OMid w W (w.heap.size + 2) (w.heap.size + 1) 8 .nilFunc .nilFunc (.slice al ll lc) (.slice ak lk ck) [] [] [] ∨ (Below w.heap.size w W ∧ Bl W (w.heap.size + 1) #[numV 8, str [], .slice al ll lc, .slice ak lk ck] 79) →
          W.cell? ⟨w.heap.size + 1, 3, none⟩ = some (.slice ak lk ck) ∧ W.cell? ⟨w.heap.size + 1, 2, none⟩ = some (.slice al ll lc) ∧ W.cell? ⟨b1, 0, none⟩ = some (str n0) ∧ W.cell? ⟨b1, 3, none⟩ = some (.iface T2 (ptrV b2)) := by
        rintro W (hm | ⟨hb, hx⟩)
        · exact ⟨hm.box.cell 3, hm.box.cell 2, (Bl.later hm.below _ _ _ hfb).cell 0, (Bl.later hm.below _ _ _ hfb).cell 3⟩
        · exact ⟨hx.cell 3, hx.cell 2, (Bl.later hb _ _ _ hfb).cell 0, (Bl.later hb _ _ _ hfb).cell 3⟩
      have HS := Lib.hid (fun W (hm : Below w.heap.size w W) hx => hS W (.inr ⟨hm, hx⟩))
      have HN := Lib.hid (And.intro hfs (And.intro hrl (And.intro hqs (And.intro hcall hal))))
      have M0 := Lib.hid HV.out.mid.drew
      have s0 := HS.out _ M0.out.below M0.out.box
      clear hsj hv0 hfs hrl hcell hcall hal hS hfb hq hqs
      go_wp2_with fail
      refine wp_region_late (S := fun W => W.cell? ⟨w.heap.size + 1, 3, none⟩ = some (.slice ak lk ck) ∧ W.cell? ⟨w.heap.size + 1, 2, none⟩ = some (.slice al ll lc) ∧ W.cell? ⟨b1, 0, none⟩ = some (str n0) ∧ W.cell? ⟨b1, 3, none⟩ = some (.iface T2 (ptrV b2))) (late := fun i => decide (19 ≤ i)) (by kernel_rfl) ?_
      refine wpAnyL_get (i := 0) (d := 67) (v := .pointer (some ⟨w.heap.size + 1, 3, none⟩)) rfl rfl (by kernel_rfl) (by kernel_rfl) (by kernel_rfl) (by kernel_rfl) (by kernel_rfl) (fun _ _ _ h => h) rfl (fun w hS => by (try dsimp only at hS); go_simp) s0 ?_
      simp only [Act.put, List.setIfInBounds_toArray, List.set_cons_zero, List.set_cons_succ]
      refine wpAnyL_get (i := 1) (d := 68) (v := .slice ak lk ck) rfl rfl (by kernel_rfl) (by kernel_rfl) (by kernel_rfl) (by kernel_rfl) (by kernel_rfl) (fun _ _ _ h => h) rfl (fun w hS => by (try dsimp only at hS); go_simp) s0 ?_
      simp only [Act.put, List.setIfInBounds_toArray, List.set_cons_zero, List.set_cons_succ]
      refine wpAnyL_get (i := 2) (d := 69) (v := ptrV b1) rfl rfl (by kernel_rfl) (by kernel_rfl) (by kernel_rfl) (by kernel_rfl) (by kernel_rfl) (fun _ _ _ h => h) rfl (fun w hS => by (try dsimp only at hS); go_simp) s0 ?_
      simp only [Act.put, List.setIfInBounds_toArray, List.set_cons_zero, List.set_cons_succ]
      refine wpAnyL_get (i := 3) (d := 70) (v := ptrV b1) rfl rfl (by kernel_rfl) (by kernel_rfl) (by kernel_rfl) (by kernel_rfl) (by kernel_rfl) (fun _ _ _ h => h) rfl (fun w hS => by (try dsimp only at hS); go_simp) s0 ?_
      simp only [Act.put, List.setIfInBounds_toArray, List.set_cons_zero, List.set_cons_succ]
      refine wpAnyL_get (i := 4) (d := 71) (v := .pointer (some ⟨b1, 0, none⟩)) rfl rfl (by kernel_rfl) (by kernel_rfl) (by kernel_rfl) (by kernel_rfl) (by kernel_rfl) (fun _ _ _ h => h) rfl (fun w hS => by (try dsimp only at hS); go_simp) s0 ?_
      simp only [Act.put, List.setIfInBounds_toArray, List.set_cons_zero, List.set_cons_succ]
      refine wpAnyL_get (i := 5) (d := 72) (v := .pointer (some ⟨b1, 0, none⟩)) rfl rfl (by kernel_rfl) (by kernel_rfl) (by kernel_rfl) (by kernel_rfl) (by kernel_rfl) (fun _ _ _ h => h) rfl (fun w hS => by (try dsimp only at hS); go_simp) s0 ?_
      simp only [Act.put, List.setIfInBounds_toArray, List.set_cons_zero, List.set_cons_succ]
      refine wpAnyL_get (i := 6) (d := 73) (v := str n0) rfl rfl (by kernel_rfl) (by kernel_rfl) (by kernel_rfl) (by kernel_rfl) (by kernel_rfl) (fun _ _ _ h => h) rfl (fun w hS => by (try dsimp only at hS); go_simp) s0 ?_
      simp only [Act.put, List.setIfInBounds_toArray, List.set_cons_zero, List.set_cons_succ]
      refine wpAnyL_get (i := 9) (d := 76) (v := .pointer (some ⟨w.heap.size + 1, 2, none⟩)) rfl rfl (by kernel_rfl) (by kernel_rfl) (by kernel_rfl) (by kernel_rfl) (by kernel_rfl) (fun _ _ _ h => h) rfl (fun w hS => by (try dsimp only at hS); go_simp) s0 ?_
      simp only [Act.put, List.setIfInBounds_toArray, List.set_cons_zero, List.set_cons_succ]
      refine wpAnyL_get (i := 10) (d := 77) (v := .slice al ll lc) rfl rfl (by kernel_rfl) (by kernel_rfl) (by kernel_rfl) (by kernel_rfl) (by kernel_rfl) (fun _ _ _ h => h) rfl (fun w hS => by (try dsimp only at hS); go_simp) s0 ?_
      simp only [Act.put, List.setIfInBounds_toArray, List.set_cons_zero, List.set_cons_succ]
      refine wpAnyL_get (i := 11) (d := 78) (v := ptrV b1) rfl rfl (by kernel_rfl) (by kernel_rfl) (by kernel_rfl) (by kernel_rfl) (by kernel_rfl) (fun _ _ _ h => h) rfl (fun w hS => by (try dsimp only at hS); go_simp) s0 ?_
      simp only [Act.put, List.setIfInBounds_toArray, List.set_cons_zero, List.set_cons_succ]
      refine wpAnyL_get (i := 12) (d := 79) (v := ptrV b1) rfl rfl (by kernel_rfl) (by kernel_rfl) (by kernel_rfl) (by kernel_rfl) (by kernel_rfl) (fun _ _ _ h => h) rfl (fun w hS => by (try dsimp only at hS); go_simp) s0 ?_
      simp only [Act.put, List.setIfInBounds_toArray, List.set_cons_zero, List.set_cons_succ]
      refine wpAnyL_get (i := 13) (d := 80) (v := .pointer (some ⟨b1, 3, none⟩)) rfl rfl (by kernel_rfl) (by kernel_rfl) (by kernel_rfl) (by kernel_rfl) (by kernel_rfl) (fun _ _ _ h => h) rfl (fun w hS => by (try dsimp only at hS); go_simp) s0 ?_
      simp only [Act.put, List.setIfInBounds_toArray, List.set_cons_zero, List.set_cons_succ]
      refine wpAnyL_get (i := 14) (d := 81) (v := .iface T2 (ptrV b2)) rfl rfl (by kernel_rfl) (by kernel_rfl) (by kernel_rfl) (by kernel_rfl) (by kernel_rfl) (fun _ _ _ h => h) rfl (fun w hS => by (try dsimp only at hS); go_simp) s0 ?_
      simp only [Act.put, List.setIfInBounds_toArray, List.set_cons_zero, List.set_cons_succ]
      obtain ⟨W1, hW1⟩ : ∃ W1, W1 = wr.drew.alloc (.cells #[str n0] 9) := ⟨_, rfl⟩
      have M1 : Hid (OMid w W1 (w.heap.size + 2) (w.heap.size + 1) 8 (.slice al ll lc) (.slice ak lk ck) (.slice al ll lc) (.slice ak lk ck) acc xl acck) := Lib.hid (by rw [hW1]; exact M0.out.alloc _)
      have K1 : Hid (Own2 W1 (Value.slice al ll lc).ownBlock (Value.slice ak lk ck).ownBlock wr.heap.size #[str n0] 9) := Lib.hid (by rw [hW1]; exact M0.out.fresh _ _)
      refine wpAnyL_one (i := 7) (by kernel_rfl) (wpOpL_get (d := 74) rfl rfl rfl (v := .slice (some ⟨wr.heap.size, 0, none⟩) 1 1) (w' := W1) (by rw [hW1]; simp [execOp, go_sem, Act.eval]) ⟨fun _ => HS.out _ M1.out.below M1.out.box, ?_⟩)
      simp only [Act.put, List.setIfInBounds_toArray, List.set_cons_zero, List.set_cons_succ]
      clear hW1 s0 cj
      refine wpAnyL_one (i := 8) (by kernel_rfl) (wpOpL_law (d := 75) rfl rfl rfl (fun K' hK => ?_))
      refine wp_append_lies _ _ _ _ rfl (w.heap.size + 2) 9 j0 _ 1 16 Tryz.underlying77 ji jz0 jz1 jz2 rfl (by omega) (.slice ak lk ck) acck.length (acck.map str) (by rfl) M1.out.rk.own
        ⟨wr.heap.size, 0, none⟩ 1 1 [str n0] (by rfl) (by rfl) (World.news_of_block (cs := #[str n0]) (t := 9) (fr := (0, 0)) K1.out.1) (by simp [Value.oneCell'])
        (by omega) (by have := HN.out.2.2.2.2.2; unfold FMax at this; unfold maxLen; omega) (by have := HN.out.2.2.2.2.2; unfold FMax at this; omega) M1.out.rk.le _ rfl ?_
      intro gk1 cap1 W2 ho hg hat hlt
      have M2 := Lib.hid (M1.out.addK ho hg hat).1
      clear ho hg hat hlt K1 M1
      refine hK _ _ ⟨fun _ => HS.out _ M2.out.below M2.out.box, ?_⟩
      clear hK K'
      simp only [Act.put, List.setIfInBounds_toArray, List.set_cons_zero, List.set_cons_succ]
      have s2 := HS.out _ M2.out.below M2.out.box
      refine wpAnyL_get (i := 18) (d := 85) (v := .pointer (some ⟨w.heap.size + 1, 3, none⟩)) rfl rfl (by kernel_rfl) (by kernel_rfl) (by kernel_rfl) (by kernel_rfl) (by kernel_rfl) (fun _ _ _ h => h) rfl (fun w hS => by (try dsimp only at hS); go_simp) s2 ?_
      simp only [Act.put, List.setIfInBounds_toArray, List.set_cons_zero, List.set_cons_succ]
      clear s2
      refine wpAnyL_one (i := 15) (by kernel_rfl) (wpOpL_enter (d := 82) rfl rfl rfl (f := 16) (args := #[.iface T2 (ptrV b2)]) (by simp [execOp, go_sem, Act.eval]) (HN.out.2.2.2.1 W2 M2.out.below) ?_)
      rintro e W3 ⟨cs, rfl, k1, k2⟩
      obtain ⟨kk, ks, a1, l1, c1, a2, l2, c2, rfl⟩ := k1.shape
      have M3 := Lib.hid (M2.out.call k2)
      have R3 := Lib.hid (IvAt.mono (M2.out.made k2) _ _ k1)
      clear k1 k2 M2
      refine ⟨_, rfl, fun _ => HS.out _ M3.out.below M3.out.box, ?_⟩
      simp only [Act.put, List.setIfInBounds_toArray, List.set_cons_zero, List.set_cons_succ]
      obtain ⟨W4, hW4⟩ : ∃ W4, W4 = W3.alloc (.cells #[numV kk, str ks, .slice a1 l1 c1, .slice a2 l2 c2] 79) := ⟨_, rfl⟩
      have M4 : Hid (OMid w W4 (w.heap.size + 2) (w.heap.size + 1) 8 (.slice al ll lc) (.slice (some ⟨gk1, 0, none⟩) (acck.length + 1) cap1) (.slice al ll lc) (.slice ak lk ck) acc xl (acck ++ [n0])) := Lib.hid (by rw [hW4]; exact M3.out.alloc _)
      have R4 := Lib.hid (IvAt.mono (C2.below ((Below.refl _ _).alloc (Nat.le_refl _) (.cells #[numV kk, str ks, .slice a1 l1 c1, .slice a2 l2 c2] 79))) _ _ R3.out)
      have K4 : Bl W4 W3.heap.size #[numV kk, str ks, .slice a1 l1 c1, .slice a2 l2 c2] 79 := by rw [hW4]; exact Bl.new _ _ _
      rw [← hW4] at R4
      have HK4 := Lib.hid K4
      clear K4
      refine wpAnyL_one (i := 16) (by kernel_rfl) (wpOpL_get (d := 83) rfl rfl rfl (v := .slice (some ⟨W3.heap.size, 0, none⟩) 1 1) (w' := W4) (by rw [hW4]; simp [execOp, go_sem, Act.eval]) ⟨fun _ => HS.out _ M4.out.below M4.out.box, ?_⟩)
      simp only [Act.put, List.setIfInBounds_toArray, List.set_cons_zero, List.set_cons_succ]
      clear hW4 M3 R3
      refine wpAnyL_one (i := 17) (by kernel_rfl) (wpOpL_law (d := 84) rfl rfl rfl (fun K' hK => ?_))
      refine wp_append_lies _ _ _ _ rfl (w.heap.size + 2) 79 i0 _ 4 72 Tryz.underlying76 hi hz0 hz1 hz2 rfl (by omega) (.slice al ll lc) acc.length xl (by rfl) M4.out.rl.own
        ⟨W3.heap.size, 0, none⟩ 1 1 [numV kk, str ks, .slice a1 l1 c1, .slice a2 l2 c2] (by rfl) (by rfl) (World.news_of_block (cs := #[numV kk, str ks, .slice a1 l1 c1, .slice a2 l2 c2]) (t := 79) (fr := (0, 0)) HK4.out) (by simp [Value.oneCell'])
        (by omega) (by have := HN.out.2.2.2.2.1; unfold FMax at this; unfold maxLen; omega) (by have := HN.out.2.2.2.2.1; unfold FMax at this; omega) M4.out.rl.le _ rfl ?_
      intro gl1 cap2 W5 ho hg hat hlt
      have M5 := Lib.hid (M4.out.addL R4.out ho hg hat).1
      clear ho hg hat hlt HK4 M4 R4
      have s5 := HS.out _ M5.out.below M5.out.box
      refine hK _ _ ⟨fun _ => s5, ?_⟩
      clear hK K'
      simp only [Act.put, List.setIfInBounds_toArray, List.set_cons_zero, List.set_cons_succ]
      have f5 : ∀ o, W5.frozen? ⟨w.heap.size + 1, o, none⟩ = false := M5.out.box.free
      have g3 := s5.1
      refine wpAnyL_one (i := 19) (by kernel_rfl) (wpOpL_none rfl rfl rfl (w' := W5.setCell ⟨w.heap.size + 1, 3, none⟩ (.slice (some ⟨gk1, 0, none⟩) (acck.length + 1) cap1)) (by simp [execOp, go_sem, Act.eval, g3, f5]) ⟨(fun h => by cases h), ?_⟩)
      have g2 : (W5.setCell ⟨w.heap.size + 1, 3, none⟩ (.slice (some ⟨gk1, 0, none⟩) (acck.length + 1) cap1)).cell? ⟨w.heap.size + 1, 2, none⟩ = some (.slice al ll lc) := (M5.out.box.set 3 (.slice (some ⟨gk1, 0, none⟩) (acck.length + 1) cap1)).cell 2
      have f6 : ∀ o, (W5.setCell ⟨w.heap.size + 1, 3, none⟩ (.slice (some ⟨gk1, 0, none⟩) (acck.length + 1) cap1)).frozen? ⟨w.heap.size + 1, o, none⟩ = false := (M5.out.box.set 3 _).free
      refine wpAnyL_one (i := 20) (by kernel_rfl) (wpOpL_get (d := 86) rfl rfl rfl (v := .pointer (some ⟨w.heap.size + 1, 2, none⟩)) (w' := W5.setCell ⟨w.heap.size + 1, 3, none⟩ (.slice (some ⟨gk1, 0, none⟩) (acck.length + 1) cap1)) (by simp [execOp, go_sem, Act.eval]) ⟨(fun h => by cases h), ?_⟩)
      simp only [Act.put, List.setIfInBounds_toArray, List.set_cons_zero, List.set_cons_succ]
      refine wpAnyL_one (i := 21) (by kernel_rfl) (wpOpL_none rfl rfl rfl (w' := (W5.setCell ⟨w.heap.size + 1, 3, none⟩ (.slice (some ⟨gk1, 0, none⟩) (acck.length + 1) cap1)).setCell ⟨w.heap.size + 1, 2, none⟩ (.slice (some ⟨gl1, 0, none⟩) (acc.length + 1) cap2)) (by simp [execOp, go_sem, Act.eval, g2, f6]) ⟨(fun h => by cases h), ?_⟩)
      refine wpAnyL_done (by kernel_rfl) ?_ _
      clear g2 g3 f5 f6 s5
      go_wp2_with fail
      go_roundg k
      case measure => omega
      case rel =>
        exact ⟨_, _, _, _, _, _, _, HV.out.step ⟨HN.out.1, HN.out.2.1, HN.out.2.2.1⟩ M5.out⟩

end Go.Proofs.YtobiaaabikfglaaGreatDoor
