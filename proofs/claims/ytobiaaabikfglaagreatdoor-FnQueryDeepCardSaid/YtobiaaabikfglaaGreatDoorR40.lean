/-
  The law FnQueryDeep: walk. No conditions but the laid variables.
-/
import Derived.Test.YtobiaaabikfglaaGreatDoorR39
import Derived.Test.YtobiaaabikfglaaGreatDoorR38
import Derived.Deep.CutBlock
namespace Go.Proofs.YtobiaaabikfglaaGreatDoor
open Go.RowKit Go.Proofs.YtobiaaabikfglaaGreatDoor.Pq Go.Lib

theorem bsz (l : Bs) : (⟨l.toArray⟩ : ByteArray).size = l.length := by simp [ByteArray.size]
theorem app_eq (a b : ByteArray) : a ++ b = ⟨(a.data.toList ++ b.data.toList).toArray⟩ := by
  apply ByteArray.ext
  simp

set_option maxRecDepth 100000 in
set_option maxHeartbeats 8000000 in
theorem deep_any (ad : Addr) (g w : World) (road n : Nat) (hr : road < 256) (hn : n < 65536) (hG : Gd ad g w []) : Calls Tryz.prog 3 #[.int .u8 road, .int .u16 n] w fun e w' => e = .returned (.bool true) ∧ Below w.heap.size w w' := by
  have HG := Lib.hid hG
  clear hG
  by_cases h1 : n < 1
  · go_enter Tryz.func3, Tryz.ntmps3
    go_wp2_with fail
    go_ret
    exact ⟨rfl, .refl _ _⟩
  by_cases h2 : 1200 < n
  · go_enter Tryz.func3, Tryz.ntmps3
    go_wp2_with fail
    go_ret
    exact ⟨rfl, .refl _ _⟩
  go_enter Tryz.func3, Tryz.ntmps3
  go_upto_block 0 with (fail)
  generalize hk : (road : Int) % 8 = r
  go_cut [6, 7] (fun s d wx => s = .string ⟨(text (road % 8) n).toArray⟩ ∧ d = .int .i64 ((deep (road % 8) n : Nat) : Int) ∧ Below w.heap.size w wx)
  case first =>
    have h8 : road % 8 = 0 ∨ road % 8 = 1 ∨ road % 8 = 2 ∨ road % 8 = 3 ∨ road % 8 = 4 ∨ road % 8 = 5 ∨ road % 8 = 6 ∨ road % 8 = 7 := by omega
    have HB := Lib.hid (Below.refl w.heap.size w)
    rcases h8 with h8 | h8 | h8 | h8 | h8 | h8 | h8 | h8
    · obtain rfl : r = 0 := by omega
      go_wp2_with (
        (go_at_call 4
         refine (times_any n _ _ (by omega) (by decide)).mono ?_
         rintro e v ⟨rfl, hb⟩
         replace HB := Lib.hid (HB.out.trans (hb.mono HB.out.size))
         clear hb))
      all_goals try (exfalso; rename_i hx; revert hx; simp only [repB_len, List.length_cons, List.length_nil]; simp; omega)
      go_meet
      refine ⟨?_, ?_, HB.out⟩
      · rw [h8]
        simp only [app_eq]
        simp [text]
      · rw [h8]
        first | rfl | go_num
    · obtain rfl : r = 1 := by omega
      go_wp2_with (
        (go_at_call 4
         refine (times_any n _ _ (by omega) (by decide)).mono ?_
         rintro e v ⟨rfl, hb⟩
         replace HB := Lib.hid (HB.out.trans (hb.mono HB.out.size))
         clear hb))
      all_goals try (exfalso; rename_i hx; revert hx; simp only [repB_len, List.length_cons, List.length_nil]; simp; omega)
      go_meet
      refine ⟨?_, ?_, HB.out⟩
      · rw [h8]
        simp only [app_eq]
        simp [text]
      · rw [h8]
        first | rfl | go_num
    · obtain rfl : r = 2 := by omega
      go_wp2_with (
        (go_at_call 4
         refine (times_any n _ _ (by omega) (by decide)).mono ?_
         rintro e v ⟨rfl, hb⟩
         replace HB := Lib.hid (HB.out.trans (hb.mono HB.out.size))
         clear hb))
      all_goals try (exfalso; rename_i hx; revert hx; simp only [repB_len, List.length_cons, List.length_nil]; simp; omega)
      go_meet
      refine ⟨?_, ?_, HB.out⟩
      · rw [h8]
        simp only [app_eq]
        simp [text]
      · rw [h8]
        first | rfl | go_num
    · obtain rfl : r = 3 := by omega
      go_wp2_with (
        (go_at_call 4
         refine (times_any n _ _ (by omega) (by decide)).mono ?_
         rintro e v ⟨rfl, hb⟩
         replace HB := Lib.hid (HB.out.trans (hb.mono HB.out.size))
         clear hb))
      all_goals try (exfalso; rename_i hx; revert hx; simp only [repB_len, List.length_cons, List.length_nil]; simp; omega)
      go_meet
      refine ⟨?_, ?_, HB.out⟩
      · rw [h8]
        simp only [app_eq]
        simp [text]
      · rw [h8]
        first | rfl | go_num
    · obtain rfl : r = 4 := by omega
      go_wp2_with (
        (go_at_call 4
         refine (times_any n _ _ (by omega) (by decide)).mono ?_
         rintro e v ⟨rfl, hb⟩
         replace HB := Lib.hid (HB.out.trans (hb.mono HB.out.size))
         clear hb))
      all_goals try (exfalso; rename_i hx; revert hx; simp only [repB_len, List.length_cons, List.length_nil]; simp; omega)
      go_meet
      refine ⟨?_, ?_, HB.out⟩
      · rw [h8]
        simp only [app_eq]
        simp [text]
      · rw [h8]
        first | rfl | go_num
    · obtain rfl : r = 5 := by omega
      go_wp2_with (
        (go_at_call 4
         refine (times_any n _ _ (by omega) (by decide)).mono ?_
         rintro e v ⟨rfl, hb⟩
         replace HB := Lib.hid (HB.out.trans (hb.mono HB.out.size))
         clear hb))
      all_goals try (exfalso; rename_i hx; revert hx; simp only [repB_len, List.length_cons, List.length_nil]; simp; omega)
      go_meet
      refine ⟨?_, ?_, HB.out⟩
      · rw [h8]
        simp only [app_eq]
        simp [text]
      · rw [h8]
        first | rfl | go_num
    · obtain rfl : r = 6 := by omega
      go_wp2_with (
        (go_at_call 4
         refine (times_any n _ _ (by omega) (by decide)).mono ?_
         rintro e v ⟨rfl, hb⟩
         replace HB := Lib.hid (HB.out.trans (hb.mono HB.out.size))
         clear hb))
      all_goals try (exfalso; rename_i hx; revert hx; simp only [repB_len, List.length_cons, List.length_nil]; simp; omega)
      go_meet
      refine ⟨?_, ?_, HB.out⟩
      · rw [h8]
        simp only [app_eq]
        simp [text]
      · rw [h8]
        first | rfl | go_num
    · obtain rfl : r = 7 := by omega
      go_wp2_with (
        (go_at_call 4
         refine (times_any n _ _ (by omega) (by decide)).mono ?_
         rintro e v ⟨rfl, hb⟩
         replace HB := Lib.hid (HB.out.trans (hb.mono HB.out.size))
         clear hb))
      all_goals try (exfalso; rename_i hx; revert hx; simp only [repB_len, List.length_cons, List.length_nil]; simp; omega)
      go_meet
      refine ⟨?_, ?_, HB.out⟩
      · rw [h8]
        simp only [app_eq]
        simp [text]
      · rw [h8]
        first | rfl | go_num
  case rest =>
    obtain ⟨rfl, rfl, hb⟩ := hcut
    have hD := shape_decides_le (road % 8) n (by omega)
    have hsz : (⟨(text (road % 8) n).toArray⟩ : ByteArray).size ≤ 2147483647 := by rw [bsz]; have := text_len (road % 8) n (by omega); omega
    have htl : toL ⟨(text (road % 8) n).toArray⟩ = text (road % 8) n := by simp [toL]
    obtain ⟨f, hf, hD⟩ := hD
    have hq : ∀ W, Below w.heap.size w W → pDoc f (Pq.shape (road % 8) n) ⟨[], []⟩ ≠ .unk → Calls Tryz.prog 5 #[.string ⟨(text (road % 8) n).toArray⟩] W (PqRes (pDoc f (Pq.shape (road % 8) n) ⟨[], []⟩) W) := fun W hW hu =>
      query_any ad g _ f _ W (by unfold FMax; omega) hsz (by rw [htl]; exact good_no (text_good _ _)) ⟨HG.out.gl, HG.out.below.trans (hW.mono HG.out.below.size), by simp⟩ (by rw [htl]; exact text_toks1 _ _) (by rw [htl]; exact good_asc (text_good _ _)) hu
    have HQ := Lib.hid (And.intro hD hq)
    have HB := Lib.hid hb
    clear hD hq hb hsz htl hf
    generalize hdp : deep (road % 8) n = dp at HQ ⊢
    have hdl : dp ≤ 2000 := by
      rw [← hdp]; unfold deep; split <;> omega
    go_upto_region 21 with (fail)
    go_cut [10] (fun v wx => v = .bool (decide ((dp : Int) ≤ 1000)) ∧ Below w.heap.size w wx)
    case first =>
      have hz : ∀ (w : World) (o : Obj), (w.alloc o).heap.size = w.heap.size + 1 := fun w o => by simp
      have hab : ∀ (w1 : World) (o1 o2 : Obj), Below wc.heap.size wc w1 → Below w.heap.size w ((w1.alloc o1).alloc o2) := fun w1 o1 o2 h =>
        HB.out.trans (((h.trans (((Below.refl _ _).alloc (Nat.le_refl _) _).mono h.size)).trans (((Below.refl _ _).alloc (Nat.le_refl _) _).mono (by rw [hz]; have := h.size; omega))).mono HB.out.size)
      have HZ := Lib.hid hab
      clear hab hz
      by_cases hc : dp ≤ 1000
      · obtain ⟨p, hp⟩ := HQ.out.1.1 hc
        have hcall := HQ.out.2 wc HB.out (by rw [hp]; simp)
        rw [hp] at hcall
        have HC := Lib.hid hcall
        clear hcall hp
        go_wp2_with fail
        refine HC.out.mono ?_
        rintro e w1 ⟨cs, rfl, hd, hb⟩
        obtain ⟨a, b, n1, c1, m1, e1, rfl⟩ := hd.shape
        have H1 := Lib.hid hb
        clear hd hb
        go_wp2_with fail
        go_meet
        exact ⟨by simp; omega, HZ.out _ _ _ H1.out⟩
      · have hp := HQ.out.1.2 hc
        have hcall := HQ.out.2 wc HB.out (by rw [hp]; simp)
        rw [hp] at hcall
        have HC := Lib.hid hcall
        clear hcall hp
        go_wp2_with fail
        refine HC.out.mono ?_
        rintro e w1 ⟨l1, c1, rfl, hb⟩
        have H1 := Lib.hid hb
        clear hb
        go_wp2_with fail
        go_meet
        exact ⟨by simp; omega, HZ.out _ _ _ H1.out⟩
    case rest =>
      obtain ⟨rfl, hb⟩ := hcut
      have hA := asks_any ad g wc ⟨HG.out.gl, HG.out.below.trans (hb.mono HG.out.below.size), by simp⟩
      have HA := Lib.hid (And.intro hA hb)
      clear hA hb
      go_wp2_with fail
      refine HA.out.1.mono ?_
      rintro e w2 ⟨rfl, hb2⟩
      have hb3 : Below w.heap.size w w2 := HA.out.2.trans (hb2.mono HA.out.2.size)
      clear hb2
      go_wp2_with fail
      go_ret
      exact ⟨rfl, hb3⟩

end Go.Proofs.YtobiaaabikfglaaGreatDoor
