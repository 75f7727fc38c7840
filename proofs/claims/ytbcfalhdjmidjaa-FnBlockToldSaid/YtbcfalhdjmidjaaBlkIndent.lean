/-
  The contract of blockStringIndentation: the least margin of the lines behind the first one that are not of blanks alone; 0, if there is none. No conditions but lengths.
-/
import Derived.Test.YtbcfalhdjmidjaaBlkSplit
import Derived.Deep.QuietTactic
import Derived.BigQuiet
namespace Go.Proofs.Ytbcfalhdjmidjaa
open Go.RowKit Go.Proofs.Ytbcfalhdjmidjaa.Blk

theorem least_zero (ls : List Bs) (l : Bs) (hl : l ∈ ls) (hb : allBk l = false) (h : mgn l = 0) : least ls = some 0 := by
  induction ls with
  | nil => cases hl
  | cons a r ih =>
    rcases List.mem_cons.1 hl with rfl | hl
    · simp only [least, hb, h]; cases least r <;> simp
    · have := ih hl
      simp only [least, this]; cases allBk a <;> simp

/-- what has been gathered behind k lines -/
def lst (ls : List ByteArray) (k : Nat) : Option Nat := least (((ls.map toL).take k).drop 1)

theorem lst_one (ls : List ByteArray) : lst ls 1 = none := by
  unfold lst; cases ls <;> simp [least]

theorem lst_succ (ls : List ByteArray) (k : Nat) (h1 : 1 ≤ k) (x : ByteArray) (hx : ls[k]? = some x) : lst ls (k + 1) = if allBk (toL x) then lst ls k else lessO (lst ls k) (mgn (toL x)) := by
  have hk : k < ls.length := (List.getElem?_eq_some_iff.1 hx).1
  have he : ls[k] = x := (List.getElem?_eq_some_iff.1 hx).2
  unfold lst
  rw [List.take_succ_eq_append_getElem (by simpa using hk), List.drop_append_of_le_length (by simp; omega), least_snoc]
  simp [he]

theorem lst_all (ls : List ByteArray) (k : Nat) (h : ls.length ≤ k) : lst ls k = least (ls.map toL).tail := by
  unfold lst; rw [List.take_of_length_le (by simpa using h)]; simp

theorem indent_zero (ls : List ByteArray) (k : Nat) (h1 : 1 ≤ k) (x : ByteArray) (hx : ls[k]? = some x) (hb : allBk (toL x) = false) (h : mgn (toL x) = 0) : indent (ls.map toL).tail = 0 := by
  have : least (ls.map toL).tail = some 0 := by
    refine least_zero _ (toL x) ?_ hb h
    rw [← List.drop_one]
    refine List.mem_of_getElem? (i := k - 1) ?_
    rw [List.getElem?_drop, show 1 + (k - 1) = k from by omega]
    simp [hx]
  simp [indent, this]

/-- the pointer to the least margin so far -/
def PtrIs (B : Nat) (w : World) (p : Value) : Option Nat → Prop
  | none => p = .pointer none
  | some m => 0 < m ∧ m ≤ 9223372036854775807 ∧ ∃ b, p = .pointer (some ⟨b, 0, none⟩) ∧ B ≤ b ∧ b < w.heap.size ∧ w.cell? ⟨b, 0, none⟩ = some (.int .i64 m)

theorem PtrIs.below {B : Nat} {w w' : World} {p : Value} {o : Option Nat} (h : PtrIs B w p o) (hb : Below w.heap.size w w') : PtrIs B w' p o := by
  cases o with
  | none => exact h
  | some m =>
    obtain ⟨h0, h1, b, rfl, hB, hl, hc⟩ := h
    exact ⟨h0, h1, b, rfl, hB, by have := hb.size; omega, (hb.cell (p := ⟨b, 0, none⟩) hl).trans hc⟩
theorem PtrIs.new {B : Nat} {w : World} {p : Value} {o : Option Nat} (h : PtrIs B w p o) (ob : Obj) : PtrIs B (w.alloc ob) p o := h.below ((Below.refl _ _).alloc (Nat.le_refl _) _)

theorem below_draws {B : Nat} {a w : World} (h : Below B a w) (n : Nat) : Below B a (w.drewN n) := ⟨h.os, h.tape, h.output, h.size, h.block⟩

theorem newPtr {B : Nat} {w : World} {m n : Nat} (h0 : 0 < m) (h1 : m ≤ 9223372036854775807) (hB : B ≤ w.heap.size) : PtrIs B ((w.alloc (.cells #[.int .i64 m] 3)).drewN n) (.pointer (some ⟨w.heap.size, 0, none⟩)) (some m) :=
  ⟨h0, h1, _, rfl, hB, by simp, by simp⟩

set_option maxHeartbeats 1000000 in
theorem indent_any (g o c : Nat) (ls : List ByteArray) (w : World) (hg : g < w.heap.size) (hcell : ∀ (j : Nat) x, ls[j]? = some x → w.cell? ⟨g, o + j, none⟩ = some (.string x))
    (hn : ls.length ≤ 1048577) (hle : ∀ x ∈ ls, x.size ≤ 1048576) :
    Calls Try.prog 14 #[.slice (some ⟨g, o, none⟩) ls.length c] w fun e w' => e = .returned (.int .i64 (indent (ls.map toL).tail)) ∧ Below w.heap.size w w' := by
  go_enter Try.func14, Try.ntmps14
  go_wp2
  go_loopw [3, 4] (fun p i wr => ∃ k : Nat, 1 ≤ k ∧ k ≤ ls.length + 1 ∧ i = .int .i64 k ∧ PtrIs w.heap.size wr p (lst ls k) ∧ Below w.heap.size w wr) (fun _ i _ => ls.length + 1 - (intOf i).toNat)
  case atStart => exact ⟨1, Nat.le_refl _, by omega, rfl, by rw [lst_one]; rfl, Below.refl _ _⟩
  case round =>
    obtain ⟨k, hk1, hk, rfl, hp, hbel⟩ := hrel
    have hbs := hbel.size
    by_cases hlt : k < ls.length
    · obtain ⟨x, hx⟩ : ∃ x, ls[k]? = some x := ⟨ls[k], List.getElem?_eq_getElem hlt⟩
      have hxs := hle x (List.mem_of_getElem? hx)
      have hc : wr.cell? ⟨g, o + k, none⟩ = some (.string x) := (hbel.cell (p := ⟨g, o + k, none⟩) hg).trans (hcell k x hx)
      have hml := margin_le (toL x)
      rw [toL_length] at hml
      have HS := Lib.hid (lst_succ ls k hk1 x hx)
      have HP := Lib.hid hp
      clear hp
      cases hab : allBk (toL x) with
      | true =>
        have HE := Lib.hid hab; clear hab
        have HM : ((mgn x.data.toList : Int) == x.size) = true := beq_iff_eq.2 ((allBk_iff x).2 HE.out)
        go_wp2_with (go_at_call 18; refine (leading_any x _ (by unfold maxLen; omega)).mono ?_; rintro e w1 ⟨rfl, hb1⟩)
        go_roundw
        case rel => exact ⟨k + 1, by omega, by omega, by go_num, by rw [HS.out, if_pos HE.out]; exact (HP.out.below hb1).new _, (hbel.trans (hb1.mono hbs)).alloc (by have := hb1.size; omega) _⟩
        case measure => simp [intOf]; omega
      | false =>
        have HE := Lib.hid hab; clear hab
        have HM : ((mgn x.data.toList : Int) == x.size) = false := beq_eq_false_iff_ne.2 (fun h => by have := (allBk_iff x).1 h; rw [show allBk x.data.toList = false from HE.out] at this; cases this)
        by_cases h0 : mgn (toL x) = 0
        · have HZ := Lib.hid (indent_zero ls k hk1 x hx HE.out h0)
          have H0 : ((mgn x.data.toList : Int) == 0) = true := beq_iff_eq.2 (by have : mgn x.data.toList = 0 := h0; omega)
          clear h0
          go_wp2_with (go_at_call 18; refine (leading_any x _ (by unfold maxLen; omega)).mono ?_; rintro e w1 ⟨rfl, hb1⟩)
          go_ret
          exact ⟨ret_int (by rw [HZ.out]; rfl), (hbel.trans (hb1.mono hbs)).alloc (by have := hb1.size; omega) _⟩
        · have H0 : ((mgn x.data.toList : Int) == 0) = false := beq_eq_false_iff_ne.2 (by have : mgn x.data.toList ≠ 0 := h0; omega)
          have h0' : 0 < mgn x.data.toList := by have : mgn x.data.toList ≠ 0 := h0; omega
          clear h0
          cases ho : lst ls k with
          | none =>
            have hq : u3 = .pointer none := by have := HP.out; rw [ho] at this; exact this
            subst hq
            have HO := Lib.hid ho; clear ho HP
            go_wp2_with (go_at_call 18; refine (leading_any x _ (by unfold maxLen; omega)).mono ?_; rintro e w1 ⟨rfl, hb1⟩)
            go_quiet (fail)
            go_wp2
            go_roundw
            case rel => exact ⟨k + 1, by omega, by omega, by go_num, by rw [HS.out, HE.out, HO.out]; exact newPtr h0' (by have : mgn (toL x) = mgn x.data.toList := rfl; omega) (by have := hb1.size; simp; omega), below_draws ((hbel.trans (hb1.mono hbs)).alloc (by have := hb1.size; omega) _) _⟩
            case measure => simp [intOf]; omega
          | some m =>
            have hq : PtrIs w.heap.size wr u3 (some m) := by have := HP.out; rw [ho] at this; exact this
            obtain ⟨hm0, hm1, b, rfl, hb0, hbw, hcb⟩ := hq
            have HO := Lib.hid ho; clear ho HP
            by_cases hless : mgn x.data.toList < m
            · have HL : decide ((mgn x.data.toList : Int) < m) = true := by simp; omega
              go_wp2_with (go_at_call 18; refine (leading_any x _ (by unfold maxLen; omega)).mono ?_; rintro e w1 ⟨rfl, hb1⟩; have hcb1 : w1.cell? ⟨b, 0, none⟩ = some (.int .i64 m) := (hb1.cell (p := ⟨b, 0, none⟩) hbw).trans hcb; have hbw1 : b < w1.heap.size := by have := hb1.size; omega)
              go_quiet (fail)
              go_wp2
              go_roundw
              case rel => exact ⟨k + 1, by omega, by omega, by go_num, by rw [HS.out, HE.out, HO.out, if_neg (by simp)]; rw [show lessO (some m) (mgn (toL x)) = some (mgn x.data.toList) from by show some (min m (mgn x.data.toList)) = _; rw [Nat.min_eq_right (by omega)]]; exact newPtr h0' (by omega) (by have := hb1.size; omega), below_draws ((hbel.trans (hb1.mono hbs)).alloc (by have := hb1.size; omega) _) _⟩
              case measure => simp [intOf]; omega
            · have HL : decide ((mgn x.data.toList : Int) < m) = false := by simp; omega
              go_wp2_with (go_at_call 18; refine (leading_any x _ (by unfold maxLen; omega)).mono ?_; rintro e w1 ⟨rfl, hb1⟩; have hcb1 : w1.cell? ⟨b, 0, none⟩ = some (.int .i64 m) := (hb1.cell (p := ⟨b, 0, none⟩) hbw).trans hcb; have hbw1 : b < w1.heap.size := by have := hb1.size; omega)
              go_quiet (fail)
              go_wp2
              go_roundw
              case rel => exact ⟨k + 1, by omega, by omega, by go_num, by rw [HS.out, HE.out, HO.out, if_neg (by simp)]; rw [show lessO (some m) (mgn (toL x)) = some m from by show some (min m (mgn x.data.toList)) = _; rw [Nat.min_eq_left (by omega)]]; exact ⟨hm0, hm1, b, rfl, hb0, by simp; omega, by simpa using (World.cell?_alloc_lt w1 _ ⟨b, 0, none⟩ hbw1).trans hcb1⟩, below_draws ((hbel.trans (hb1.mono hbs)).alloc (by have := hb1.size; omega) _) _⟩
              case measure => simp [intOf]; omega
    · have HA := Lib.hid (lst_all ls k (by omega))
      cases ho : lst ls k with
      | none =>
        have hq : u3 = .pointer none := by rw [ho] at hp; exact hp
        subst hq
        have HO := Lib.hid ho; clear ho hp
        have HI : Hid (indent (ls.map toL).tail = 0) := by show _ = _; unfold indent; rw [← HA.out, HO.out]; rfl
        go_wp2
        go_ret
        exact ⟨ret_int (by rw [HI.out]; rfl), hbel⟩
      | some m =>
        have hq : PtrIs w.heap.size wr u3 (some m) := by rw [ho] at hp; exact hp
        obtain ⟨hm0, hm1, b, rfl, hb0, hbw, hcb⟩ := hq
        have HO := Lib.hid ho; clear ho hp
        have HI : Hid (indent (ls.map toL).tail = m) := by show _ = _; unfold indent; rw [← HA.out, HO.out]; rfl
        go_wp2
        go_ret
        exact ⟨ret_int (by rw [HI.out]), hbel⟩

end Go.Proofs.Ytbcfalhdjmidjaa
