/-
  Contracts of the small functions of block strings: mgn, leadingWhitespace, isBlank, zzIndex at a line feed. No conditions but lengths.
-/
import Derived.Test.YtbcfalhdjmidjaaProg
import Derived.Test.YtbcfalhdjmidjaaBlkPure
import Derived.WalkKit
import Derived.WalkSpells
import Derived.Lib.Hide
namespace Go.Proofs.Ytbcfalhdjmidjaa
open Go.RowKit Go.Proofs.Ytbcfalhdjmidjaa.Blk

theorem ret_int {k : IntKind} {a b : Int} (h : a = b) : Ending.returned (.int k a) = .returned (.int k b) := by rw [h]

theorem getElem_toList (s : ByteArray) (k : Nat) (h : k < s.size) : s.data.toList[k]? = some s[k] := by
  rw [List.getElem?_eq_getElem (by simpa using h)]; rfl

theorem take_succ_all (s : ByteArray) (k : Nat) (hk : k < s.size) (h : (s.data.toList.take k).all isBk = true) (hb : isBk s[k] = true) : (s.data.toList.take (k + 1)).all isBk = true := by
  rw [List.take_succ_eq_append_getElem (by simpa using hk)]
  simp only [List.all_append, h, Bool.true_and]
  have : s.data.toList[k]'(by simpa using hk) = s[k] := rfl
  rw [this]; simp [hb]

theorem isBk_iff (c : UInt8) : isBk c = true ↔ (c.toNat = 32 ∨ c.toNat = 9) := by
  simp only [isBk, Bool.or_eq_true, beq_iff_eq, ← UInt8.toNat_inj]; rfl

set_option maxHeartbeats 400000 in
theorem margin_any (s : ByteArray) (w : World) (hs : s.size ≤ maxLen) :
    Calls Try.prog 11 #[.string s] w fun e w' => e = .returned (.int .i64 (mgn s.data.toList)) ∧ w = w' := by
  unfold maxLen at hs
  go_enter Try.func11, Try.ntmps11
  go_wp2
  go_loop [3] (fun i => ∃ k : Nat, k ≤ s.size ∧ (s.data.toList.take k).all isBk = true ∧ i = .int .i64 k) (fun i => s.size - (intOf i).toNat)
  case atStart => exact ⟨0, Nat.zero_le _, by simp, rfl⟩
  case round =>
    obtain ⟨k, hk, hall, rfl⟩ := hrel
    have H := Lib.hid hall; clear hall
    by_cases hlt : k < s.size
    · by_cases hb : isBk s[k] = true
      · rcases (isBk_iff _).1 hb with hc | hc
        · have hc' : (s[k].toNat : Int) = 32 := by omega
          have H1 := Lib.hid (take_succ_all s k hlt H.out hb)
          have HH : ((s[k].toNat : Int) == 32) = true := by simp [hc']
          clear hb hc hc'
          go_wp2
          go_round
          case rel => exact ⟨k + 1, by omega, H1.out, by go_num⟩
          case measure => simp [intOf]; omega
        · have hc' : (s[k].toNat : Int) = 9 := by omega
          have H1 := Lib.hid (take_succ_all s k hlt H.out hb)
          have HH : ((s[k].toNat : Int) == 32) = false := by simp [hc']
          have HH2 : ((s[k].toNat : Int) == 9) = true := by simp [hc']
          clear hb hc hc'
          go_wp2
          go_round
          case rel => exact ⟨k + 1, by omega, H1.out, by go_num⟩
          case measure => simp [intOf]; omega
      · have hne : ¬ (s[k].toNat = 32 ∨ s[k].toNat = 9) := fun h => hb ((isBk_iff _).2 h)
        have HH : ((s[k].toNat : Int) == 32) = false := by simp; omega
        have HH2 : ((s[k].toNat : Int) == 9) = false := by simp; omega
        have hm := margin_of_stop s.data.toList k H.out (fun c hc => by rw [getElem_toList s k hlt] at hc; cases hc; simpa using hb) (by simpa using hk)
        have HM := Lib.hid hm
        clear hm hne hb
        go_wp2
        go_ret
        exact ⟨ret_int (by rw [HM.out]), rfl⟩
    · have hm := margin_of_stop s.data.toList k H.out (fun c hc => by rw [List.getElem?_eq_none (by simp; omega)] at hc; cases hc) (by simpa using hk)
      have HM := Lib.hid hm
      clear hm
      go_wp2
      go_ret
      exact ⟨ret_int (by rw [HM.out]), rfl⟩

theorem decode_not_bk (s : ByteArray) (k : Nat) (h : k < s.size) (hb : isBk s[k] = false) : ((Utf8.decode s k).1 : Int) ≠ 9 ∧ ((Utf8.decode s k).1 : Int) ≠ 32 := by
  have hne : ¬ (s[k].toNat = 32 ∨ s[k].toNat = 9) := fun h => by have := (isBk_iff _).2 h; simp [this] at hb
  by_cases ha : s[k].toNat < 128
  · rw [decode_ascii s k h ha]; simp only; omega
  · have := decode_high s k h (by omega); omega

set_option maxHeartbeats 400000 in
theorem leading_any (s : ByteArray) (w : World) (hs : s.size ≤ maxLen) :
    Calls Try.prog 18 #[.string s] w fun e w' => e = .returned (.int .i64 (mgn s.data.toList)) ∧ Below w.heap.size w w' := by
  unfold maxLen at hs
  go_enter Try.func18, Try.ntmps18
  go_wp2
  go_loopw [3] (fun i wr => ∃ k : Nat, k ≤ s.size ∧ (s.data.toList.take k).all isBk = true ∧ i = .int .i64 k ∧ wr = w.iter s k) (fun i _ => s.size - (intOf i).toNat)
  case atStart => exact ⟨0, Nat.zero_le _, by simp, rfl, rfl⟩
  case round =>
    obtain ⟨k, hk, hall, rfl, rfl⟩ := hrel
    have H := Lib.hid hall; clear hall
    have HB : Below w.heap.size w (w.iter s k) := (Below.refl _ _).alloc (Nat.le_refl _) _
    have HB' : ∀ p, Below w.heap.size w (w.iter s p) := fun p => (Below.refl _ _).alloc (Nat.le_refl _) _
    by_cases hlt : k < s.size
    · by_cases hb : isBk s[k] = true
      · have ha : s[k].toNat < 128 := by rcases (isBk_iff _).1 hb with h | h <;> omega
        have hn : ∀ ty, (Instr.next (.pointer (some ⟨w.heap.size, 0, none⟩)) true ty).run Try.prog (w.iter s k) = _ := fun ty => run_next_ascii w s k ty hlt ha
        have H1 := Lib.hid (take_succ_all s k hlt H.out hb)
        rcases (isBk_iff _).1 hb with hc | hc
        · have HH : ((s[k].toNat : Int) != 9) = true := by simp; omega
          have HH2 : ((s[k].toNat : Int) != 32) = false := by simp; omega
          clear hb hc HB
          go_wp2
          go_roundw
          case rel => exact ⟨k + 1, by omega, H1.out, by go_num, rfl⟩
          case measure => simp [intOf]; omega
        · have HH : ((s[k].toNat : Int) != 9) = false := by simp; omega
          clear hb hc HB
          go_wp2
          go_roundw
          case rel => exact ⟨k + 1, by omega, H1.out, by go_num, rfl⟩
          case measure => simp [intOf]; omega
      · have hb' : isBk s[k] = false := by simpa using hb
        have hn : ∀ ty, (Instr.next (.pointer (some ⟨w.heap.size, 0, none⟩)) true ty).run Try.prog (w.iter s k) = _ := fun ty => run_next_any w s k ty hlt
        have hd := decode_not_bk s k hlt hb'
        have HH : (((Utf8.decode s k).1 : Int) != 9) = true := by simp; omega
        have HH2 : (((Utf8.decode s k).1 : Int) != 32) = true := by simp; omega
        have HM := Lib.hid (margin_of_stop s.data.toList k H.out (fun c hc => by rw [getElem_toList s k hlt] at hc; cases hc; exact hb') (by simpa using hk))
        have HBn := HB' (k + (Utf8.decode s k).2)
        clear hb hb' hd HB HB'
        go_wp2
        go_ret
        exact ⟨ret_int (by rw [HM.out]), HBn⟩
    · have hn : ∀ ty, (Instr.next (.pointer (some ⟨w.heap.size, 0, none⟩)) true ty).run Try.prog (w.iter s k) = _ := fun ty => run_next_end w s k ty hlt
      have HM := Lib.hid (margin_of_stop s.data.toList k H.out (fun c hc => by rw [List.getElem?_eq_none (by simp; omega)] at hc; cases hc) (by simpa using hk))
      go_wp2
      go_ret
      exact ⟨ret_int (by rw [HM.out]), HB⟩

theorem allBk_iff (s : ByteArray) : (mgn s.data.toList : Int) = s.size ↔ allBk s.data.toList = true := by
  rw [← margin_eq_iff]; simp; omega

set_option maxHeartbeats 400000 in
theorem isBlank_any (s : ByteArray) (w : World) (hs : s.size ≤ maxLen) :
    Calls Try.prog 15 #[.string s] w fun e w' => e = .returned (.bool (allBk s.data.toList)) ∧ Below w.heap.size w w' := by
  by_cases h0 : s.size = 0
  · have HA : Hid (allBk s.data.toList = true) := by
      have : s.data.toList = [] := List.eq_nil_of_length_eq_zero (by simpa using h0)
      rw [this]; rfl
    have HH : ((s.size : Int) == 0) = true := by simp [h0]
    clear h0
    unfold maxLen at hs
    go_enter Try.func15, Try.ntmps15
    go_wp2
    go_ret
    exact ⟨by rw [HA.out]; rfl, Below.refl _ _⟩
  · have HH : ((s.size : Int) == 0) = false := by simp [h0]
    have hs' := hs
    unfold maxLen at hs
    have hm := margin_le s.data.toList
    have H := allBk_iff s
    have HA : Hid (((mgn s.data.toList : Int) == s.size) = allBk s.data.toList) := by
      rw [Bool.eq_iff_iff, beq_iff_eq]; exact H
    clear H h0 hm
    go_enter Try.func15, Try.ntmps15
    go_wp2_with (go_at_call 18; refine (leading_any _ _ hs').mono ?_; rintro e w1 ⟨rfl, hb1⟩)
    go_ret
    exact ⟨by rw [HA.out]; rfl, by assumption⟩

theorem upto_succ {p : Nat → Prop} {k : Nat} (h : ∀ j, j < k → p j) (hk : p k) : ∀ j, j < k + 1 → p j := fun j hj => by
  rcases Nat.lt_succ_iff_lt_or_eq.1 hj with h' | rfl
  · exact h j h'
  · exact hk

/-- where the text stands in the other one -/
def At (s sub : ByteArray) (i : Nat) : Prop := (s.extract i (i + sub.size)).toList = sub.toList
def Found (s sub : ByteArray) (r : Int) : Prop :=
  (r = -1 ∧ ∀ j, j + sub.size ≤ s.size → ¬ At s sub j) ∨ ∃ i : Nat, r = i ∧ i + sub.size ≤ s.size ∧ At s sub i ∧ ∀ j, j < i → ¬ At s sub j

set_option maxHeartbeats 400000 in
theorem zzIndex_any (s sub : ByteArray) (w : World) (hs : s.size + sub.size ≤ 4611686018427387904) :
    Calls Try.prog 17 #[.string s, .string sub] w fun e w' => (∃ r, e = .returned (.int .i64 r) ∧ Found s sub r) ∧ w = w' := by
  go_enter Try.func17, Try.ntmps17
  go_wp2
  go_loop [5] (fun i => ∃ k : Nat, k ≤ s.size + 1 ∧ (∀ j, j < k → ¬ At s sub j) ∧ i = .int .i64 k) (fun i => s.size + 1 - (intOf i).toNat)
  case atStart => exact ⟨0, Nat.zero_le _, fun j hj => absurd hj (by omega), rfl⟩
  case round =>
    obtain ⟨k, hk, hno, rfl⟩ := hrel
    have H := Lib.hid hno; clear hno
    by_cases hlt : k + sub.size ≤ s.size
    · by_cases ha : At s sub k
      · have HH : ((s.extract k (k + sub.size)).toList == sub.toList) = true := by simpa [At] using ha
        have HA := Lib.hid ha; clear ha
        go_wp2
        go_ret
        exact ⟨⟨k, rfl, .inr ⟨k, rfl, hlt, HA.out, H.out⟩⟩, rfl⟩
      · have HH : ((s.extract k (k + sub.size)).toList == sub.toList) = false := by simpa [At] using ha
        have HA := Lib.hid ha; clear ha
        go_wp2
        go_round
        case rel => exact ⟨k + 1, by omega, upto_succ H.out HA.out, by go_num⟩
        case measure => simp [intOf]; omega
    · go_wp2
      go_ret
      exact ⟨⟨-1, rfl, .inl ⟨rfl, fun j hj => H.out j (by omega)⟩⟩, rfl⟩

end Go.Proofs.Ytbcfalhdjmidjaa
