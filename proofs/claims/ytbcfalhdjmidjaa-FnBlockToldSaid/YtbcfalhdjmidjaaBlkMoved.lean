/-
  The walk of FnBlockMoved and of what it calls besides blockString. No conditions but what the form's reach gives.
-/
import Derived.Test.YtbcfalhdjmidjaaBlkString
import Derived.Lib.SmallJoins
import Derived.Deep.QuietTactic
import Derived.BigQuiet
namespace Go.Proofs.Ytbcfalhdjmidjaa
open Go.RowKit Go.Proofs.Ytbcfalhdjmidjaa.Blk

set_option maxHeartbeats 400000 in
theorem zz_block (s : ByteArray) (w : World) (hs : s.size ≤ 1048576) : Calls Try.prog 9 #[.string s] w (Answers s w) := by
  go_enter Try.func9, Try.ntmps9
  go_wp2_with (go_at_call 12; refine (blockString_any _ _ hs).mono ?_; rintro e w1 ⟨r, rfl, hr, hb⟩)
  go_ret
  exact ⟨r, rfl, hr, hb⟩

set_option maxHeartbeats 400000 in
theorem impl_block (s : ByteArray) (w : World) (hs : s.size ≤ 1048576) : Calls Try.prog 7 #[.string s] w (Answers s w) := by
  go_enter Try.func7, Try.ntmps7
  go_wp2_with (go_at_call 9; refine (zz_block _ _ hs).mono ?_; rintro e w1 ⟨r, rfl, hr, hb⟩)
  go_ret
  exact ⟨r, rfl, hr, hb⟩

/-- 'plainLine' -/
def okByte (c : UInt8) : Bool := !(decide (c.toNat < 32) || c == 34 || c == 92)
def plainL (l : Bs) : Bool := l.all okByte && l.any (· != 32)

def SomeBool (w : World) (e : Ending) (w' : World) : Prop := ∃ b, e = .returned (.bool b) ∧ w = w'

set_option maxHeartbeats 800000 in
theorem fits_any (b off len cap : Nat) (ss : List ByteArray) (w : World) (hl : len ≤ maxLen)
    (hcell : ∀ j, j < len → w.cell? ⟨b, off + j, none⟩ = some (.string (ss.getD j ByteArray.empty))) :
    Calls Try.prog 5 #[.slice (some ⟨b, off, none⟩) len cap] w (SomeBool w) := by
  have HC := Lib.hid hcell
  clear hcell
  unfold maxLen at hl
  go_enter Try.func5, Try.ntmps5
  by_cases hbig : 2147483647 < len
  · go_wp2
    go_ret
    exact ⟨_, rfl, rfl⟩
  · go_wp2_with fail
    go_loop [10] (fun i => ∃ k : Nat, k ≤ len ∧ i = .int .i64 k) (fun i => len - (intOf i).toNat)
    case atStart => exact ⟨0, Nat.zero_le _, rfl⟩
    case round =>
      obtain ⟨k, hk, rfl⟩ := hrel
      by_cases hlt : k < len
      · obtain ⟨x, hx⟩ : ∃ x, x = ss.getD k ByteArray.empty := ⟨_, rfl⟩
        have hc : w.cell? ⟨b, off + k, none⟩ = some (.string x) := by rw [hx]; exact HC.out k hlt
        clear hx
        by_cases hx : 2147483647 < x.size
        · go_wp2
          go_ret
          exact ⟨_, rfl, rfl⟩
        · go_wp2
          go_round
          case rel => exact ⟨k + 1, by omega, by go_num⟩
          case measure => simp [intOf]; omega
      · go_wp2
        go_ret
        exact ⟨_, rfl, rfl⟩

theorem all_succ (s : ByteArray) (p : UInt8 → Bool) (k : Nat) (hk : k < s.size) : ((toL s).take (k + 1)).all p = (((toL s).take k).all p && p s[k]) := by
  have hl : k < (toL s).length := by rw [toL_length]; exact hk
  rw [List.take_succ_eq_append_getElem hl, show (toL s)[k] = s[k] from rfl]
  simp
  rfl
theorem any_succ (s : ByteArray) (p : UInt8 → Bool) (k : Nat) (hk : k < s.size) : ((toL s).take (k + 1)).any p = (((toL s).take k).any p || p s[k]) := by
  have hl : k < (toL s).length := by rw [toL_length]; exact hk
  rw [List.take_succ_eq_append_getElem hl, show (toL s)[k] = s[k] from rfl]
  simp
  rfl

theorem okByte_no (c : UInt8) (h : okByte c = false) : (c.toNat < 32) ∨ c.toNat = 34 ∨ c.toNat = 92 := by
  simp only [okByte, Bool.not_eq_false', Bool.or_eq_true, decide_eq_true_eq, beq_iff_eq, ← UInt8.toNat_inj] at h
  rcases h with (h | h) | h
  · exact .inl h
  · exact .inr (.inl h)
  · exact .inr (.inr h)
theorem okByte_yes (c : UInt8) (h : okByte c = true) : 32 ≤ c.toNat ∧ c.toNat ≠ 34 ∧ c.toNat ≠ 92 := by
  simp only [okByte, Bool.not_eq_true', Bool.or_eq_false_iff, decide_eq_false_iff_not, beq_eq_false_iff_ne, ne_eq, ← UInt8.toNat_inj] at h
  exact ⟨by omega, h.1.2, h.2⟩

set_option maxHeartbeats 1000000 in
theorem plain_any (s : ByteArray) (w : World) (hs : s.size ≤ maxLen) :
    Calls Try.prog 6 #[.string s] w fun e w' => e = .returned (.bool (plainL (toL s))) ∧ w = w' := by
  unfold maxLen at hs
  go_enter Try.func6, Try.ntmps6
  go_wp2_with fail
  go_loop [3, 4] (fun m i => ∃ k : Nat, k ≤ s.size ∧ i = .int .i64 k ∧ m = .bool (((toL s).take k).any (· != 32)) ∧ ((toL s).take k).all okByte = true) (fun _ i => s.size - (intOf i).toNat)
  case atStart => exact ⟨0, Nat.zero_le _, rfl, rfl, rfl⟩
  case round =>
    obtain ⟨k, hk, rfl, rfl, hall⟩ := hrel
    have HA := Lib.hid hall; clear hall
    by_cases hlt : k < s.size
    · cases hok : okByte s[k] with
      | false =>
        have HO := Lib.hid hok
        have HP : Hid (plainL (toL s) = false) := by
          show _ = _
          have h1 := all_succ s okByte k hlt
          rw [HO.out, Bool.and_false] at h1
          have : (toL s).all okByte = false := by
            rw [List.all_eq_false] at h1 ⊢
            obtain ⟨x, hx, h⟩ := h1
            exact ⟨x, List.mem_of_mem_take hx, h⟩
          simp [plainL, this]
        generalize hm : ((toL s).take k).any (· != 32) = m
        clear hm
        rcases okByte_no _ hok with h | h | h
        · clear hok
          go_wp2
          go_ret
          exact ⟨by rw [HP.out]; rfl, rfl⟩
        · clear hok
          have h1 : ((s[k].toNat : Int) == 34) = true := beq_iff_eq.2 (by omega)
          have h2 : ¬ (s[k].toNat < 32) := by omega
          clear h
          go_wp2
          go_ret
          exact ⟨by rw [HP.out]; rfl, rfl⟩
        · clear hok
          have h0 : ((s[k].toNat : Int) == 34) = false := beq_eq_false_iff_ne.2 (by omega)
          have h1 : ((s[k].toNat : Int) == 92) = true := beq_iff_eq.2 (by omega)
          have h2 : ¬ (s[k].toNat < 32) := by omega
          clear h
          go_wp2
          go_ret
          exact ⟨by rw [HP.out]; rfl, rfl⟩
      | true =>
        have H1 : Hid (((toL s).take (k + 1)).all okByte = true) := by show _ = _; rw [all_succ s _ k hlt, HA.out, hok]; rfl
        have H2 := Lib.hid (any_succ s (· != 32) k hlt)
        obtain ⟨ha, hb, hc⟩ := okByte_yes _ hok
        clear hok
        have h0 : ((s[k].toNat : Int) == 34) = false := beq_eq_false_iff_ne.2 (by omega)
        have h1 : ((s[k].toNat : Int) == 92) = false := beq_eq_false_iff_ne.2 (by omega)
        have h3 : Hid ((s[k] != 32) = ((s[k].toNat : Int) != 32)) := by
          show _ = _
          rw [Bool.eq_iff_iff, bne_iff_ne, bne_iff_ne, ne_eq, ne_eq, ← UInt8.toNat_inj]
          have : (32 : UInt8).toNat = 32 := rfl
          omega
        clear hb hc
        cases hm : ((toL s).take k).any (· != 32) with
        | true =>
          have HM := Lib.hid hm; clear hm
          go_wp2
          go_round
          case rel => exact ⟨k + 1, by omega, by go_num, by rw [H2.out, HM.out]; rfl, H1.out⟩
          case measure => simp [intOf]; omega
        | false =>
          have HM := Lib.hid hm; clear hm
          go_wp2
          go_round
          case rel => exact ⟨k + 1, by omega, by go_num, by rw [H2.out, HM.out, h3.out]; simp, H1.out⟩
          case measure => simp [intOf]; omega
    · have HP : Hid (plainL (toL s) = ((toL s).take k).any (· != 32)) := by
        show _ = _
        have h := HA.out
        rw [List.take_of_length_le (by rw [toL_length]; omega)] at h ⊢
        simp [plainL, h]
      generalize hm : ((toL s).take k).any (· != 32) = m
      have HM := Lib.hid hm; clear hm
      go_wp2
      go_ret
      exact ⟨by rw [HP.out, HM.out]; rfl, rfl⟩

theorem Below.refl' (w : World) : Below w.heap.size w w := Below.refl _ _

def Tells (w : World) (e : Ending) (w' : World) : Prop := e = .returned (.bool true) ∧ Below w.heap.size w w'

theorem moved_none (a : Option Addr) (cap : Nat) (first : ByteArray) (w : World) (h : Calls Try.prog 5 #[.slice a 0 cap] w (SomeBool w)) :
    Calls Try.prog 3 #[.slice a 0 cap, .string first] w (Tells w) := by
  have H := Lib.hid h
  clear h
  go_enter Try.func3, Try.ntmps3
  go_wp2_with fail
  refine H.out.mono ?_
  rintro e w1 ⟨b, rfl, rfl⟩
  by_cases hf : 2147483647 < first.size
  all_goals
    cases b
    all_goals
      go_wp2
      go_ret
      exact ⟨rfl, Below.refl _ _⟩

theorem fits_none (a : Option Addr) (cap : Nat) (w : World) : Calls Try.prog 5 #[.slice a 0 cap] w (SomeBool w) := by
  go_enter Try.func5, Try.ntmps5
  go_wp2_with fail
  refine wp_loop_once ?_
  go_wp2
  go_ret
  exact ⟨_, rfl, rfl⟩

/-- the two texts behind k lines -/
structure Moved (first : ByteArray) (ss : List ByteArray) (k : Nat) (s t : ByteArray) : Prop where
  s_ : toL s = nlJoin (toL first) ((ss.take k).map toL)
  t_ : toL t = nlJoin (toL first) ((ss.take k).map fun x => 32 :: toL x)
  plain : ∀ j x, j < k → ss[j]? = some x → plainL (toL x) = true
  ssz : s.size ≤ 60 + 62 * k
  tsz : t.size ≤ 60 + 62 * k

theorem nlJoin_snoc (f : Bs) (ls : List Bs) (l : Bs) : nlJoin f (ls ++ [l]) = nlJoin f ls ++ 10 :: l := by
  induction ls generalizing f with
  | nil => rfl
  | cons a r ih => simp [nlJoin, ih]

theorem toL_append (a b : ByteArray) : toL (a ++ b) = toL a ++ toL b := Joins.data_append a b

theorem Moved.next {first : ByteArray} {ss : List ByteArray} {k : Nat} {s t x : ByteArray} (h : Moved first ss k s t) (hx : ss[k]? = some x) (hp : plainL (toL x) = true) (hs : x.size ≤ 60) :
    Moved first ss (k + 1) (s ++ ⟨#[10]⟩ ++ x) (t ++ ⟨#[10, 32]⟩ ++ x) := by
  have hk : k < ss.length := (List.getElem?_eq_some_iff.1 hx).1
  have he : ss[k] = x := (List.getElem?_eq_some_iff.1 hx).2
  have h1 := h.ssz
  have h2 := h.tsz
  have e1 : (⟨#[10]⟩ : ByteArray).size = 1 := rfl
  have e2 : (⟨#[10, 32]⟩ : ByteArray).size = 2 := rfl
  refine ⟨?_, ?_, ?_, ?_, ?_⟩
  · rw [List.take_succ_eq_append_getElem hk, List.map_append, he, List.map_singleton, nlJoin_snoc, toL_append, toL_append, h.s_]; simp [toL]
  · rw [List.take_succ_eq_append_getElem hk, List.map_append, he, List.map_singleton, nlJoin_snoc, toL_append, toL_append, h.t_]; simp [toL]
  · intro j y hj hy
    rcases Nat.lt_succ_iff_lt_or_eq.1 hj with h' | rfl
    · exact h.plain j y h' hy
    · rw [hx] at hy; cases hy; exact hp
  · simp only [ByteArray.size_append, e1]; omega
  · simp only [ByteArray.size_append, e2]; omega

theorem plain_lines {l : Bs} (h : plainL l = true) : (∀ c ∈ l, c ≠ 10) ∧ allBk l = false := by
  simp only [plainL, Bool.and_eq_true, List.all_eq_true, List.any_eq_true] at h
  obtain ⟨h1, c, hc, hne⟩ := h
  refine ⟨fun d hd e => ?_, ?_⟩
  · have := (okByte_yes d (h1 d hd)).1
    rw [e] at this; exact absurd this (by decide)
  · rw [allBk, List.all_eq_false]
    refine ⟨c, hc, fun hb => ?_⟩
    have h32 := (okByte_yes c (h1 c hc)).1
    rcases (isBk_iff c).1 hb with h | h
    · simp only [bne_iff_ne, ne_eq, ← UInt8.toNat_inj] at hne; exact hne h
    · omega

theorem Moved.same {first : ByteArray} {ss : List ByteArray} {k : Nat} {s t : ByteArray} (h : Moved first ss k s t) (hk : ss.length ≤ k) (h0 : 0 < ss.length) (hf : ((toL first).all fun c => c != 10) = true) :
    says (toL s) = says (toL t) := by
  have e1 := h.s_
  have e2 := h.t_
  rw [List.take_of_length_le hk] at e1 e2
  have hp : ∀ x ∈ ss, plainL (toL x) = true := fun x hx => by
    obtain ⟨j, hj⟩ := List.getElem?_of_mem hx
    exact h.plain j x (by have := (List.getElem?_eq_some_iff.1 hj).1; omega) hj
  rw [e1, e2, says_moved (toL first) (ss.map toL)]
  · simp [List.map_map, Function.comp_def]
  · intro c hc; have := (List.all_eq_true.1 hf) c hc; simpa using this
  · intro l hl; obtain ⟨x, hx, rfl⟩ := List.mem_map.1 hl; exact (plain_lines (hp x hx)).1
  · intro l hl; obtain ⟨x, hx, rfl⟩ := List.mem_map.1 hl; exact (plain_lines (hp x hx)).2
  · intro h; rw [List.map_eq_nil_iff] at h; rw [h] at h0; simp at h0

theorem chain3 {w a b c d : World} (h : Below w.heap.size w a) (h1 : Below a.heap.size a b) (h2 : Below b.heap.size b c) (h3 : Below c.heap.size c d) : Below w.heap.size w d :=
  ((h.trans (h1.mono h.size)).trans (h2.mono (Nat.le_trans h.size h1.size))).trans (h3.mono (Nat.le_trans h.size (Nat.le_trans h1.size h2.size)))

set_option maxHeartbeats 2000000 in
theorem moved_any (b off len cap : Nat) (ss : List ByteArray) (first : ByteArray) (w : World) (hlen : 0 < len) (hl : len ≤ maxLen) (hfs : first.size ≤ maxLen) (hss : ss.length = len) (hs : ∀ x ∈ ss, x.size ≤ maxLen)
    (hcell : ∀ j, j < len → w.cell? ⟨b, off + j, none⟩ = some (.string (ss.getD j ByteArray.empty))) :
    Calls Try.prog 3 #[.slice (some ⟨b, off, none⟩) len cap, .string first] w (Tells w) := by
  have HF := Lib.hid (fits_any b off len cap ss w hl hcell)
  have HC := Lib.hid hcell
  have HSS := Lib.hid hss
  have HS := Lib.hid hs
  clear hcell hss hs
  unfold maxLen at hfs hl
  have h0 : ((len : Int) == 0) = false := beq_eq_false_iff_ne.2 (by omega)
  go_enter Try.func3, Try.ntmps3
  go_wp2_with fail
  refine HF.out.mono ?_
  rintro e w1 ⟨ok, rfl, rfl⟩
  cases ok with
  | false =>
    go_wp2
    go_ret
    exact ⟨rfl, Below.refl _ _⟩
  | true =>
    by_cases hf : 60 < first.size
    · by_cases hf2 : 2147483647 < first.size
      · go_wp2
        go_ret
        exact ⟨rfl, Below.refl _ _⟩
      · by_cases hl30 : 30 < len
        · go_wp2
          go_ret
          exact ⟨rfl, Below.refl _ _⟩
        · go_wp2
          go_ret
          exact ⟨rfl, Below.refl _ _⟩
    · by_cases hl30 : 30 < len
      · go_wp2
        go_ret
        exact ⟨rfl, Below.refl _ _⟩
      · go_wp2_with fail
        go_loopw [5, 6, 7] (fun s t i wr => ∃ (k : Nat) (sk tk : ByteArray), k ≤ len ∧ s = .string sk ∧ t = .string tk ∧ i = .int .i64 k ∧ Moved first ss k sk tk ∧ ∃ q, wr = w.drewN q) (fun _ _ i _ => len - (intOf i).toNat)
        case atStart => exact ⟨0, first, first, Nat.zero_le _, rfl, rfl, rfl, ⟨rfl, rfl, fun j x hj => absurd hj (by omega), by omega, by omega⟩, 0, rfl⟩
        case round =>
          obtain ⟨k, sk, tk, hk, rfl, rfl, rfl, HM, q, rfl⟩ := hrel
          have h1 := HM.ssz
          have h2 := HM.tsz
          by_cases hlt : k < len
          · obtain ⟨x, hx⟩ : ∃ x, x = ss.getD k ByteArray.empty := ⟨_, rfl⟩
            have hc : w.cell? ⟨b, off + k, none⟩ = some (.string x) := by rw [hx]; exact HC.out k hlt
            have hx' : ss[k]? = some x := by
              have hk' : k < ss.length := by rw [HSS.out]; exact hlt
              rw [hx, List.getElem?_eq_getElem hk']; simp [hk']
            have hxs := HS.out x (List.mem_of_getElem? hx')
            have HX := Lib.hid hx'
            clear hx hx'
            have hxs' := hxs
            unfold maxLen at hxs'
            by_cases hx60 : 60 < x.size
            · go_wp2
              go_ret
              exact ⟨rfl, below_draws (Below.refl _ _) _⟩
            · cases hp : plainL (toL x) with
              | false =>
                have HP := Lib.hid hp; clear hp
                go_wp2_with (go_at_call 6; refine (plain_any x _ hxs).mono ?_; rintro e w2 ⟨rfl, rfl⟩; rw [HP.out])
                go_ret
                exact ⟨rfl, below_draws (Below.refl _ _) _⟩
              | true =>
                have HP := Lib.hid hp; clear hp
                go_wp2_with (go_at_call 6; refine (plain_any x _ hxs).mono ?_; rintro e w2 ⟨rfl, rfl⟩; rw [HP.out])
                go_quiet (fail)
                go_wp2
                go_roundw
                case rel => exact ⟨k + 1, _, _, by omega, rfl, rfl, by go_num, HM.next HX.out HP.out (by omega), _, rfl⟩
                case measure => simp [intOf]; omega
          · obtain rfl : k = len := by omega
            go_wp2_with fail
            go_loopw [8] (fun i wr => ∃ j : Nat, j ≤ first.size ∧ i = .int .i64 j ∧ (((toL first).take j).all fun c => c != 10) = true ∧ wr = w.drewN q) (fun i _ => first.size - (intOf i).toNat)
            case atStart => exact ⟨0, Nat.zero_le _, rfl, rfl, rfl⟩
            case round =>
              obtain ⟨j, hj, rfl, hall, rfl⟩ := hrel
              have HA := Lib.hid hall; clear hall
              by_cases hjl : j < first.size
              · by_cases hc10 : first[j].toNat = 10
                · have h10 : ((first[j].toNat : Int) == 10) = true := beq_iff_eq.2 (by omega)
                  clear hc10
                  go_wp2
                  go_ret
                  exact ⟨rfl, below_draws (Below.refl _ _) _⟩
                · have h10 : ((first[j].toNat : Int) == 10) = false := beq_eq_false_iff_ne.2 (by omega)
                  have HN : Hid ((((toL first).take (j + 1)).all fun c => c != 10) = true) := by
                    show _ = _
                    rw [all_succ first _ j hjl, HA.out, Bool.true_and, bne_iff_ne, ne_eq, ← UInt8.toNat_inj]; exact hc10
                  clear hc10
                  by_cases hc13 : first[j].toNat = 13
                  · have h13 : ((first[j].toNat : Int) == 13) = true := beq_iff_eq.2 (by omega)
                    clear hc13
                    go_wp2
                    go_ret
                    exact ⟨rfl, below_draws (Below.refl _ _) _⟩
                  · have h13 : ((first[j].toNat : Int) == 13) = false := beq_eq_false_iff_ne.2 (by omega)
                    clear hc13
                    go_wp2
                    go_roundw
                    case rel => exact ⟨j + 1, by omega, by go_num, HN.out, by first | trivial | rfl⟩
                    case measure => simp [intOf]; omega
              · have HE := Lib.hid (HM.same (by rw [HSS.out]; exact Nat.le_refl _) (by rw [HSS.out]; exact hlen) (by have := HA.out; rw [List.take_of_length_le (by rw [toL_length]; omega)] at this; exact this))
                go_wp2_with fail
                refine (impl_block sk _ (by omega)).mono ?_
                rintro e w3 ⟨r1, rfl, hr1, hb1⟩
                go_wp2_with fail
                refine (impl_block tk _ (by omega)).mono ?_
                rintro e w4 ⟨r2, rfl, hr2, hb2⟩
                have heq : (r1.toList == r2.toList) = true := by rw [toList_eq, toList_eq, hr1, hr2, HE.out]; exact beq_self_eq_true _
                have HR1 := Lib.hid hr1
                have HR2 := Lib.hid hr2
                clear hr1 hr2
                go_wp2_with fail
                refine (impl_block ⟨#[97]⟩ _ (by decide)).mono ?_
                rintro e w5 ⟨r3, rfl, hr3, hb3⟩
                have h3 : (r3.toList == [97]) = true := by rw [toList_eq, hr3]; rfl
                clear hr3
                go_wp2
                go_ret
                exact ⟨rfl, chain3 (below_draws (Below.refl _ _) q) hb1 hb2 hb3⟩

end Go.Proofs.Ytbcfalhdjmidjaa
