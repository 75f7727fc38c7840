/-
  The contract of the reference's 'lines' at a text without carriage returns: the lines of the text. No other conditions but the length.
-/
import Derived.Test.YtbcfalhdjmidjaaBlkMoved
namespace Go.Proofs.Ytbcfalhdjmidjaa
open Go.RowKit Go.Proofs.Ytbcfalhdjmidjaa.Blk

theorem own_form {B : Nat} {w : World} {v : Value} {n : Nat} {xs : List Value} (h : w.ownsRow B 9 1 v n xs) (hn : 0 < n) : ∃ g cap : Nat, v = .slice (some ⟨g, 0, none⟩) n cap ∧ n ≤ cap := by
  rcases h.2 with ⟨_, h0⟩ | ⟨g, cap, cur, rfl, _, _, hnc, _⟩
  · omega
  · exact ⟨g, cap, rfl, hnc⟩

/-- the lines of what has been read -/
structure Reading (B g cap : Nat) (s : ByteArray) (k : Nat) (w wr : World) (cur : List ByteArray) : Prop where
  lines : cur.map toL = splitNL ((toL s).take k)
  at_ : Lines B g cap w wr cur
  pos : 0 < cur.length
  num : cur.length ≤ k + 1
  small : ∀ x ∈ cur, x.size ≤ k

theorem take_snoc (s : ByteArray) (k : Nat) (hk : k < s.size) : (toL s).take (k + 1) = (toL s).take k ++ [s[k]] := by
  have hl : k < (toL s).length := by rw [toL_length]; exact hk
  rw [List.take_succ_eq_append_getElem hl]; rfl

theorem Reading.nl {B g cap g' cap' : Nat} {s : ByteArray} {k : Nat} {w wr w1 : World} {cur : List ByteArray} {v : Value} (h : Reading B g cap s k w wr cur) (hk : k < s.size) (h10 : s[k] = 10)
    (hown : w1.ownsRow B 9 1 v (cur.length + 1) (cur.map strV ++ [strV ⟨#[]⟩])) (hv : v = .slice (some ⟨g', 0, none⟩) (cur.length + 1) cap') (hb : Below B w w1) :
    Reading B g' cap' s (k + 1) w w1 (cur ++ [⟨#[]⟩]) := by
  subst hv
  refine ⟨?_, ⟨by simpa using hown, hb⟩, by simp, by have := h.num; simp; omega, ?_⟩
  · rw [take_snoc s k hk, splitNL_snoc, ← h.lines, h10]
    simp [addLast, toL]
  · intro x hx
    rcases List.mem_append.1 hx with hx | hx
    · have := h.small x hx; omega
    · simp at hx; subst hx; exact Nat.zero_le _

theorem Reading.more {B g cap : Nat} {s : ByteArray} {k : Nat} {w wr : World} {cur : List ByteArray} (h : Reading B g cap s k w wr cur) (hk : k < s.size) (h10 : s[k] ≠ 10) {x : ByteArray} (hx : cur[cur.length - 1]? = some x) :
    Reading B g cap s (k + 1) w ((wr.setCell ⟨g, cur.length - 1, none⟩ (.string (x ++ s.extract k (k + 1)))).drew) (cur.set (cur.length - 1) (x ++ s.extract k (k + 1))) := by
  have hp := h.pos
  have he : toL (s.extract k (k + 1)) = [s[k]] := by
    have hl : k < (toL s).length := by rw [toL_length]; exact hk
    rw [toL_extract, show k + 1 - k = 1 from by omega, show (toL s).drop k = s[k] :: (toL s).drop (k + 1) from List.drop_eq_getElem_cons hl]
    rfl
  have hL := h.at_.set (cur.length - 1) (x ++ s.extract k (k + 1))
  refine ⟨?_, ⟨by have := hL.own; rw [List.length_set] at this ⊢; exact this, hL.below.drew⟩, by simpa using hp, by have := h.num; simp; omega, ?_⟩
  · rw [take_snoc s k hk, splitNL_snoc, ← h.lines, List.map_set, toL_append, he]
    simp only [addLast, h10, if_false]
    obtain ⟨l, rfl⟩ : ∃ l, cur = l ++ [x] := ⟨cur.dropLast, by
      have hne : cur ≠ [] := fun e => by rw [e] at hp; simp at hp
      have h1 := (List.getElem?_eq_some_iff.1 hx).2
      have h2 := List.dropLast_concat_getLast hne
      rw [List.getLast_eq_getElem, h1] at h2
      exact h2.symm⟩
    simp
  · intro y hy
    rcases List.mem_or_eq_of_mem_set hy with hy | rfl
    · have := h.small y hy; omega
    · have := h.small x (List.mem_of_getElem? hx)
      rw [ByteArray.size_append, ByteArray.size_extract]; omega

set_option maxHeartbeats 1000000 in
theorem lines_any (s : ByteArray) (w : World) (hs : s.size ≤ 1048576) (hcr : ∀ c ∈ toL s, c ≠ 13) :
    Calls Try.prog 10 #[.string s] w (Splits w.heap.size s w) := by
  obtain ⟨i0, hi, hz0, hz1, hz2⟩ := info_parts Try.info9
  have HCR := Lib.hid hcr
  clear hcr
  go_enter Try.func10, Try.ntmps10
  go_wp2_with fail
  go_loopw [3, 4] (fun v i wr => ∃ (k g cap : Nat) (cur : List ByteArray), k ≤ s.size ∧ i = .int .i64 k ∧ v = .slice (some ⟨g, 0, none⟩) cur.length cap ∧ Reading w.heap.size g cap s k w wr cur) (fun _ i _ => s.size - (intOf i).toNat)
  case atStart => exact ⟨0, w.heap.size, 1, [⟨#[]⟩], Nat.zero_le _, rfl, rfl, ⟨rfl, ⟨World.ownsRow_lit w #[strV ⟨#[]⟩] 1 (Nat.le_refl _) (by decide) rfl, (Below.refl _ _).alloc (Nat.le_refl _) _⟩, by simp, by simp, fun x hx => by rw [List.mem_singleton.1 hx]; exact Nat.le_refl _⟩⟩
  case round =>
    obtain ⟨k, g, cap, cur, hk, rfl, rfl, H⟩ := hrel
    have hnum := H.num
    have hpos := H.pos
    have hbs := H.at_.below.size
    have hg := H.at_.lt
    by_cases hlt : k < s.size
    · have h13 : ((s[k].toNat : Int) == 13) = false := beq_eq_false_iff_ne.2 (fun h => by
        have := HCR.out s[k] (List.mem_of_getElem? (getElem_toList s k hlt))
        rw [ne_eq, ← UInt8.toNat_inj] at this
        have e : (13 : UInt8).toNat = 13 := rfl
        omega)
      by_cases hc : s[k] = 10
      · have h10 : ((s[k].toNat : Int) == 10) = true := by rw [hc]; rfl
        have HC := Lib.hid hc; clear hc
        go_wp2_with (at_builtin; refine wpList_append_own _ rfl (.tmp 42) (.tmp 43) 22 rfl w.heap.size 9 i0 (.string ⟨#[]⟩) 1 16 Try.underlying22 hi hz0 hz1 hz2 rfl (by decide) _ _ _ rfl (H.at_.own.alloc _) ⟨wr.heap.size, 0, none⟩ 1 1 [strV ⟨#[]⟩] rfl rfl (one_new _ _ _ rfl) (one_cell _) (by unfold maxLen; omega) (by omega) (by simp; omega) ?_; intro v' w1 hown hgrow _; have hbel := (H.at_.below.alloc hbs (.cells #[.string ⟨#[]⟩] 9)).grown hgrow (by simp; omega) (fun q hq => by cases hq; exact hg.1); clear hgrow)
        obtain ⟨g', cap', hv, hnc⟩ := own_form hown (by omega)
        have R := H.nl hlt HC.out hown hv hbel
        subst hv
        go_roundw
        case rel => exact ⟨k + 1, g', cap', _, by omega, by go_num, by simp, R⟩
        case measure => simp [intOf]; omega
      · have h10 : ((s[k].toNat : Int) == 10) = false := beq_eq_false_iff_ne.2 (fun h => hc (by rw [← UInt8.toNat_inj]; have e : (10 : UInt8).toNat = 10 := rfl; omega))
        have HC := Lib.hid hc; clear hc
        obtain ⟨x, hx⟩ : ∃ x, cur[cur.length - 1]? = some x := ⟨cur[cur.length - 1]'(by omega), List.getElem?_eq_getElem _⟩
        have hcell := H.at_.cell _ x hx
        have hfr := H.at_.own.frozenAt (cur.length - 1)
        have hxs := H.small x (List.mem_of_getElem? hx)
        have HX := Lib.hid hx; clear hx
        go_wp2_with fail
        go_region
        go_wp2
        go_roundw
        case rel => exact ⟨k + 1, g, cap, _, by omega, by go_num, by rw [List.length_set], H.more hlt HC.out HX.out⟩
        case measure => simp [intOf]; omega
    · have HL : Hid (cur.map toL = splitNL (toL s)) := by show _ = _; rw [H.lines, List.take_of_length_le (by rw [toL_length]; omega)]
      go_wp2_with fail
      go_ret
      exact ⟨_, cur, rfl, HL.out, H.at_.own, H.at_.below⟩

end Go.Proofs.Ytbcfalhdjmidjaa
