/-
  The contract of blockString: what a block string says. No conditions but the text's length.
-/
import Derived.Test.YtbcfalhdjmidjaaBlkIndent
import Derived.Test.YtbcfalhdjmidjaaShelf
import Derived.Deep.DeepCutAuto
namespace Go.Proofs.Ytbcfalhdjmidjaa
open Go.RowKit Go.Proofs.Ytbcfalhdjmidjaa.Blk

theorem own_below {w w' : World} {base : Nat} {e : TypeId} {size : Nat} {v : Value} {n : Nat} {xs : List Value} (h : w.ownsRow base e size v n xs) (hb : Below w.heap.size w w') : w'.ownsRow base e size v n xs := by
  obtain ⟨h1, h2⟩ := h
  refine ⟨h1, ?_⟩
  rcases h2 with h2 | ⟨g, cap, cur, hv, hg, hh, r⟩
  · exact .inl h2
  · refine .inr ⟨g, cap, cur, hv, hg, ?_, r⟩
    have hlt : g < w.heap.size := by
      rcases Nat.lt_or_ge g w.heap.size with h | h
      · exact h
      · rw [Array.getElem?_eq_none h] at hh; cases hh
    exact (hb.block g hlt).trans hh

/-- the lines of which those before k are cut -/
def cutK (n k : Nat) (ls : List Bs) : List Bs := (cutAll n ls).take k ++ ls.drop k

theorem length_cutAll (n : Nat) (ls : List Bs) : (cutAll n ls).length = ls.length := by cases ls <;> simp [cutAll]

theorem cutK_one (n : Nat) (ls : List Bs) : cutK n 1 ls = ls := by
  unfold cutK; cases ls <;> simp [cutAll]

theorem cutK_all (n k : Nat) (ls : List Bs) (h : ls.length ≤ k) : cutK n k ls = cutAll n ls := by
  unfold cutK; rw [List.take_of_length_le (by rw [length_cutAll]; exact h), List.drop_eq_nil_of_le h, List.append_nil]

theorem cutAll_zero (ls : List Bs) : cutAll 0 ls = ls := by cases ls <;> simp [cutAll]

theorem cutAll_get (n k : Nat) (ls : List Bs) (h1 : 1 ≤ k) (x : Bs) (hx : ls[k]? = some x) : (cutAll n ls)[k]? = some (x.drop n) := by
  cases ls with
  | nil => simp at hx
  | cons a r =>
    obtain ⟨j, rfl⟩ : ∃ j, k = j + 1 := ⟨k - 1, by omega⟩
    simp only [List.getElem?_cons_succ] at hx
    simp [cutAll, hx]

theorem cutK_succ (n k : Nat) (ls : List Bs) (h1 : 1 ≤ k) (x : Bs) (hx : ls[k]? = some x) : cutK n (k + 1) ls = (cutK n k ls).set k (x.drop n) := by
  have hk : k < ls.length := (List.getElem?_eq_some_iff.1 hx).1
  have hg := cutAll_get n k ls h1 x hx
  have hk' : k < (cutAll n ls).length := by rw [length_cutAll]; exact hk
  have he : (cutAll n ls)[k] = x.drop n := (List.getElem?_eq_some_iff.1 hg).2
  unfold cutK
  have hl : ((cutAll n ls).take k).length = k := by simp; omega
  rw [List.set_append_right _ _ (by omega), hl, Nat.sub_self, List.take_succ_eq_append_getElem hk', he]
  rw [show ls.drop k = ls[k] :: ls.drop (k + 1) from List.drop_eq_getElem_cons hk, List.append_assoc]
  rfl

theorem cutK_get (n k : Nat) (ls : List Bs) (x : Bs) (hx : ls[k]? = some x) : (cutK n k ls)[k]? = some x := by
  have hk : k < ls.length := (List.getElem?_eq_some_iff.1 hx).1
  unfold cutK
  rw [List.getElem?_append_right (by simp; omega)]
  simp only [List.length_take, length_cutAll]
  rw [show k - min k ls.length = 0 from by omega, List.getElem?_drop]
  simpa using hx

/-- the lines as they stand in memory -/
structure Lines (B g cap : Nat) (w wr : World) (cur : List ByteArray) : Prop where
  own : wr.ownsRow B 9 1 (.slice (some ⟨g, 0, none⟩) cur.length cap) cur.length (cur.map strV)
  below : Below B w wr

theorem Lines.cell {B g cap : Nat} {w wr : World} {cur : List ByteArray} (h : Lines B g cap w wr cur) (j : Nat) (x : ByteArray) (hx : cur[j]? = some x) : wr.cell? ⟨g, j, none⟩ = some (.string x) := by
  have hj : j < cur.length := (List.getElem?_eq_some_iff.1 hx).1
  rw [h.own.cellAt j (by omega)]
  simp [hx, strV]

theorem Lines.lt {B g cap : Nat} {w wr : World} {cur : List ByteArray} (h : Lines B g cap w wr cur) : B ≤ g ∧ g < wr.heap.size := h.own.lt g rfl
theorem Lines.after {B g cap : Nat} {w wr w1 : World} {cur : List ByteArray} (h : Lines B g cap w wr cur) (hb : Below wr.heap.size wr w1) (hB : B ≤ wr.heap.size) : Lines B g cap w w1 cur :=
  ⟨own_below h.own hb, h.below.trans (hb.mono hB)⟩

theorem Lines.set {B g cap : Nat} {w wr : World} {cur : List ByteArray} (h : Lines B g cap w wr cur) (j : Nat) (x : ByteArray) : Lines B g cap w (wr.setCell ⟨g, j, none⟩ (.string x)) (cur.set j x) := by
  refine ⟨?_, h.below.setCell h.lt.1 _⟩
  have := h.own.stored j (strV x)
  rw [List.length_set, List.map_set]
  exact this.1

theorem lines_of {B : Nat} {s : ByteArray} {w w1 : World} {e : Ending} (h : Splits B s w e w1) :
    ∃ (g cap : Nat) (ls : List ByteArray), e = .returned (.slice (some ⟨g, 0, none⟩) ls.length cap) ∧ ls.map toL = splitNL (toL s) ∧ Lines B g cap w w1 ls ∧ 0 < ls.length ∧ ls.length ≤ cap := by
  obtain ⟨v, ls, rfl, hl, hown, hb⟩ := h
  have hne : 0 < ls.length := by
    rcases Nat.eq_zero_or_pos ls.length with h0 | h0
    · have := congrArg List.length hl
      rw [List.length_map, h0] at this
      exact absurd (List.eq_nil_of_length_eq_zero this.symm) (splitNL_ne _)
    · exact h0
  rcases hown.2 with ⟨_, hn⟩ | ⟨g, cap, cur, rfl, hg, hh, hnc, hr⟩
  · omega
  · exact ⟨g, cap, ls, rfl, hl, ⟨hown, hb⟩, hne, hnc⟩

/-- the lines in the loop that cuts them -/
structure Cutting (B g cap ind k : Nat) (w wr : World) (ls cur : List ByteArray) : Prop where
  len : cur.length = ls.length
  cut : cur.map toL = cutK ind k (ls.map toL)
  small : ∀ x ∈ cur, x.size ≤ 1048576
  lines : Lines B g cap w wr cur

theorem Cutting.next {B g cap ind k : Nat} {w wr : World} {ls cur : List ByteArray} (h : Cutting B g cap ind k w wr ls cur) (h1 : 1 ≤ k) (hk : k < ls.length) {x : ByteArray} (hx : cur[k]? = some x)
    (y : ByteArray) (hy : toL y = (toL x).drop ind) (hys : y.size ≤ 1048576) : Cutting B g cap ind (k + 1) w (wr.setCell ⟨g, k, none⟩ (.string y)) ls (cur.set k y) := by
  have hg : (ls.map toL)[k]? = some (toL x) := by
    have h2 : (cur.map toL)[k]? = some (toL x) := by simp [hx]
    rw [h.cut] at h2
    unfold cutK at h2
    rw [List.getElem?_append_right (by simp; omega)] at h2
    simp only [List.length_take, length_cutAll] at h2
    rw [List.getElem?_drop, show k + (k - min k (ls.map toL).length) = k from by simp; omega] at h2
    exact h2
  refine ⟨by simpa using h.len, ?_, ?_, h.lines.set k y⟩
  · rw [List.map_set, h.cut, hy, cutK_succ ind k _ h1 (toL x) hg]
  · intro z hz
    rcases List.mem_or_eq_of_mem_set hz with hz | rfl
    · exact h.small z hz
    · exact hys

theorem join_eq (ls : List ByteArray) : Lib.join (ls.map (·.data.toList)) [10] = joinNL (ls.map toL) := by
  induction ls with
  | nil => rfl
  | cons a r ih =>
    cases r with
    | nil => simp [Lib.join, joinNL, toL]
    | cons b r =>
      have h1 : Lib.join ((a :: b :: r).map (·.data.toList)) [10] = a.data.toList ++ 10 :: Lib.join ((b :: r).map (·.data.toList)) [10] := by
        simp [Lib.join, List.intercalate]
      rw [h1, ih]
      rfl

theorem sum_le (ls : List Bs) (c : Nat) (h : ∀ x ∈ ls, x.length ≤ c) : (ls.map List.length).sum ≤ ls.length * c := by
  induction ls with
  | nil => simp
  | cons a r ih =>
    have h1 := h a (by simp)
    have h2 := ih fun x hx => h x (by simp [hx])
    simp only [List.map_cons, List.sum_cons, List.length_cons, Nat.add_mul]
    omega

theorem join_lines {B g cap k m c : Nat} {cur : List ByteArray} {w wr : World} (H : Lines B g cap w wr cur) (hm : k + m ≤ cur.length) (hn : cur.length ≤ 1048577) (hc : m ≤ c) (hs : ∀ x ∈ cur, x.size ≤ 1048576) :
    Calls Try.prog 16 #[.slice (some ⟨g, k, none⟩) m c, .string ⟨#[10]⟩] wr fun e w' => (∃ r : ByteArray, e = .returned (.string r) ∧ toL r = joinNL (((cur.drop k).take m).map toL)) ∧ Below wr.heap.size wr w' := by
  have hl : ((cur.drop k).take m).length = m := by simp; omega
  have hmem : ∀ x ∈ (cur.drop k).take m, x.size ≤ 1048576 := fun x hx => hs x (List.mem_of_mem_drop (List.mem_of_mem_take hx))
  have hj := join_eq ((cur.drop k).take m)
  have hlen : (joinNL (((cur.drop k).take m).map toL)).length ≤ 140737488355328 := by
    rcases sum_joinNL (((cur.drop k).take m).map toL) with h | h
    · have h2 := sum_le (((cur.drop k).take m).map toL) 1048576 (fun x hx => by
        obtain ⟨y, hy, rfl⟩ := List.mem_map.1 hx
        rw [toL_length]; exact hmem y hy)
      rw [List.length_map, hl] at h h2
      have : m * 1048576 ≤ 1048577 * 1048576 := Nat.mul_le_mul_right _ (by omega)
      omega
    · rw [h]; simp [joinNL]
  have h := Try.strings_Join g k c ((cur.drop k).take m) ⟨#[10]⟩ wr (fun j x hx => by
      have hx' : cur[k + j]? = some x := by
        rw [List.getElem?_take] at hx
        split at hx
        · rw [List.getElem?_drop] at hx; exact hx
        · cases hx
      exact H.cell (k + j) x hx') H.lt.2 (by omega) (by omega) (by rw [show (⟨#[10]⟩ : ByteArray).data.toList = [10] from rfl, hj]; exact hlen)
  rw [hl] at h
  refine h.mono fun e w' ⟨he, hb⟩ => ⟨⟨_, he, ?_⟩, hb⟩
  rw [show (⟨#[10]⟩ : ByteArray).data.toList = [10] from rfl, hj]
  simp [toL]

theorem back_blank (l : List ByteArray) (j : Nat) (hj : 0 < j) (y : ByteArray) (hy : l[j]? = some y) (hb : allBk (toL y) = true) : dropBack ((l.take (j + 1)).map toL) = dropBack ((l.take (j - 1 + 1)).map toL) := by
  have hl : j < l.length := (List.getElem?_eq_some_iff.1 hy).1
  have he : l[j] = y := (List.getElem?_eq_some_iff.1 hy).2
  rw [List.take_succ_eq_append_getElem hl, List.map_append, he]
  simp only [List.map_cons, List.map_nil]
  rw [dropBack_snoc, if_pos hb, show j - 1 + 1 = j from by omega]

theorem back_stop (l : List ByteArray) (j : Nat) (y : ByteArray) (hy : l[j]? = some y) (hb : allBk (toL y) = false) : dropBack ((l.take (j + 1)).map toL) = (l.take (j + 1)).map toL := by
  have hl : j < l.length := (List.getElem?_eq_some_iff.1 hy).1
  have he : l[j] = y := (List.getElem?_eq_some_iff.1 hy).2
  rw [List.take_succ_eq_append_getElem hl, List.map_append, he]
  simp only [List.map_cons, List.map_nil]
  rw [dropBack_snoc, if_neg (by simp [hb])]

theorem blank_upto {cur : List ByteArray} {k : Nat} {x : ByteArray} (h : ∀ j y, j < k → cur[j]? = some y → allBk (toL y) = true) (hx : cur[k]? = some x) (hb : allBk (toL x) = true) :
    ∀ j y, j < k + 1 → cur[j]? = some y → allBk (toL y) = true := fun j y hj hy => by
  rcases Nat.lt_succ_iff_lt_or_eq.1 hj with h' | rfl
  · exact h j y h' hy
  · rw [hx] at hy; cases hy; exact hb

theorem rest_of_front (cur : List ByteArray) (k : Nat) (h : ∀ j x, j < k → cur[j]? = some x → allBk (toL x) = true) (hk : ∀ x, cur[k]? = some x → allBk (toL x) = false) : dropFront (cur.map toL) = (cur.drop k).map toL := by
  induction cur generalizing k with
  | nil => simp [dropFront]
  | cons a r ih =>
    cases k with
    | zero => have := hk a (by simp); simp [dropFront, this]
    | succ k =>
      have h0 := h 0 a (by omega) (by simp)
      have := ih k (fun j x hj hx => h (j + 1) x (by omega) (by simpa using hx)) (fun x hx => hk x (by simpa using hx))
      simp [dropFront, h0, this]

def Answers (s : ByteArray) (w : World) (e : Ending) (w' : World) : Prop := ∃ r : ByteArray, e = .returned (.string r) ∧ toL r = says (toL s) ∧ Below w.heap.size w w'

set_option maxHeartbeats 2000000 in
theorem blockString_any (s : ByteArray) (w : World) (hs : s.size ≤ 1048576) :
    Calls Try.prog 12 #[.string s] w (Answers s w) := by
  go_enter Try.func12, Try.ntmps12
  go_wp2_with fail
  refine (zzSplit_NL s _ hs).mono ?_
  rintro e w1 hsp
  obtain ⟨g, cap, ls, rfl, hl, H, hne, hcap⟩ := lines_of hsp
  clear hsp
  have hnum : ls.length ≤ s.size + 1 := by have := congrArg List.length hl; rw [List.length_map] at this; rw [this]; have := splitNL_length_le (toL s); rw [toL_length] at this; exact this
  have hmem : ∀ x ∈ ls, x.size ≤ 1048576 := fun x hx => by
    have : toL x ∈ splitNL (toL s) := by rw [← hl]; exact List.mem_map_of_mem hx
    have := splitNL_mem_le _ _ this; rw [toL_length, toL_length] at this; omega
  have HL := Lib.hid hl
  have HC := Lib.hid H.cell
  clear hl
  have hlt := H.lt
  go_wp2_with fail
  refine (indent_any g 0 cap ls _ hlt.2 (fun j x hx => by rw [Nat.zero_add]; exact HC.out j x hx) (by omega) hmem).mono ?_
  rintro e w2 ⟨rfl, hb2⟩
  have H2 := H.after hb2 H.below.size
  clear HC
  generalize hind : indent (ls.map toL).tail = ind
  have HI := Lib.hid hind
  clear hind hb2 H
  go_upto_if 16 with (fail)
  go_cut [] (fun wx => ∃ cur : List ByteArray, cur.length = ls.length ∧ cur.map toL = cutAll ind (ls.map toL) ∧ (∀ x ∈ cur, x.size ≤ 1048576) ∧ Lines w.heap.size g cap w wx cur)
  case first =>
    by_cases h0 : 0 < ind
    · go_wp2_with fail
      go_loopw [5] (fun i wr => ∃ (k : Nat) (cur : List ByteArray), 1 ≤ k ∧ k ≤ ls.length ∧ i = .int .i64 k ∧ Cutting w.heap.size g cap ind k w wr ls cur) (fun i _ => ls.length - (intOf i).toNat)
      case atStart => exact ⟨1, ls, Nat.le_refl _, by omega, rfl, rfl, (cutK_one _ _).symm, hmem, H2⟩
      case round =>
        obtain ⟨k, cur, hk1, hk, rfl, HK⟩ := hrel
        by_cases hkl : k < ls.length
        · have hkc : k < cur.length := by have := HK.len; omega
          obtain ⟨x, hx⟩ : ∃ x, cur[k]? = some x := ⟨cur[k], List.getElem?_eq_getElem hkc⟩
          have hc := HK.lines.cell k x hx
          have hf := HK.lines.own.frozenAt k
          have hxs := HK.small x (List.mem_of_getElem? hx)
          have HX := Lib.hid hx
          clear hx
          by_cases hsz : x.size < ind
          · go_wp2
            go_roundw
            case rel => exact ⟨k + 1, _, by omega, by omega, by go_num, HK.next hk1 hkl HX.out ⟨#[]⟩ (by rw [List.drop_eq_nil_of_le (by rw [toL_length]; omega)]; rfl) (Nat.zero_le _)⟩
            case measure => simp [intOf]; omega
          · go_wp2
            go_roundw
            case rel => exact ⟨k + 1, _, by omega, by omega, by go_num, HK.next hk1 hkl HX.out (x.extract ind x.size) (toL_from _ _) (by rw [ByteArray.size_extract]; omega)⟩
            case measure => simp [intOf]; omega
        · go_wp2
          go_meet
          exact ⟨cur, HK.len, by rw [HK.cut, cutK_all _ _ _ (by simp; omega)], HK.small, HK.lines⟩
    · go_wp2
      go_meet
      exact ⟨ls, rfl, by rw [show ind = 0 from by omega, cutAll_zero], hmem, H2⟩
  case rest =>
    obtain ⟨cur, hlen, hcut, hmem2, H3⟩ := hcut
    have HS : Hid (says (toL s) = joinNL (dropBack (dropFront (cur.map toL)))) := by
      show _ = _
      unfold says; rw [← HL.out, HI.out, hcut]
    clear hcut HL HI H2 hmem
    obtain ⟨n, hn⟩ : ∃ n, n = ls.length := ⟨_, rfl⟩
    rw [← hn] at hlen hne hcap hnum ⊢
    clear hn
    have HLEN := Lib.hid hlen; clear hlen
    go_wp2_with fail
    go_loopw [7, 8] (fun t i wr => ∃ k : Nat, k ≤ n ∧ t = .int .i64 k ∧ i = .int .i64 k ∧ (∀ j x, j < k → cur[j]? = some x → allBk (toL x) = true) ∧ Lines w.heap.size g cap w wr cur) (fun _ i _ => n - (intOf i).toNat)
    case atStart => exact ⟨0, Nat.zero_le _, rfl, rfl, fun j x hj => absurd hj (by omega), H3⟩
    case round =>
      obtain ⟨k, hk, rfl, rfl, hall, H4⟩ := hrel
      have HALL := Lib.hid hall; clear hall
      have hB := H4.below.size
      by_cases hkn : k < n
      · obtain ⟨x, hx⟩ : ∃ x, cur[k]? = some x := ⟨cur[k]'(by rw [HLEN.out]; exact hkn), List.getElem?_eq_getElem _⟩
        have hc := H4.cell k x hx
        have hxs := hmem2 x (List.mem_of_getElem? hx)
        have HX := Lib.hid hx; clear hx
        cases hab : allBk (toL x) with
        | true =>
          have HA := Lib.hid hab; clear hab
          go_wp2_with (go_at_call 15; refine (isBlank_any x _ (by unfold maxLen; omega)).mono ?_; rintro e w5 ⟨rfl, hb5⟩; rw [show allBk x.data.toList = true from HA.out])
          go_roundw
          case rel => exact ⟨k + 1, by omega, by go_num, by go_num, blank_upto HALL.out HX.out HA.out, H4.after hb5 hB⟩
          case measure => simp [intOf]; omega
        | false =>
          have HA := Lib.hid hab; clear hab
          go_wp2_with (go_at_call 15; refine (isBlank_any x _ (by unfold maxLen; omega)).mono ?_; rintro e w5 ⟨rfl, hb5⟩; rw [show allBk x.data.toList = false from HA.out])
          have H5 := H4.after hb5 hB
          have hB5 : w.heap.size ≤ w5.heap.size := by have := hb5.size; omega
          clear H3 H4 hb5 hB hc hxs
          go_loopw [9, 10] (fun t i wr => ∃ (u j : Nat), j + u + 1 + k = n ∧ t = .int .i64 u ∧ i = .int .i64 j ∧ dropBack ((cur.drop k).map toL) = dropBack (((cur.drop k).take (j + 1)).map toL) ∧ Lines w.heap.size g cap w wr cur) (fun _ i _ => (intOf i).toNat)
          case atStart => exact ⟨0, n - k - 1, by omega, rfl, by go_num, by rw [List.take_of_length_le (by have := HLEN.out; simp; omega)], H5⟩
          case round =>
            obtain ⟨u, j, hj, rfl, rfl, hd, H6⟩ := hrel
            have HJ := Lib.hid hj
            have HD := Lib.hid hd
            have hju : j + u + 1 + k ≤ n := by omega
            have hB6 := H6.below.size
            clear hj hd
            by_cases hj0 : 0 < j
            · obtain ⟨y, hy⟩ : ∃ y, cur[k + j]? = some y := ⟨cur[k + j]'(by rw [HLEN.out]; omega), List.getElem?_eq_getElem _⟩
              have hcy := H6.cell (k + j) y hy
              have hys := hmem2 y (List.mem_of_getElem? hy)
              have HY := Lib.hid hy; clear hy
              cases hby : allBk (toL y) with
              | true =>
                have HB := Lib.hid hby; clear hby
                go_wp2_with (go_at_call 15; refine (isBlank_any y _ (by unfold maxLen; omega)).mono ?_; rintro e w7 ⟨rfl, hb7⟩; rw [show allBk y.data.toList = true from HB.out])
                go_roundw
                case rel => exact ⟨u + 1, j - 1, by have := HJ.out; omega, by go_num, by go_num, by rw [HD.out, back_blank (cur.drop k) j hj0 y (by rw [List.getElem?_drop]; exact HY.out) HB.out], H6.after hb7 hB6⟩
                case measure => simp [intOf]; omega
              | false =>
                have HB := Lib.hid hby; clear hby
                go_wp2_with (go_at_call 15; refine (isBlank_any y _ (by unfold maxLen; omega)).mono ?_; rintro e w7 ⟨rfl, hb7⟩; rw [show allBk y.data.toList = false from HB.out])
                have H7 := H6.after hb7 hB6
                refine (join_lines H7 (m := n - k - u) (by have := HLEN.out; omega) (by have := HLEN.out; omega) (by omega) hmem2).mono ?_
                rintro e w8 ⟨⟨r, rfl, hr⟩, hb8⟩
                go_wp2
                go_ret
                refine ⟨r, rfl, ?_, H7.below.trans (hb8.mono H7.below.size)⟩
                rw [HS.out, rest_of_front cur k HALL.out (fun z hz => by rw [HX.out] at hz; cases hz; exact HA.out), HD.out, hr,
                  back_stop (cur.drop k) j y (by rw [List.getElem?_drop]; exact HY.out) HB.out, show n - k - u = j + 1 from by have := HJ.out; omega]
            · go_wp2_with fail
              refine (join_lines H6 (m := n - k - u) (by have := HLEN.out; omega) (by have := HLEN.out; omega) (by omega) hmem2).mono ?_
              rintro e w8 ⟨⟨r, rfl, hr⟩, hb8⟩
              go_wp2
              go_ret
              refine ⟨r, rfl, ?_, H6.below.trans (hb8.mono H6.below.size)⟩
              have hj00 : j = 0 := by omega
              rw [HS.out, rest_of_front cur k HALL.out (fun z hz => by rw [HX.out] at hz; cases hz; exact HA.out), HD.out, hr,
                back_stop (cur.drop k) j x (by rw [List.getElem?_drop, hj00]; exact HX.out) HA.out, show n - k - u = j + 1 from by have := HJ.out; omega]
      · obtain rfl : k = n := by omega
        have HF : Hid (dropFront (cur.map toL) = []) := by
          show _ = _
          rw [rest_of_front cur k HALL.out (fun z hz => by rw [List.getElem?_eq_none (by rw [HLEN.out]; omega)] at hz; cases hz), List.drop_eq_nil_of_le (by rw [HLEN.out]; omega)]; rfl
        go_wp2_with fail
        all_goals
          refine wp_loop_once ?_
          go_wp2_with fail
          refine (Try.strings_Join_none _ _ _ _).mono ?_
          rintro e w8 ⟨rfl, hw8⟩
          obtain rfl := hw8
          go_wp2
          go_ret
          exact ⟨⟨#[]⟩, rfl, by rw [HS.out, HF.out]; rfl, H4.below⟩

end Go.Proofs.Ytbcfalhdjmidjaa
