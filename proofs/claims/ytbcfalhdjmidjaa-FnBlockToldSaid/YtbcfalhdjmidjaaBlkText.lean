/-
  The contract of the reference's 'BlockText' at a text without carriage returns: what a block string says. No other conditions but the length.
-/
import Derived.Test.YtbcfalhdjmidjaaBlkLines
import Derived.Deep.CutBlock
namespace Go.Proofs.Ytbcfalhdjmidjaa
open Go.RowKit Go.Proofs.Ytbcfalhdjmidjaa.Blk

/-- 'common' -/
def com : Option Nat → Int | none => -1 | some m => m

/-- a slice that reads as a list of strings -/
def View (w : World) (v : Value) (F : List ByteArray) : Prop :=
  ∃ g o c : Nat, v = .slice (some ⟨g, o, none⟩) F.length c ∧ F.length ≤ c ∧ ∀ j x, F[j]? = some x → w.cell? ⟨g, o + j, none⟩ = some (.string x)

theorem View.tail {w : World} {x : ByteArray} {r : List ByteArray} {g o c : Nat} (h : ∀ j y, (x :: r)[j]? = some y → w.cell? ⟨g, o + j, none⟩ = some (.string y)) (hc : r.length + 1 ≤ c) (n : Nat) :
    View (w.drewN n) (.slice (if c = 1 then some ⟨g, o, none⟩ else some ⟨g, o + 1, none⟩) r.length (c - 1)) r := by
  by_cases h1 : c = 1
  · rw [if_pos h1]
    have : r = [] := List.eq_nil_of_length_eq_zero (by omega)
    subst this
    exact ⟨g, o, c - 1, rfl, Nat.zero_le _, fun j y hy => by simp at hy⟩
  · rw [if_neg h1]
    exact ⟨g, o + 1, c - 1, rfl, by omega, fun j y hy => by rw [Nat.add_assoc, Nat.add_comm 1 j]; exact h (j + 1) y (by simpa using hy)⟩

theorem View.draws {w : World} {v : Value} {F : List ByteArray} (h : View w v F) (n : Nat) : View (w.drewN n) v F := h

theorem Cutting.drew {B g cap ind k : Nat} {w wr : World} {ls cur : List ByteArray} (h : Cutting B g cap ind k w wr ls cur) : Cutting B g cap ind k w wr.drew ls cur :=
  ⟨h.len, h.cut, h.small, h.lines.own, h.lines.below.drew⟩

theorem drop_min (x : ByteArray) (n : Nat) : toL (x.extract (min (n : Int) (x.size : Int)).toNat x.size) = (toL x).drop n := by
  rw [toL_from]
  by_cases h : n ≤ x.size
  · rw [show (min (n : Int) (x.size : Int)).toNat = n from by omega]
  · rw [show (min (n : Int) (x.size : Int)).toNat = x.size from by omega, List.drop_eq_nil_of_le (by rw [toL_length]; omega), List.drop_eq_nil_of_le (by rw [toL_length]; omega)]

theorem View.of_lines {B g cap : Nat} {w wr : World} {cur : List ByteArray} (h : Lines B g cap w wr cur) (hc : cur.length ≤ cap) : View wr (.slice (some ⟨g, 0, none⟩) cur.length cap) cur :=
  ⟨g, 0, cap, rfl, hc, fun j x hx => by rw [Nat.zero_add]; exact h.cell j x hx⟩

theorem margin_same (s : ByteArray) (w : World) (hs : s.size ≤ maxLen) :
    Calls Try.prog 11 #[.string s] w fun e w' => e = .returned (.int .i64 (mgn s.data.toList)) ∧ w' = w :=
  (margin_any s w hs).mono fun _ _ h => ⟨h.1, h.2.symm⟩

/-- the world has drawn and has done nothing else -/
structure Draws (w w' : World) : Prop where
  ex : ∃ q, w' = w.drewN q
theorem Draws.refl (w : World) : Draws w w := ⟨0, rfl⟩
theorem Draws.more {w w' : World} (h : Draws w w') (n : Nat) : Draws w (w'.drewN n) := by
  obtain ⟨q, rfl⟩ := h.ex
  exact ⟨_, World.drewN_drewN _ _ _⟩
theorem Draws.below {w w' : World} (h : Draws w w') {B : Nat} {a : World} (hb : Below B a w) : Below B a w' := by
  obtain ⟨q, rfl⟩ := h.ex
  exact below_draws hb q

def sliceLen : Value → Nat | .slice _ n _ => n | _ => 0

theorem join_next {F : List ByteArray} {k : Nat} {x out : ByteArray} (hx : F[k]? = some x) (ho : toL out = joinNL ((F.take k).map toL)) (hk : 0 < k) : toL (out ++ ⟨#[10]⟩ ++ x) = joinNL ((F.take (k + 1)).map toL) := by
  have hl : k < F.length := (List.getElem?_eq_some_iff.1 hx).1
  have he : F[k] = x := (List.getElem?_eq_some_iff.1 hx).2
  rw [List.take_succ_eq_append_getElem hl, he, List.map_append, List.map_singleton, joinNL_snoc, toL_append, toL_append, ho]
  have hne : (F.take k).map toL ≠ [] := fun h => by
    have := congrArg List.length h
    rw [List.length_map, List.length_take] at this
    have e : ([] : List Bs).length = 0 := rfl
    omega
  revert hne
  cases (F.take k).map toL with
  | nil => intro h; exact absurd rfl h
  | cons a r => intro _; simp [toL]

theorem join_first {F : List ByteArray} {k : Nat} {x out : ByteArray} (hx : F[k]? = some x) (ho : toL out = joinNL ((F.take k).map toL)) (hk : k = 0) : toL (out ++ x) = joinNL ((F.take (k + 1)).map toL) := by
  subst hk
  have hl : 0 < F.length := (List.getElem?_eq_some_iff.1 hx).1
  have he : F[0] = x := (List.getElem?_eq_some_iff.1 hx).2
  rw [List.take_succ_eq_append_getElem hl, he, toL_append, ho]
  simp [joinNL]

set_option maxHeartbeats 1600000 in
theorem text_any (s : ByteArray) (w : World) (hs : s.size ≤ 1048576) (hcr : ∀ c ∈ toL s, c ≠ 13) :
    Calls Try.prog 8 #[.string s] w (Answers s w) := by
  go_enter Try.func8, Try.ntmps8
  go_wp2_with fail
  refine (lines_any s _ hs hcr).mono ?_
  rintro e w1 hsp
  obtain ⟨g, cap, ls, rfl, hl, H, hne, hcap⟩ := lines_of hsp
  clear hsp hcr
  have hnum : ls.length ≤ s.size + 1 := by have := congrArg List.length hl; rw [List.length_map] at this; rw [this]; have := splitNL_length_le (toL s); rw [toL_length] at this; exact this
  have hmem : ∀ x ∈ ls, x.size ≤ 1048576 := fun x hx => by
    have : toL x ∈ splitNL (toL s) := by rw [← hl]; exact List.mem_map_of_mem hx
    have := splitNL_mem_le _ _ this; rw [toL_length, toL_length] at this; omega
  have HL := Lib.hid hl
  have HM := Lib.hid hmem
  clear hl hmem
  have hlt := H.lt
  go_wp2_with fail
  go_loop [4, 5] (fun c i => ∃ k : Nat, 1 ≤ k ∧ k ≤ ls.length ∧ i = .int .i64 k ∧ c = .int .i64 (com (lst ls k))) (fun _ i => ls.length - (intOf i).toNat)
  case atStart => exact ⟨1, Nat.le_refl _, by omega, rfl, by rw [lst_one]; rfl⟩
  case round =>
    obtain ⟨k, hk1, hk, rfl, rfl⟩ := hrel
    by_cases hkl : k < ls.length
    · obtain ⟨x, hx⟩ : ∃ x, ls[k]? = some x := ⟨ls[k], List.getElem?_eq_getElem hkl⟩
      have hc := H.cell k x hx
      have hxs := HM.out x (List.mem_of_getElem? hx)
      have HS := Lib.hid (lst_succ ls k hk1 x hx)
      have hml := margin_le (toL x)
      rw [toL_length] at hml
      clear hx
      cases hab : allBk (toL x) with
      | true =>
        have h1 : (mgn (toL x) : Int) = x.size := (allBk_iff x).2 hab
        have hd : x.size ≤ mgn x.data.toList := by have : (mgn x.data.toList : Int) = x.size := h1; omega
        have HE := Lib.hid hab; clear hab h1
        generalize ho : com (lst ls k) = cc
        have HO := Lib.hid ho; clear ho
        go_wp2_with (go_at_call 11; refine (margin_any x _ (by unfold maxLen; omega)).mono ?_; rintro e w2 ⟨rfl, rfl⟩)
        go_round
        case rel => exact ⟨k + 1, by omega, by omega, by go_num, by rw [HS.out, if_pos HE.out, HO.out]⟩
        case measure => simp [intOf]; omega
      | false =>
        have h1 : ¬ (mgn x.data.toList : Int) = x.size := fun h => by have := (allBk_iff x).1 h; rw [show allBk x.data.toList = false from hab] at this; cases this
        have hml' : mgn x.data.toList < x.size := by have : mgn x.data.toList ≤ x.size := hml; omega
        have HE := Lib.hid hab; clear hab h1
        cases ho : lst ls k with
        | none =>
          have HO := Lib.hid ho; clear ho
          have hcn : com none = -1 := rfl
          go_wp2_with (go_at_call 11; refine (margin_any x _ (by unfold maxLen; omega)).mono ?_; rintro e w2 ⟨rfl, rfl⟩)
          go_round
          case rel => exact ⟨k + 1, by omega, by omega, by go_num, by rw [HS.out, HE.out, HO.out]; rfl⟩
          case measure => simp [intOf]; omega
        | some m =>
          have HO := Lib.hid ho; clear ho
          have hcn : com (some m) = (m : Int) := rfl
          by_cases hless : mgn x.data.toList < m
          · go_wp2_with (go_at_call 11; refine (margin_any x _ (by unfold maxLen; omega)).mono ?_; rintro e w2 ⟨rfl, rfl⟩)
            go_round
            case rel => exact ⟨k + 1, by omega, by omega, by go_num, by rw [HS.out, HE.out, HO.out]; show _ = Value.int .i64 ((min m (mgn x.data.toList) : Nat) : Int); rw [Nat.min_eq_right (by omega)]⟩
            case measure => simp [intOf]; omega
          · go_wp2_with (go_at_call 11; refine (margin_any x _ (by unfold maxLen; omega)).mono ?_; rintro e w2 ⟨rfl, rfl⟩)
            go_round
            case rel => exact ⟨k + 1, by omega, by omega, by go_num, by rw [HS.out, HE.out, HO.out]; show _ = Value.int .i64 ((min m (mgn x.data.toList) : Nat) : Int); rw [Nat.min_eq_left (by omega)]⟩
            case measure => simp [intOf]; omega
    · obtain rfl : k = ls.length := by omega
      have HC := Lib.hid (lst_all ls ls.length (Nat.le_refl _))
      generalize ho : lst ls ls.length = o
      rw [ho] at HC
      obtain ⟨ind, hind⟩ : ∃ ind : Nat, indent (ls.map toL).tail = ind := ⟨_, rfl⟩
      have hi1 : com o ≤ 0 → ind = 0 := fun h => by rw [← hind]; unfold indent; rw [← HC.out]; cases o with
        | none => rfl
        | some m => have : ((m : Int)) ≤ 0 := h; show m = 0; omega
      have hi2 : 0 < com o → com o = ind := fun h => by rw [← hind]; unfold indent; rw [← HC.out]; cases o with
        | none => exact absurd h (by decide)
        | some m => rfl
      generalize com o = c at hi1 hi2 ⊢
      have HI := Lib.hid hind
      have H1 := Lib.hid hi1
      have H2 := Lib.hid hi2
      clear hind hi1 hi2 ho
      go_upto_block 2 with fail
      go_cut [] (fun wx => ∃ cur : List ByteArray, cur.length = ls.length ∧ cur.map toL = cutAll ind (ls.map toL) ∧ (∀ x ∈ cur, x.size ≤ 1048576) ∧ Lines w.heap.size g cap w wx cur)
      case first =>
        by_cases hc0 : 0 < c
        · obtain rfl : c = (ind : Int) := H2.out hc0
          clear H1 H2
          go_wp2_with fail
          go_loopw [7] (fun i wr => ∃ (k : Nat) (cur : List ByteArray), 1 ≤ k ∧ k ≤ ls.length ∧ i = .int .i64 k ∧ Cutting w.heap.size g cap ind k w wr ls cur) (fun i _ => ls.length - (intOf i).toNat)
          case atStart => exact ⟨1, ls, Nat.le_refl _, by omega, rfl, rfl, (cutK_one _ _).symm, HM.out, H⟩
          case round =>
            obtain ⟨k, cur, hk1', hk', rfl, HK⟩ := hrel
            by_cases hkl' : k < ls.length
            · have hkc : k < cur.length := by have := HK.len; omega
              obtain ⟨x, hx⟩ : ∃ x, cur[k]? = some x := ⟨cur[k], List.getElem?_eq_getElem hkc⟩
              have hc := HK.lines.cell k x hx
              have hf := HK.lines.own.frozenAt k
              have hxs := HK.small x (List.mem_of_getElem? hx)
              have HX := Lib.hid hx
              clear hx
              go_wp2_with fail
              go_region
              go_wp2
              go_roundw
              case rel => exact ⟨k + 1, _, by omega, by omega, by go_num, (HK.next hk1' hkl' HX.out (x.extract (min (ind : Int) (x.size : Int)).toNat x.size) (drop_min x ind) (by rw [ByteArray.size_extract]; omega)).drew⟩
              case measure => simp [intOf]; omega
            · go_wp2_with fail
              go_meet
              exact ⟨cur, HK.len, by rw [HK.cut, cutK_all _ _ _ (by simp; omega)], HK.small, HK.lines⟩
        · have hi0 := H1.out (by omega)
          go_wp2_with fail
          refine wp_loop_once ?_
          go_wp2
          all_goals
            go_meet
            exact ⟨ls, rfl, by rw [hi0, cutAll_zero], HM.out, H⟩
      case rest =>
        obtain ⟨cur, hlen, hcut, hmem2, H3⟩ := hcut
        have HS : Hid (says (toL s) = joinNL (dropBack (dropFront (cur.map toL)))) := by
          show _ = _
          unfold says; rw [← HL.out, HI.out, hcut]
        have HV := View.of_lines H3 (by omega)
        rw [hlen] at HV
        have hb3 := H3.below
        have hcl : cur.length ≤ 1048577 := by omega
        clear hcut HL HI H1 H2 HM HC H H3 hlt hk1 hk hkl
        generalize hvv : Value.slice (some ⟨g, 0, none⟩) ls.length cap = vv at HV ⊢
        clear hvv hnum hcap hne hlen
        go_upto_block 4 with fail
        go_cut [3] (fun v wx => ∃ F : List ByteArray, View wx v F ∧ F.map toL = dropFront (cur.map toL) ∧ (∀ x ∈ F, x.size ≤ 1048576) ∧ F.length ≤ 1048577 ∧ Draws wc wx)
        case first =>
          go_wp2_with fail
          go_loopw [3] (fun v wx => ∃ F : List ByteArray, View wx v F ∧ dropFront (F.map toL) = dropFront (cur.map toL) ∧ (∀ x ∈ F, x.size ≤ 1048576) ∧ F.length ≤ 1048577 ∧ Draws wc wx) (fun v _ => sliceLen v)
          case atStart => exact ⟨cur, HV, rfl, hmem2, hcl, .refl _⟩
          case round =>
            obtain ⟨F, ⟨gg, oo, cc, rfl, hFc, hF⟩, hd, hm, hFl, hq⟩ := hrel
            have HF := Lib.hid hF
            have HD := Lib.hid hd
            have HMM := Lib.hid hm
            clear hF hd hm
            cases F with
            | nil =>
              go_wp2_with fail
              go_quiet (fail)
              go_wp2
              go_meet
              exact ⟨[], ⟨gg, oo, cc, rfl, hFc, fun j x hx => by simp at hx⟩, by rw [← HD.out]; rfl, fun x hx => by simp at hx, by simp, hq.more _⟩
            | cons x r =>
              have hx0 : wr.cell? ⟨gg, oo, none⟩ = some (.string x) := HF.out 0 x rfl
              have hxs := HMM.out x (by simp)
              have hlr : r.length + 1 ≤ cc := by simpa using hFc
              have hlr2 : r.length ≤ 1048577 := by simp at hFl; omega
              cases hab : allBk (toL x) with
              | true =>
                have HE := Lib.hid hab
                have HB : ((mgn x.data.toList : Int) == x.size) = true := beq_iff_eq.2 ((allBk_iff x).2 hab)
                clear hab
                go_wp2_with fail
                go_quiet ((go_at_call 11; exact Calls.quiet_of_same (margin_same x _ (by unfold maxLen; omega))))
                go_wp2
                go_roundw
                case rel => exact ⟨r, View.tail HF.out hlr _, by rw [← HD.out]; simp [dropFront, HE.out], fun y hy => HMM.out y (by simp [hy]), hlr2, hq.more _⟩
                case measure => simp [sliceLen]
              | false =>
                have HE := Lib.hid hab
                have HB : ((mgn x.data.toList : Int) == x.size) = false := beq_eq_false_iff_ne.2 (fun h => by have := (allBk_iff x).1 h; rw [show allBk x.data.toList = false from hab] at this; cases this)
                clear hab
                go_wp2_with fail
                go_quiet ((go_at_call 11; exact Calls.quiet_of_same (margin_same x _ (by unfold maxLen; omega))))
                go_wp2
                go_meet
                refine ⟨x :: r, ⟨gg, oo, cc, rfl, hFc, HF.out⟩, ?_, HMM.out, hFl, hq.more _⟩
                rw [← HD.out]; simp [dropFront, HE.out]
        case rest =>
          rename_i wc1
          obtain ⟨F0, HV0, hF0, hmF, hFl0, hq0⟩ := hcut
          have HF0 := Lib.hid hF0
          clear hF0 HV
          go_upto_block 6 with fail
          go_cut [3] (fun v wx => ∃ F : List ByteArray, View wx v F ∧ F.map toL = dropBack (F0.map toL) ∧ (∀ x ∈ F, x.size ≤ 1048576) ∧ F.length ≤ 1048577 ∧ Draws wc wx)
          case first =>
            go_wp2_with fail
            go_loopw [3] (fun v wx => ∃ F : List ByteArray, View wx v F ∧ dropBack (F.map toL) = dropBack (F0.map toL) ∧ (∀ x ∈ F, x.size ≤ 1048576) ∧ F.length ≤ 1048577 ∧ Draws wc wx) (fun v _ => sliceLen v)
            case atStart => exact ⟨F0, HV0, rfl, hmF, hFl0, .refl _⟩
            case round =>
              obtain ⟨F, ⟨gg, oo, cc, rfl, hFc, hF⟩, hd, hm, hFl, hq⟩ := hrel
              have HF := Lib.hid hF
              have HD := Lib.hid hd
              have HMM := Lib.hid hm
              clear hF hd hm
              rcases List.eq_nil_or_concat F with rfl | ⟨r, x, rfl⟩
              · go_wp2_with fail
                go_quiet (fail)
                go_wp2
                go_meet
                exact ⟨[], ⟨gg, oo, cc, rfl, hFc, fun j x hx => by simp at hx⟩, by rw [← HD.out]; rfl, fun x hx => by simp at hx, by simp, hq.more _⟩
              · have hx0 : wr.cell? ⟨gg, oo + r.length, none⟩ = some (.string x) := HF.out r.length x (by simp)
                have hxs := HMM.out x (by simp)
                have hlr : r.length + 1 ≤ cc := by simpa using hFc
                have hlr2 : r.length ≤ 1048577 := by simp at hFl; omega
                cases hab : allBk (toL x) with
                | true =>
                  have HE := Lib.hid hab
                  have HB : ((mgn x.data.toList : Int) == x.size) = true := beq_iff_eq.2 ((allBk_iff x).2 hab)
                  clear hab
                  go_wp2_with fail
                  go_quiet ((go_at_call 11; exact Calls.quiet_of_same (margin_same x _ (by unfold maxLen; omega))))
                  go_wp2
                  go_roundw
                  case rel => exact ⟨r, ⟨gg, oo, cc, rfl, by omega, fun j y hy => HF.out j y (by rw [List.concat_eq_append, List.getElem?_append_left (List.getElem?_eq_some_iff.1 hy).1]; exact hy)⟩, by rw [← HD.out]; simp [dropBack_snoc, HE.out], fun y hy => HMM.out y (by simp [hy]), hlr2, hq.more _⟩
                  case measure => simp [sliceLen]
                | false =>
                  have HE := Lib.hid hab
                  have HB : ((mgn x.data.toList : Int) == x.size) = false := beq_eq_false_iff_ne.2 (fun h => by have := (allBk_iff x).1 h; rw [show allBk x.data.toList = false from hab] at this; cases this)
                  clear hab
                  go_wp2_with fail
                  go_quiet ((go_at_call 11; exact Calls.quiet_of_same (margin_same x _ (by unfold maxLen; omega))))
                  go_wp2
                  go_meet
                  refine ⟨r.concat x, ⟨gg, oo, cc, by simp, hFc, HF.out⟩, ?_, HMM.out, hFl, hq.more _⟩
                  rw [← HD.out]; simp [dropBack_snoc, HE.out]
          case rest =>
            rename_i wc2
            obtain ⟨F, ⟨gg, oo, cc, rfl, hFc, hF⟩, hd, hm, hFl, hq⟩ := hcut
            have HF := Lib.hid hF
            have HD := Lib.hid hd
            have HMM := Lib.hid hm
            have hbel := hq.below (hq0.below hb3)
            clear hF hd hm hmF hmem2 HV0 hFl0 hcl
            go_wp2_with fail
            go_loop [8, 109] (fun o i => ∃ (k : Nat) (out : ByteArray), k ≤ F.length ∧ o = .string out ∧ i = .int .i64 k ∧ toL out = joinNL ((F.take k).map toL) ∧ out.size ≤ k * 1048577) (fun _ i => F.length - (intOf i).toNat)
            case atStart => exact ⟨0, ⟨#[]⟩, Nat.zero_le _, rfl, rfl, rfl, Nat.zero_le _⟩
            case round =>
              obtain ⟨k, out, hk, rfl, rfl, ho, hos⟩ := hrel
              have HO := Lib.hid ho
              clear ho
              by_cases hkl : k < F.length
              · obtain ⟨x, hx⟩ : ∃ x, F[k]? = some x := ⟨F[k], List.getElem?_eq_getElem hkl⟩
                have hc := HF.out k x hx
                have hxs := HMM.out x (List.mem_of_getElem? hx)
                have HX := Lib.hid hx
                clear hx
                by_cases hk0 : 0 < k
                · go_wp2_with fail
                  go_round
                  case rel => exact ⟨k + 1, _, by omega, rfl, by go_num, join_next HX.out HO.out hk0, by rw [ByteArray.size_append, ByteArray.size_append]; have : (⟨#[10]⟩ : ByteArray).size = 1 := rfl; omega⟩
                  case measure => simp [intOf]; omega
                · go_wp2_with fail
                  go_round
                  case rel => exact ⟨k + 1, _, by omega, rfl, by go_num, join_first HX.out HO.out (by omega), by rw [ByteArray.size_append]; omega⟩
                  case measure => simp [intOf]; omega
              · go_wp2_with fail
                go_ret
                refine ⟨out, rfl, ?_, hbel⟩
                rw [HO.out, List.take_of_length_le (by omega), HD.out, HF0.out, HS.out]

end Go.Proofs.Ytbcfalhdjmidjaa
