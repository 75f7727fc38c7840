/-
  PROVED: 'FnBlockTold' returns true for every string, and leaves it as it was. No conditions of ours.
-/
import Derived.Test.YtbcfalhdjmidjaaRows
import Derived.Test.YtbcfalhdjmidjaaBlkText
import Derived.ProofKit
import Derived.SizedLaws
import Derived.OpenShut
namespace Go.Proofs.Ytbcfalhdjmidjaa.fnBlockTold
open Go.ChangeShapes Go.WideShapes Go.ChangeAt Go.RowKit Go.Proofs.Ytbcfalhdjmidjaa.Blk
open Go.ChangeMaps (open_string shut_string)

set_option maxHeartbeats 800000 in
theorem told_any (s : ByteArray) (w : World) (hs : s.size ≤ maxLen) : Calls Try.prog 4 #[.string s] w (Tells w) := by
  unfold maxLen at hs
  go_enter Try.func4, Try.ntmps4
  by_cases h1000 : 1000 < s.size
  · by_cases hbig : 2147483647 < s.size
    · go_wp2
      go_ret
      exact ⟨rfl, Below.refl _ _⟩
    · go_wp2
      go_ret
      exact ⟨rfl, Below.refl _ _⟩
  · go_wp2_with fail
    go_loop [3] (fun i => ∃ k : Nat, k ≤ s.size ∧ i = .int .i64 k ∧ (((toL s).take k).all fun c => c != 13) = true) (fun i => s.size - (intOf i).toNat)
    case atStart => exact ⟨0, Nat.zero_le _, rfl, rfl⟩
    case round =>
      obtain ⟨k, hk, rfl, hall⟩ := hrel
      have HA := Lib.hid hall; clear hall
      by_cases hkl : k < s.size
      · by_cases hc13 : s[k].toNat = 13
        · have h13 : ((s[k].toNat : Int) == 13) = true := beq_iff_eq.2 (by omega)
          clear hc13
          go_wp2
          go_ret
          exact ⟨rfl, Below.refl _ _⟩
        · have h13 : ((s[k].toNat : Int) == 13) = false := beq_eq_false_iff_ne.2 (by omega)
          have HN : Hid ((((toL s).take (k + 1)).all fun c => c != 13) = true) := by
            show _ = _
            rw [all_succ s _ k hkl, HA.out, Bool.true_and, bne_iff_ne, ne_eq, ← UInt8.toNat_inj]; exact hc13
          clear hc13
          go_wp2
          go_round
          case rel => exact ⟨k + 1, by omega, by go_num, HN.out⟩
          case measure => simp [intOf]; omega
      · have hcr : ∀ c ∈ toL s, c ≠ 13 := fun c hc => by
          have := HA.out
          rw [List.take_of_length_le (by rw [toL_length]; omega)] at this
          have := (List.all_eq_true.1 this) c hc
          simpa using this
        have HCR := Lib.hid hcr
        clear hcr
        go_wp2_with fail
        refine (impl_block s _ (by omega)).mono ?_
        rintro e w3 ⟨r1, rfl, hr1, hb1⟩
        go_wp2_with fail
        refine (text_any s _ (by omega) HCR.out).mono ?_
        rintro e w4 ⟨r2, rfl, hr2, hb2⟩
        have heq : (r1.toList == r2.toList) = true := by rw [toList_eq, toList_eq, hr1, hr2]; exact beq_self_eq_true _
        clear hr1 hr2
        go_wp2_with fail
        refine (impl_block ⟨#[97]⟩ _ (by decide)).mono ?_
        rintro e w5 ⟨r3, rfl, hr3, hb3⟩
        have h3 : (r3.toList == [97]) = true := by rw [toList_eq, hr3]; rfl
        clear hr3
        go_wp2
        go_ret
        exact ⟨rfl, chain3 (Below.refl _ _) hb1 hb2 hb3⟩

theorem own : ownKnob Try.prog.godebug = none := by kernel_rfl

set_option maxRecDepth 100000 in
theorem lifted (os : Os) (started : os.Started) (H : Type) (enc : TypeId × Value → H) :
    ReturnsInHanded {} Try.checked os 4 .any (Rows.fnBlockToldSpec.pre6 enc Try.prog Try.f4 Rows.fnBlockToldRow.domain false) (Rows.fnBlockToldSpec.post enc Try.prog Try.f4 false true false false) := by
  refine returnsInHanded_of_change (C := Try.checked) own started (by kernel_rfl) Try.func4
    (ChangeSpec.witness6 (enc := enc) (C := Try.checked) false ⟨#[], #[.string ByteArray.empty], []⟩ 8 (by kernel_rfl) (by kernel_rfl) (by kernel_rfl) (by kernel_rfl)) ?_
  intro W base args ds gs before hval0 hW _ _
  have hval : ∀ (j : Nat) t v, Try.f4.params[j]? = some t → args[j]? = some v → Value.okWide Try.prog W .any base t v := hval0
  have hW' := hW
  obtain ⟨p, q, hA0, hV, rfl, _, _⟩ := hW
  have hA : DataW.TrodAll enc Try.prog W 0 (fun _ => true) true Try.f4.params.toList args.toList ds p := hA0
  rw [Try.params4] at hA hval
  obtain ⟨v0, d0, rfl, rfl, h0⟩ := trodAll_one hA
  obtain ⟨rfl, rfl⟩ := trodVars_none hV
  obtain ⟨s, rfl, rfl, rfl, ws⟩ := open_string Try.underlying9 (hval 0 9 v0 rfl rfl) h0
  clear hA0 hval0
  simp only [List.append_nil] at hW'
  refine (told_any s W ws).mono fun e W' ⟨he, hnx⟩ => ?_
  subst he
  refine ⟨_, rfl, _, _, _, [] ++ [], [], [], hW', ?_, ?_, rfl, hnx.frame _, fun h => by cases h⟩
  · exact trodAll_mk1 (shut_bool Try.underlying4 true)
  · exact trodAll_mk1 (shut_string Try.underlying9 ws)

theorem over : Rows.fnBlockToldRow.holds Try.pinned (OpenSpec.ofChange Rows.fnBlockToldSpec) :=
  OpenClaim.holds_of_wide 4 Try.f4 rfl rfl rfl rfl rfl rfl rfl ⟨rfl, rfl, rfl, rfl, rfl⟩ rfl rfl rfl rfl rfl (by kernel_rfl) Try.func4 (by kernel_rfl)
    (of_decide_eq_true (by kernel_rfl)) (by unfold Func.isWrapper; first | (rw [if_pos (by decide +kernel)]; kernel_rfl) | (rw [if_neg (by decide +kernel)]; exact ⟨rfl, rfl⟩))
    (fun os started H enc _ => lifted os started H enc)

theorem proved : Rows.FnBlockToldSaid :=
  over
#print axioms proved
end Go.Proofs.Ytbcfalhdjmidjaa.fnBlockTold
