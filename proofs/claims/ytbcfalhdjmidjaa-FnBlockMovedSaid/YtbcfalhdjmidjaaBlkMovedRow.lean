/-
  PROVED: 'FnBlockMoved' returns true for every slice of strings and every string, and leaves both as they were. No conditions of ours.
-/
import Derived.Test.YtbcfalhdjmidjaaRows
import Derived.Test.YtbcfalhdjmidjaaBlkMoved
import Derived.ProofKit
import Derived.SizedLaws
import Derived.OpenShut
namespace Go.Proofs.Ytbcfalhdjmidjaa.fnBlockMoved
open Go.ChangeShapes Go.WideShapes Go.ChangeAt Go.RowKit
open Go.ChangeMaps (open_string shut_string)

theorem own : ownKnob Try.prog.godebug = none := by kernel_rfl
theorem laidOut : laidOutB Try.prog = true := by kernel_rfl
theorem cells9 : Try.prog.cellsOf 9 = 1 := by kernel_rfl

set_option maxRecDepth 100000 in
theorem lifted (os : Os) (started : os.Started) (H : Type) (enc : TypeId × Value → H) :
    ReturnsInHanded {} Try.checked os 3 .any (Rows.fnBlockMovedSpec.pre6 enc Try.prog Try.f3 Rows.fnBlockMovedRow.domain false) (Rows.fnBlockMovedSpec.post enc Try.prog Try.f3 false true false false) := by
  refine returnsInHanded_of_change (C := Try.checked) own started (by kernel_rfl) Try.func3
    (ChangeSpec.witness6 (enc := enc) (C := Try.checked) false ⟨#[], #[.slice none 0 0, .string ByteArray.empty], []⟩ 8 (by kernel_rfl) (by kernel_rfl) (by kernel_rfl) (by kernel_rfl)) ?_
  intro W base args ds gs before hval0 hW _ _
  have hval : ∀ (j : Nat) t v, Try.f3.params[j]? = some t → args[j]? = some v → Value.okWide Try.prog W .any base t v := hval0
  have hW' := hW
  obtain ⟨p, q, hA0, hV, rfl, _, _⟩ := hW
  have hA : DataW.TrodAll enc Try.prog W 0 (fun _ => true) true Try.f3.params.toList args.toList ds p := hA0
  rw [Try.params3] at hA hval
  obtain ⟨v0, v1, d0, d1, p0, p1, rfl, rfl, rfl, h0, h1⟩ := trodAll_two hA
  obtain ⟨rfl, rfl⟩ := trodVars_none hV
  obtain ⟨a0, len, cap, rfl⟩ := okWide_slice Try.underlying22 (hval 0 22 v0 rfl rfl)
  obtain ⟨first, rfl, hd1, hp1, ws⟩ := open_string Try.underlying9 (hval 1 9 v1 rfl rfl) h1
  subst hd1 hp1
  have h0k := h0
  obtain ⟨fuel, hf⟩ := h0
  clear hA0 hval0
  simp only [List.append_nil] at hW'
  have hlt : ∀ x ∈ p0, x.block < W.heap.size := fun x hx => by simpa using hW'.lt x (by simpa using hx)
  have fin : ∀ (W' : World), Below W.heap.size W W' → Rows.fnBlockMovedSpec.post enc Try.checked.prog Try.f3 false true false false W #[.slice a0 len cap, .string first] (.bool true) W' := by
    intro W' hnx
    refine ⟨_, _, _, [] ++ [], p0 ++ [], [], hW', ?_, ?_, rfl, hnx.frame _, fun h => by cases h⟩
    · exact trodAll_mk1 (shut_bool Try.underlying4 true)
    · exact trodAll_mk2 (Below.trod laidOut (by kernel_rfl) (of_decide_eq_true (by kernel_rfl)) h0k hnx hlt) (shut_string Try.underlying9 ws)
  have run : Calls Try.checked.prog 3 #[.slice a0 len cap, .string first] W (Tells W) := by
    rcases open_strings Try.underlying22 Try.underlying9 cells9 hf with ⟨hcs, hx⟩ | ⟨a, len', cap', ss, hcs, _, hl, hm, hz, hx, hcell, hws⟩
    · simp [Value.cells] at hcs
      obtain ⟨rfl, rfl, rfl⟩ := hcs
      exact moved_none none 0 first W (fits_none none 0 W)
    · simp [Value.cells] at hcs
      obtain ⟨rfl, rfl, rfl⟩ := hcs
      simp only [if_true] at hz
      by_cases hl0 : len = 0
      · subst hl0
        exact moved_none _ _ first W (fits_none _ _ W)
      · obtain ⟨b, off, spot⟩ := a
        have hspot : spot = none := by simpa [Addr.add] using World.cell?_spot (hcell 0 (by omega))
        subst hspot
        have hcell' : ∀ j, j < len → W.cell? ⟨b, off + j, none⟩ = some (.string ((ss.take len).getD j ByteArray.empty)) := fun j hj => by
          have h := hcell j (by omega)
          rw [add_plain] at h
          rw [h]
          simp [List.getD, hj]
        have hlen' : len ≤ maxLen := Nat.le_trans hl hm
        exact moved_any b off len cap (ss.take len) first W (by omega) hlen' ws (by rw [List.length_take]; omega) (fun x hx => hws x (List.mem_of_mem_take hx)) hcell'
  refine run.mono fun e W' ⟨he, hnx⟩ => ?_
  subst he
  exact ⟨_, rfl, fin W' hnx⟩

theorem over : Rows.fnBlockMovedRow.holds Try.pinned (OpenSpec.ofChange Rows.fnBlockMovedSpec) :=
  OpenClaim.holds_of_wide 3 Try.f3 rfl rfl rfl rfl rfl rfl rfl ⟨rfl, rfl, rfl, rfl, rfl⟩ rfl rfl rfl rfl rfl (by kernel_rfl) Try.func3 (by kernel_rfl)
    (of_decide_eq_true (by kernel_rfl)) (by unfold Func.isWrapper; first | (rw [if_pos (by decide +kernel)]; kernel_rfl) | (rw [if_neg (by decide +kernel)]; exact ⟨rfl, rfl⟩))
    (fun os started H enc _ => lifted os started H enc)

theorem proved : Rows.FnBlockMovedSaid :=
  over
#print axioms proved
end Go.Proofs.Ytbcfalhdjmidjaa.fnBlockMoved
