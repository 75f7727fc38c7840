/-
  PROVED: the tied card of 'FnQueryDeep'. No conditions of ours.
-/
import Derived.Test.YtobiaaabikfglaaGreatDoorR42
import Derived.Test.YtobiaaabikfglaaGreatDoorCards
import Derived.Test.YtobiaaabikfglaaGreatDoorTie
import Derived.SevenTiedAt
namespace Go.Proofs.YtobiaaabikfglaaGreatDoor
open Go

set_option maxRecDepth 100000 in
theorem fnQueryDeep_card : Rows.FnQueryDeepCardSaid :=
  Claim7.holds_tied_plain_at .later [] [.data, .sentinel, .sentinel, .data, .sentinel, .pinned, .pinned, .pinned, .pinned, .pinned, .pinned, .pinned, .pinned] true (true, "bb5b394b2f1c5cc8541954e7a14d04ebb4967ce10b00197345985fccffb91d6a") true
    fnQueryDeep.over (fun _ h => by cases h) (by kernel_rfl) (fun _ h => by cases h) fnQueryDeep_row_tie rfl ⟨rfl, rfl⟩ (by kernel_rfl) rfl
    (fun f fn hf hfn => by
      obtain rfl : f = 3 := Option.some.inj ((show Tryz.prog.funcNamed "pub-questor/laws.FnQueryDeep" = some 3 by kernel_rfl).symm.trans hf) |>.symm
      obtain rfl : fn = Tryz.f3 := (Option.some.inj (Tryz.func3.symm.trans hfn)).symm
      exact ⟨by kernel_rfl, fun j t ht => by
        rw [Tryz.params3] at ht
        have hm : t ∈ [5, 22] := by simpa using Array.mem_of_getElem? ht
        have hall : ([5, 22].all fun u => !Tryz.prog.wantsStandIn u) = true := by kernel_rfl
        exact (show Tryz.prog.wantsStandIn t = false by simpa using List.all_eq_true.1 hall t hm)⟩)
    (by kernel_rfl)
#print axioms fnQueryDeep_card
end Go.Proofs.YtobiaaabikfglaaGreatDoor
