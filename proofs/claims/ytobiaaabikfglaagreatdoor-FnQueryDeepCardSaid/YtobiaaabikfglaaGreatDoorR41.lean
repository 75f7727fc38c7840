/-
  What the row lists of the library's variables, as the walks take it. No conditions.
-/
import Derived.Test.YtobiaaabikfglaaGreatDoorR40
import Derived.Lib.LaidRTabT
import Derived.Lib.LaidU8T
import Derived.PinnedBridge
import Derived.Stop.LaidErr
import Derived.Test.YtobiaaabikfglaaGreatDoorRows
namespace Go.Proofs.YtobiaaabikfglaaGreatDoor
open Go Go.RowKit Go.Proofs.YtobiaaabikfglaaGreatDoor.Pq Go.Lib Go.Proofs

def ren : Go.Shelf.Ren := ⟨fun n => n, fun | 3 => 3 | 49 => 22 | 51 => 247 | 141 => 264 | 193 => 270 | 194 => 271 | 196 => 273 | 198 => 275 | 201 => 278 | 5 => 5 | 119 => 257 | 138 => 259 | 139 => 260 | n => n, fun | 3 => 2 | 4 => 3 | n => n⟩

set_option maxRecDepth 100000
theorem rtypes : RTypes Tryz.prog ren := ⟨by kernel_rfl, by kernel_rfl, by kernel_rfl, by kernel_rfl, by kernel_rfl, by kernel_rfl, by kernel_rfl, by kernel_rfl, by kernel_rfl⟩
theorem rextra : RExtra Tryz.prog ren := ⟨by kernel_rfl, by kernel_rfl, by kernel_rfl, by kernel_rfl, by kernel_rfl, by kernel_rfl, by kernel_rfl, by kernel_rfl⟩
theorem utypes : U8Types Tryz.prog ren := ⟨by kernel_rfl, by kernel_rfl, by kernel_rfl, by kernel_rfl⟩
theorem uextra : U8Extra Tryz.prog ren := ⟨by kernel_rfl, by kernel_rfl, by kernel_rfl, by kernel_rfl, by kernel_rfl, by kernel_rfl, by kernel_rfl⟩

theorem tabIs_reads {P : Program} {W : World} {name : String} {k : IntKind} {zs : List Int} {g : Nat} {t e : TypeId} {n : Nat}
    (hg : P.globalNamed name = some g) (hty : (P.globals[g]?).map (·.type) = some t) (ht : P.underlying t = some (.array n e)) (he : P.underlying e = some (.int k)) (hce : P.cellsOf e = 1) (hct : P.cellsOf t = n)
    (h : VarReads P W name (tabData k zs)) : TabIs P W name k zs := by
  obtain ⟨g', t', cs, fuel, p, hg', ht', hvar, hd⟩ := h
  obtain rfl := Option.some.inj (hg.symm.trans hg')
  obtain rfl := Option.some.inj (hty.symm.trans ht')
  unfold TabIs
  rw [hvar, ← cells_of_tab ht he hce hct hd]

theorem accept_eq : (Rows.laid_unicode_utf8_acceptRanges : DataW Unit) = acceptData := by kernel_rfl
theorem prop_eq : (Rows.laid_unicode_properties : DataW Unit) = tabData .u8 propertiesTab := by kernel_rfl

theorem rowErr : ∀ u, Tryz.prog.typeName? 3 u = some "*errors.errorString" → u = 299 := fun u h => by
  have star : "*errors.errorString" = "*" ++ "errors.errorString" := by decide
  exact typeName_ptr_named (nm := "errors.errorString") (by rw [← star]; kernel_rfl) (by kernel_rfl) (by decide) u (by rw [← star]; exact h)

/-- ████ the listed variables, as the walks take them -/
theorem gl_of_laid {W : World} (hL : laidMet Tryz.prog Rows.fnQueryDeepRow.laid W) : ∃ ad, Gl ad W := by
  have hE := hL.tail.tail
  obtain ⟨ad, s, hv, _, _, _⟩ := laid_sentinel (g := 1) (ti := 89) (tp := 299) (te := 337) (ts := 9) hE (by kernel_rfl) (by kernel_rfl) Tryz.underlying89 rowErr Tryz.underlying299 Tryz.underlying337 rfl rfl Tryz.underlying9 (by kernel_rfl) (by kernel_rfl)
  refine ⟨ad, ?_, ?_, ?_, ?_, ?_⟩
  · exact World.var?_cell (by kernel_rfl) hv 0
  · exact utf8Tabs_of_readsT utypes uextra (Pinned.utf8First_eq ▸ laidMet.reads hL (by simp [Rows.fnQueryDeepRow, Rows.laid_unicode_utf8_first])) (accept_eq ▸ laidMet.reads hL (by simp [Rows.fnQueryDeepRow]))
  · exact tabIs_reads (g := 4) (t := 257) (e := 5) (n := 256) (by kernel_rfl) (by kernel_rfl) (by kernel_rfl) (by kernel_rfl) (by kernel_rfl) (by kernel_rfl) (prop_eq ▸ laidMet.reads hL (by simp [Rows.fnQueryDeepRow]))
  · have h : VarReads Tryz.prog W "unicode.Letter" Pinned.letter := laidMet.reads hL (by simp [Rows.fnQueryDeepRow, Rows.laid_unicode_Letter])
    rw [Pinned.letter_eq] at h
    exact rvar_of_readsT rtypes rextra (by kernel_rfl) (by kernel_rfl) h
  · have h : VarReads Tryz.prog W "unicode.Digit" Pinned.digit := laidMet.reads hL (by simp [Rows.fnQueryDeepRow, Rows.laid_unicode_Digit])
    rw [Pinned.digit_eq] at h
    exact rvar_of_readsT rtypes rextra (by kernel_rfl) (by kernel_rfl) h

end Go.Proofs.YtobiaaabikfglaaGreatDoor
