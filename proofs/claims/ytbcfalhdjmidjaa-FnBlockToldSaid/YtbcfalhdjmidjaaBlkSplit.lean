/-
  The contract of zzSplit at a line feed: the lines of the text, in a slice of the call's own. No conditions but lengths.
-/
import Derived.Test.YtbcfalhdjmidjaaBlkWalkA
import Derived.Deep.DeepMust
import Derived.Lib.IndexBytes
namespace Go.Proofs.Ytbcfalhdjmidjaa
open Go.RowKit Go.Proofs.Ytbcfalhdjmidjaa.Blk

def toL (s : ByteArray) : Bs := s.data.toList
def NL : ByteArray := ⟨#[10]⟩
def strV (s : ByteArray) : Value := .string s

theorem toL_length (s : ByteArray) : (toL s).length = s.size := by simp [toL]
theorem toL_extract (s : ByteArray) (a b : Nat) : toL (s.extract a b) = ((toL s).drop a).take (b - a) := Lib.extract_data s a b
theorem toL_from (s : ByteArray) (a : Nat) : toL (s.extract a s.size) = (toL s).drop a := Lib.extract_to_end s a
theorem toL_upto (s : ByteArray) (a : Nat) : toL (s.extract 0 a) = (toL s).take a := by rw [toL_extract]; simp
theorem toList_eq (s : ByteArray) : s.toList = toL s := Lib.toList_data s

theorem At_NL (s : ByteArray) (i : Nat) (h : i < s.size) : At s NL i ↔ s[i] = 10 := by
  unfold At
  rw [toList_eq, toList_eq, toL_extract]
  have hl : i < (toL s).length := by rw [toL_length]; exact h
  rw [show i + NL.size - i = 1 from by have : NL.size = 1 := rfl; omega, List.drop_eq_getElem_cons hl]
  simp only [List.take_succ_cons, List.take_zero]
  have e : (toL s)[i] = s[i] := rfl
  rw [e, show toL NL = [10] from rfl]
  exact List.singleton_inj

theorem found_NL {s : ByteArray} {r : Int} (h : Found s NL r) :
    (r = -1 ∧ splitNL (toL s) = [toL s]) ∨ ∃ i : Nat, r = i ∧ i < s.size ∧ splitNL (toL s) = toL (s.extract 0 i) :: splitNL (toL (s.extract (i + 1) s.size)) := by
  have hs : NL.size = 1 := rfl
  rcases h with ⟨rfl, h⟩ | ⟨i, rfl, hi, ha, hno⟩
  · refine .inl ⟨rfl, splitNL_none _ fun c hc => ?_⟩
    obtain ⟨j, hj, rfl⟩ := List.getElem_of_mem hc
    have hj' : j < s.size := by simpa [toL] using hj
    have := h j (by omega)
    rw [At_NL s j hj'] at this
    exact this
  · have hi' : i < s.size := by omega
    refine .inr ⟨i, rfl, hi', ?_⟩
    rw [At_NL s i hi'] at ha
    rw [toL_upto, toL_from, ← splitNL_app ((toL s).take i) ((toL s).drop (i + 1))]
    · congr 1
      have hl : i < (toL s).length := by rw [toL_length]; exact hi'
      have e : (toL s)[i] = 10 := ha
      rw [← e, ← List.drop_eq_getElem_cons hl, List.take_append_drop]
    · intro c hc
      obtain ⟨j, hj, rfl⟩ := List.getElem_of_mem hc
      have hj' : j < i := by simp at hj; omega
      have := hno j hj'
      rw [At_NL s j (by omega)] at this
      rw [List.getElem_take]
      exact this

theorem Try.info9 : (Try.prog.info? 9).map (fun i => (i.zero, i.size, i.bytes)) = some (some (.string ⟨#[]⟩), 1, 16) := by kernel_rfl

/-- what the split has gathered -/
structure Split (B : Nat) (s : ByteArray) (w wr : World) (done : List ByteArray) (r : ByteArray) (v : Value) : Prop where
  lines : splitNL (toL s) = done.map toL ++ splitNL (toL r)
  own : wr.ownsRow B 9 1 v done.length (done.map strV)
  below : Below B w wr
  le : r.size ≤ s.size
  num : done.length + r.size ≤ s.size

def Splits (B : Nat) (s : ByteArray) (w : World) (e : Ending) (w' : World) : Prop :=
  ∃ (v : Value) (ls : List ByteArray), e = .returned v ∧ ls.map toL = splitNL (toL s) ∧ w'.ownsRow B 9 1 v ls.length (ls.map strV) ∧ Below B w w'

theorem one_new (w : World) (x : ByteArray) (o : Obj) (h : o = .cells #[.string x] 9) : ∀ j u, [strV x][j]? = some u → (w.alloc o).cell? ((⟨w.heap.size, 0, none⟩ : Addr).add j) = some u := by
  subst h
  intro j u hj
  match j, hj with
  | 0, hj => simp at hj; subst hj; simp [Addr.add, strV]

theorem one_cell (x : ByteArray) : ∀ u ∈ [strV x], u.oneCell' = true := by
  intro u hu; simp at hu; subst hu; rfl

def strSize : Value → Nat | .string r => r.size | _ => 0

theorem Split.last {s r : ByteArray} {w wr w1 : World} {done : List ByteArray} {v v' : Value} {o : Obj} (H : Split w.heap.size s w wr done r v) (h : splitNL (toL r) = [toL r])
    (hown : w1.ownsRow w.heap.size 9 1 v' (done.length + 1) (done.map strV ++ [strV r])) (hg : (wr.alloc o).grownBy w1 v.ownBlock) : Splits w.heap.size s w (.returned v') w1 := by
  refine ⟨v', done ++ [r], rfl, ?_, ?_, ?_⟩
  · rw [H.lines, h]; simp
  · simpa using hown
  · exact (H.below.alloc H.below.size o).grown hg (by have := H.below.size; simp; omega) fun k hk => (H.own.lt k hk).1

theorem Split.more {s r : ByteArray} {w wr w1 : World} {done : List ByteArray} {v v' : Value} {o : Obj} {i : Nat} (H : Split w.heap.size s w wr done r v) (hi : i < r.size)
    (h : splitNL (toL r) = toL (r.extract 0 i) :: splitNL (toL (r.extract (i + 1) r.size)))
    (hown : w1.ownsRow w.heap.size 9 1 v' (done.length + 1) (done.map strV ++ [strV (r.extract 0 i)])) (hg : (wr.alloc o).grownBy w1 v.ownBlock) :
    Split w.heap.size s w w1 (done ++ [r.extract 0 i]) (r.extract (i + 1) r.size) v' := by
  have hle := H.le
  have hnum := H.num
  refine ⟨?_, ?_, ?_, ?_, ?_⟩
  · rw [H.lines, h]; simp
  · simpa using hown
  · exact (H.below.alloc H.below.size o).grown hg (by have := H.below.size; simp; omega) fun k hk => (H.own.lt k hk).1
  · simp; omega
  · simp; omega

set_option maxHeartbeats 400000 in
theorem zzSplit_NL (s : ByteArray) (w : World) (hs : s.size ≤ 1048576) :
    Calls Try.prog 13 #[.string s, .string NL] w (Splits w.heap.size s w) := by
  obtain ⟨i0, hi, hz0, hz1, hz2⟩ := info_parts Try.info9
  have hnl : NL.size = 1 := rfl
  go_enter Try.func13, Try.ntmps13
  go_wp2
  go_loopw [0, 5] (fun sr v wr => ∃ done r, sr = .string r ∧ Split w.heap.size s w wr done r v) (fun sr v wr => strSize sr)
  case atStart => exact ⟨[], s, rfl, ⟨by simp, World.ownsRow_nil _ _ _ _, Below.refl _ _, Nat.le_refl _, by simp⟩⟩
  case round =>
    obtain ⟨done, r, rfl, H⟩ := hrel
    have hle := H.le
    have hnum := H.num
    have hbs := H.below.size
    go_wp2_with (first
      | (go_at_call 17; refine (zzIndex_any _ _ _ (by omega)).mono ?_; rintro e w1 ⟨⟨q, rfl, hq⟩, rfl⟩; rcases found_NL hq with ⟨rfl, hl⟩ | ⟨i, rfl, hi', hl⟩ <;> clear hq <;> have HL := Lib.hid hl <;> clear hl)
      | (at_builtin; refine wpList_append_own _ rfl (.tmp 42) (.tmp 44) 22 rfl w.heap.size 9 i0 (.string ⟨#[]⟩) 1 16 Try.underlying22 hi hz0 hz1 hz2 rfl (by decide) _ _ _ rfl (H.own.alloc _) ⟨wr.heap.size, 0, none⟩ 1 1 [strV r] rfl rfl (one_new _ _ _ rfl) (one_cell _) (by unfold maxLen; omega) (by omega) (by simp; omega) ?_; intro v' w1 hown hgrow _)
      | (at_builtin; refine wpList_append_own _ rfl (.tmp 46) (.tmp 50) 22 rfl w.heap.size 9 i0 (.string ⟨#[]⟩) 1 16 Try.underlying22 hi hz0 hz1 hz2 rfl (by decide) _ _ _ rfl (H.own.alloc _) ⟨wr.heap.size, 0, none⟩ 1 1 [strV (r.extract 0 i)] rfl rfl (one_new _ _ _ rfl) (one_cell _) (by unfold maxLen; omega) (by omega) (by simp; omega) ?_; intro v' w1 hown hgrow _))
    · go_ret
      exact H.last HL.out hown hgrow
    · go_roundw
      case rel => exact ⟨_, _, rfl, H.more hi' HL.out hown hgrow⟩
      case measure => simp [strSize]; omega

end Go.Proofs.Ytbcfalhdjmidjaa
