/-
  A new reader of a text without a backslash. No conditions but lengths.
-/
import Derived.Test.YtobiaaabikfglaaGreatDoorR18
import Derived.Laws.EntriesVeiled
namespace Go.Proofs.YtobiaaabikfglaaGreatDoor
open Go.RowKit Go.Proofs.YtobiaaabikfglaaGreatDoor.Pq Go.Lib

theorem upto_succ {p : Nat → Prop} {k : Nat} (h : ∀ j, j < k → p j) (hk : p k) : ∀ j, j < k + 1 → p j := fun j hj => by
  rcases Nat.lt_succ_iff_lt_or_eq.1 hj with h' | rfl
  · exact h j h'
  · exact hk

/-- where the text stands in the other one -/
def AtI (s sub : ByteArray) (i : Nat) : Prop := (s.extract i (i + sub.size)).toList = sub.toList
def Found (s sub : ByteArray) (r : Int) : Prop :=
  (r = -1 ∧ ∀ j, j + sub.size ≤ s.size → ¬ AtI s sub j) ∨ ∃ i : Nat, r = i ∧ i + sub.size ≤ s.size ∧ AtI s sub i ∧ ∀ j, j < i → ¬ AtI s sub j

set_option maxHeartbeats 400000 in
theorem zzIndex_any (s sub : ByteArray) (w : World) (hs : s.size + sub.size ≤ 4611686018427387904) :
    Calls Tryz.prog 61 #[.string s, .string sub] w fun e w' => (∃ r, e = .returned (.int .i64 r) ∧ Found s sub r) ∧ w = w' := by
  go_enter Tryz.func61, Tryz.ntmps61
  go_wp2
  go_loop [5] (fun i => ∃ k : Nat, k ≤ s.size + 1 ∧ (∀ j, j < k → ¬ AtI s sub j) ∧ i = .int .i64 k) (fun i => s.size + 1 - (intOf i).toNat)
  case atStart => exact ⟨0, Nat.zero_le _, fun j hj => absurd hj (by omega), rfl⟩
  case round =>
    obtain ⟨k, hk, hno, rfl⟩ := hrel
    have H := Lib.hid hno; clear hno
    by_cases hlt : k + sub.size ≤ s.size
    · by_cases ha : AtI s sub k
      · have HH : ((s.extract k (k + sub.size)).toList == sub.toList) = true := by simpa [AtI] using ha
        have HA := Lib.hid ha; clear ha
        go_wp2
        go_ret
        exact ⟨⟨k, rfl, .inr ⟨k, rfl, hlt, HA.out, H.out⟩⟩, rfl⟩
      · have HH : ((s.extract k (k + sub.size)).toList == sub.toList) = false := by simpa [AtI] using ha
        have HA := Lib.hid ha; clear ha
        go_wp2
        go_round
        case rel => exact ⟨k + 1, by omega, upto_succ H.out HA.out, by go_num⟩
        case measure => simp [intOf]; omega
    · go_wp2
      go_ret
      exact ⟨⟨-1, rfl, .inl ⟨rfl, fun j hj => H.out j (by omega)⟩⟩, rfl⟩

theorem found_not {s sub : ByteArray} {r : Int} (h : Found s sub r) (hn : ∀ i, i + sub.size ≤ s.size → ¬ AtI s sub i) : r = -1 := by
  rcases h with ⟨h, _⟩ | ⟨i, _, h2, h3, _⟩
  · exact h
  · exact absurd h3 (hn i h2)

theorem noEsc {s : ByteArray} (hno : (92 : UInt8) ∉ toL s) : ∀ i, i + (⟨#[92, 117]⟩ : ByteArray).size ≤ s.size → ¬ AtI s ⟨#[92, 117]⟩ i := by
  intro i hi h
  apply hno
  unfold AtI at h
  have h2 : (⟨#[92, 117]⟩ : ByteArray).size = 2 := rfl
  rw [Lib.toList_data, Lib.toList_data, Lib.extract_data, h2, show i + 2 - i = 2 from by omega] at h
  have hm : (92 : UInt8) ∈ ((s.data.toList.drop i).take 2) := by rw [h]; exact List.mem_cons_self ..
  exact List.mem_of_mem_drop (List.mem_of_mem_take hm)

theorem contains_none (s : ByteArray) (w : World) (hs : s.size ≤ 2147483647) (hno : (92 : UInt8) ∉ toL s) :
    Calls Tryz.prog 45 #[.string s, .string ⟨#[92, 117]⟩] w fun e w' => e = .returned (.bool false) ∧ w = w' := by
  go_enter Tryz.func45, Tryz.ntmps45
  go_wp2_with fail
  refine (zzIndex_any s ⟨#[92, 117]⟩ w (by have : (⟨#[92, 117]⟩ : ByteArray).size = 2 := rfl; omega)).mono ?_
  rintro e w1 ⟨⟨r, rfl, hr⟩, rfl⟩
  obtain rfl := found_not hr (noEsc hno)
  clear hr
  go_wp2_with fail
  go_ret
  exact ⟨rfl, rfl⟩

theorem newReader (s : ByteArray) (w : World) (hs : s.size ≤ 2147483647) (hno : (92 : UInt8) ∉ toL s) :
    Calls Tryz.prog 30 #[.string s] w fun e w' => e = .returned (.iface 203 (ptrV w.heap.size)) ∧ w' = w.alloc (.cells #[.string s, .int .i64 0, .int .i64 (-1)] 217) := by
  go_enter Tryz.func30, Tryz.ntmps30
  go_wp2_with fail
  refine (contains_none s w hs hno).mono ?_
  rintro e w1 ⟨rfl, rfl⟩
  go_wp2_with fail
  have hN : Calls Tryz.prog 46 #[.string s] w fun e w' => e = .returned (ptrV w.heap.size) ∧ w' = w.alloc (.cells #[.string s, .int .i64 0, .int .i64 (-1)] 217) := by
    go_enter Tryz.func46, Tryz.ntmps46
    go_wp2_with fail
    go_ret
    exact ⟨rfl, rfl⟩
  refine hN.mono ?_
  rintro e w1 ⟨rfl, rfl⟩
  go_wp2_with fail
  go_ret
  exact ⟨rfl, rfl⟩

end Go.Proofs.YtobiaaabikfglaaGreatDoor

/-
  The scanner made ready. No conditions.
-/
namespace Go.Proofs.YtobiaaabikfglaaGreatDoor
open Go.RowKit Go.Proofs.YtobiaaabikfglaaGreatDoor.Pq Go.Lib

theorem Bl.some_ {w : World} {b : Nat} {cs : Array Value} {t : TypeId} (h : Bl w b cs t) (i : Nat) (hi : i < cs.size) : ∃ x, w.cell? ⟨b, i, none⟩ = some x := ⟨cs[i], by rw [h.cell]; simp [hi]⟩

/-- what Init stores -/
def initCs (cs : Array Value) (v : Value) : Array Value :=
  ((((((((((((((((cs.setIfInBounds 0 v).setIfInBounds 1 (byteV 128)).setIfInBounds 1026 (numV 0)).setIfInBounds 1027 (numV 0)).setIfInBounds 1028 (numV 0)).setIfInBounds 1029 (numV 1)).setIfInBounds 1030 (numV 0)).setIfInBounds 1031 (numV 0)).setIfInBounds 1032 (numV 0)).setIfInBounds 1036 (numV (-1))).setIfInBounds 1038 (.int .i32 (-2))).setIfInBounds 1039 .nilFunc).setIfInBounds 1040 (numV 0)).setIfInBounds 1041 (.int .u64 1012)).setIfInBounds 1042 (.int .u64 4294977024)).setIfInBounds 1046 (numV 0))

structure InitSt (S : Nat) (w : World) (wx : World) (cs : Array Value) : Prop where
  bl : Bl wx S cs 182
  size : cs.size = 1048
  fr : Fr [S] w [S] wx

theorem InitSt.put {S : Nat} {w wx : World} {cs : Array Value} (h : InitSt S w wx cs) (i : Nat) (v : Value) : InitSt S w (wx.setCell ⟨S, i, none⟩ v) (cs.setIfInBounds i v) :=
  ⟨h.bl.set i v, by simpa using h.size, h.fr.set (.inl (by simp)) v⟩

set_option maxRecDepth 100000 in
set_option maxHeartbeats 8000000 in
theorem init_any (S R : Nat) (cs : Array Value) (w : World) (h : Bl w S cs 182) (hs : cs.size = 1048) :
    Calls Tryz.prog 29 #[.pointer (some ⟨S, 0, none⟩), .iface 203 (ptrV R)] w fun e w' => e = .returned (.pointer (some ⟨S, 0, none⟩)) ∧ Bl w' S (initCs cs (.iface 203 (ptrV R))) 182 ∧ Fr [S] w [S] w' := by
  have H := Lib.hid (⟨h, hs, Fr.refl _ _⟩ : InitSt S w w cs)
  clear h hs
  go_enter Tryz.func29, Tryz.ntmps29
  go_upto_region 1 with (fail)
  go_cut [] (fun wx => InitSt S w wx (cs.setIfInBounds 0 (.iface 203 (ptrV R))))
  case first =>
    obtain ⟨x, g0⟩ := H.out.bl.some_ 0 (by have := H.out.size; omega)
    have f1 := H.out.bl.free
    go_wp2_with fail
    go_meet
    exact H.out.put 0 _

  have H := Lib.hid hcut
  clear hcut
  go_upto_region 2 with (fail)
  go_cut [] (fun wx => InitSt S w wx ((cs.setIfInBounds 0 (.iface 203 (ptrV R))).setIfInBounds 1 (byteV 128)))
  case first =>
    obtain ⟨x, g0⟩ := H.out.bl.some_ 1 (by have := H.out.size; omega)
    have f1 := H.out.bl.free
    go_wp2_with fail
    go_meet
    exact H.out.put 1 _

  have H := Lib.hid hcut
  clear hcut
  go_upto_region 3 with (fail)
  go_cut [] (fun wx => InitSt S w wx (((cs.setIfInBounds 0 (.iface 203 (ptrV R))).setIfInBounds 1 (byteV 128)).setIfInBounds 1026 (numV 0)))
  case first =>
    obtain ⟨x, g0⟩ := H.out.bl.some_ 1026 (by have := H.out.size; omega)
    have f1 := H.out.bl.free
    go_wp2_with fail
    go_meet
    exact H.out.put 1026 _

  have H := Lib.hid hcut
  clear hcut
  go_upto_region 4 with (fail)
  go_cut [] (fun wx => InitSt S w wx ((((cs.setIfInBounds 0 (.iface 203 (ptrV R))).setIfInBounds 1 (byteV 128)).setIfInBounds 1026 (numV 0)).setIfInBounds 1027 (numV 0)))
  case first =>
    obtain ⟨x, g0⟩ := H.out.bl.some_ 1027 (by have := H.out.size; omega)
    have f1 := H.out.bl.free
    go_wp2_with fail
    go_meet
    exact H.out.put 1027 _

  have H := Lib.hid hcut
  clear hcut
  go_upto_region 5 with (fail)
  go_cut [] (fun wx => InitSt S w wx (((((cs.setIfInBounds 0 (.iface 203 (ptrV R))).setIfInBounds 1 (byteV 128)).setIfInBounds 1026 (numV 0)).setIfInBounds 1027 (numV 0)).setIfInBounds 1028 (numV 0)))
  case first =>
    obtain ⟨x, g0⟩ := H.out.bl.some_ 1028 (by have := H.out.size; omega)
    have f1 := H.out.bl.free
    go_wp2_with fail
    go_meet
    exact H.out.put 1028 _

  have H := Lib.hid hcut
  clear hcut
  go_upto_region 6 with (fail)
  go_cut [] (fun wx => InitSt S w wx ((((((cs.setIfInBounds 0 (.iface 203 (ptrV R))).setIfInBounds 1 (byteV 128)).setIfInBounds 1026 (numV 0)).setIfInBounds 1027 (numV 0)).setIfInBounds 1028 (numV 0)).setIfInBounds 1029 (numV 1)))
  case first =>
    obtain ⟨x, g0⟩ := H.out.bl.some_ 1029 (by have := H.out.size; omega)
    have f1 := H.out.bl.free
    go_wp2_with fail
    go_meet
    exact H.out.put 1029 _

  have H := Lib.hid hcut
  clear hcut
  go_upto_region 7 with (fail)
  go_cut [] (fun wx => InitSt S w wx (((((((cs.setIfInBounds 0 (.iface 203 (ptrV R))).setIfInBounds 1 (byteV 128)).setIfInBounds 1026 (numV 0)).setIfInBounds 1027 (numV 0)).setIfInBounds 1028 (numV 0)).setIfInBounds 1029 (numV 1)).setIfInBounds 1030 (numV 0)))
  case first =>
    obtain ⟨x, g0⟩ := H.out.bl.some_ 1030 (by have := H.out.size; omega)
    have f1 := H.out.bl.free
    go_wp2_with fail
    go_meet
    exact H.out.put 1030 _

  have H := Lib.hid hcut
  clear hcut
  go_upto_region 8 with (fail)
  go_cut [] (fun wx => InitSt S w wx ((((((((cs.setIfInBounds 0 (.iface 203 (ptrV R))).setIfInBounds 1 (byteV 128)).setIfInBounds 1026 (numV 0)).setIfInBounds 1027 (numV 0)).setIfInBounds 1028 (numV 0)).setIfInBounds 1029 (numV 1)).setIfInBounds 1030 (numV 0)).setIfInBounds 1031 (numV 0)))
  case first =>
    obtain ⟨x, g0⟩ := H.out.bl.some_ 1031 (by have := H.out.size; omega)
    have f1 := H.out.bl.free
    go_wp2_with fail
    go_meet
    exact H.out.put 1031 _

  have H := Lib.hid hcut
  clear hcut
  go_upto_region 9 with (fail)
  go_cut [] (fun wx => InitSt S w wx (((((((((cs.setIfInBounds 0 (.iface 203 (ptrV R))).setIfInBounds 1 (byteV 128)).setIfInBounds 1026 (numV 0)).setIfInBounds 1027 (numV 0)).setIfInBounds 1028 (numV 0)).setIfInBounds 1029 (numV 1)).setIfInBounds 1030 (numV 0)).setIfInBounds 1031 (numV 0)).setIfInBounds 1032 (numV 0)))
  case first =>
    obtain ⟨x, g0⟩ := H.out.bl.some_ 1032 (by have := H.out.size; omega)
    have f1 := H.out.bl.free
    go_wp2_with fail
    go_meet
    exact H.out.put 1032 _

  have H := Lib.hid hcut
  clear hcut
  go_upto_region 10 with (fail)
  go_cut [] (fun wx => InitSt S w wx ((((((((((cs.setIfInBounds 0 (.iface 203 (ptrV R))).setIfInBounds 1 (byteV 128)).setIfInBounds 1026 (numV 0)).setIfInBounds 1027 (numV 0)).setIfInBounds 1028 (numV 0)).setIfInBounds 1029 (numV 1)).setIfInBounds 1030 (numV 0)).setIfInBounds 1031 (numV 0)).setIfInBounds 1032 (numV 0)).setIfInBounds 1036 (numV (-1))))
  case first =>
    obtain ⟨x, g0⟩ := H.out.bl.some_ 1036 (by have := H.out.size; omega)
    have f1 := H.out.bl.free
    go_wp2_with fail
    go_meet
    exact H.out.put 1036 _

  have H := Lib.hid hcut
  clear hcut
  go_upto_region 11 with (fail)
  go_cut [] (fun wx => InitSt S w wx (((((((((((cs.setIfInBounds 0 (.iface 203 (ptrV R))).setIfInBounds 1 (byteV 128)).setIfInBounds 1026 (numV 0)).setIfInBounds 1027 (numV 0)).setIfInBounds 1028 (numV 0)).setIfInBounds 1029 (numV 1)).setIfInBounds 1030 (numV 0)).setIfInBounds 1031 (numV 0)).setIfInBounds 1032 (numV 0)).setIfInBounds 1036 (numV (-1))).setIfInBounds 1038 (.int .i32 (-2))))
  case first =>
    obtain ⟨x, g0⟩ := H.out.bl.some_ 1038 (by have := H.out.size; omega)
    have f1 := H.out.bl.free
    go_wp2_with fail
    go_meet
    exact H.out.put 1038 _

  have H := Lib.hid hcut
  clear hcut
  go_upto_region 12 with (fail)
  go_cut [] (fun wx => InitSt S w wx ((((((((((((cs.setIfInBounds 0 (.iface 203 (ptrV R))).setIfInBounds 1 (byteV 128)).setIfInBounds 1026 (numV 0)).setIfInBounds 1027 (numV 0)).setIfInBounds 1028 (numV 0)).setIfInBounds 1029 (numV 1)).setIfInBounds 1030 (numV 0)).setIfInBounds 1031 (numV 0)).setIfInBounds 1032 (numV 0)).setIfInBounds 1036 (numV (-1))).setIfInBounds 1038 (.int .i32 (-2))).setIfInBounds 1039 .nilFunc))
  case first =>
    obtain ⟨x, g0⟩ := H.out.bl.some_ 1039 (by have := H.out.size; omega)
    have f1 := H.out.bl.free
    go_wp2_with fail
    go_meet
    exact H.out.put 1039 _

  have H := Lib.hid hcut
  clear hcut
  go_upto_region 13 with (fail)
  go_cut [] (fun wx => InitSt S w wx (((((((((((((cs.setIfInBounds 0 (.iface 203 (ptrV R))).setIfInBounds 1 (byteV 128)).setIfInBounds 1026 (numV 0)).setIfInBounds 1027 (numV 0)).setIfInBounds 1028 (numV 0)).setIfInBounds 1029 (numV 1)).setIfInBounds 1030 (numV 0)).setIfInBounds 1031 (numV 0)).setIfInBounds 1032 (numV 0)).setIfInBounds 1036 (numV (-1))).setIfInBounds 1038 (.int .i32 (-2))).setIfInBounds 1039 .nilFunc).setIfInBounds 1040 (numV 0)))
  case first =>
    obtain ⟨x, g0⟩ := H.out.bl.some_ 1040 (by have := H.out.size; omega)
    have f1 := H.out.bl.free
    go_wp2_with fail
    go_meet
    exact H.out.put 1040 _

  have H := Lib.hid hcut
  clear hcut
  go_upto_region 14 with (fail)
  go_cut [] (fun wx => InitSt S w wx ((((((((((((((cs.setIfInBounds 0 (.iface 203 (ptrV R))).setIfInBounds 1 (byteV 128)).setIfInBounds 1026 (numV 0)).setIfInBounds 1027 (numV 0)).setIfInBounds 1028 (numV 0)).setIfInBounds 1029 (numV 1)).setIfInBounds 1030 (numV 0)).setIfInBounds 1031 (numV 0)).setIfInBounds 1032 (numV 0)).setIfInBounds 1036 (numV (-1))).setIfInBounds 1038 (.int .i32 (-2))).setIfInBounds 1039 .nilFunc).setIfInBounds 1040 (numV 0)).setIfInBounds 1041 (.int .u64 1012)))
  case first =>
    obtain ⟨x, g0⟩ := H.out.bl.some_ 1041 (by have := H.out.size; omega)
    have f1 := H.out.bl.free
    go_wp2_with fail
    go_meet
    exact H.out.put 1041 _

  have H := Lib.hid hcut
  clear hcut
  go_upto_region 15 with (fail)
  go_cut [] (fun wx => InitSt S w wx (((((((((((((((cs.setIfInBounds 0 (.iface 203 (ptrV R))).setIfInBounds 1 (byteV 128)).setIfInBounds 1026 (numV 0)).setIfInBounds 1027 (numV 0)).setIfInBounds 1028 (numV 0)).setIfInBounds 1029 (numV 1)).setIfInBounds 1030 (numV 0)).setIfInBounds 1031 (numV 0)).setIfInBounds 1032 (numV 0)).setIfInBounds 1036 (numV (-1))).setIfInBounds 1038 (.int .i32 (-2))).setIfInBounds 1039 .nilFunc).setIfInBounds 1040 (numV 0)).setIfInBounds 1041 (.int .u64 1012)).setIfInBounds 1042 (.int .u64 4294977024)))
  case first =>
    obtain ⟨x, g0⟩ := H.out.bl.some_ 1042 (by have := H.out.size; omega)
    have f1 := H.out.bl.free
    go_wp2_with fail
    go_meet
    exact H.out.put 1042 _

  have H := Lib.hid hcut
  clear hcut
  go_upto_region 16 with (fail)
  go_cut [] (fun wx => InitSt S w wx ((((((((((((((((cs.setIfInBounds 0 (.iface 203 (ptrV R))).setIfInBounds 1 (byteV 128)).setIfInBounds 1026 (numV 0)).setIfInBounds 1027 (numV 0)).setIfInBounds 1028 (numV 0)).setIfInBounds 1029 (numV 1)).setIfInBounds 1030 (numV 0)).setIfInBounds 1031 (numV 0)).setIfInBounds 1032 (numV 0)).setIfInBounds 1036 (numV (-1))).setIfInBounds 1038 (.int .i32 (-2))).setIfInBounds 1039 .nilFunc).setIfInBounds 1040 (numV 0)).setIfInBounds 1041 (.int .u64 1012)).setIfInBounds 1042 (.int .u64 4294977024)).setIfInBounds 1046 (numV 0)))
  case first =>
    obtain ⟨x, g0⟩ := H.out.bl.some_ 1046 (by have := H.out.size; omega)
    have f1 := H.out.bl.free
    go_wp2_with fail
    go_meet
    exact H.out.put 1046 _

  have H := Lib.hid hcut
  clear hcut
  go_wp2_with fail
  go_ret
  exact ⟨rfl, H.out.bl, H.out.fr⟩

end Go.Proofs.YtobiaaabikfglaaGreatDoor

/-
  A new lexer. No conditions but lengths.
-/
namespace Go.Proofs.YtobiaaabikfglaaGreatDoor
open Go.RowKit Go.Proofs.YtobiaaabikfglaaGreatDoor.Pq Go.Lib

/-- a scanner's zero value with its mode -/
noncomputable def scan0 : Array Value := Tryz.zeroCells182.setIfInBounds 1041 (.int .u64 92)

theorem scan0_size : scan0.size = 1048 := by kernel_rfl

/-- the new scanner -/
def newSc (R : Nat) (err : Value) : Sc :=
  { src := .iface 203 (ptrV R), buf := 128 :: List.replicate 1024 0, pos := 0, fin := 0, off := 0, line := 1, col := 0, lll := 0, lcl := 0, tb := .slice none 0 0, tbl := 0, tokPos := -1, tokEnd := 0, ch := -2, err := err, ec := 0, offset := 0, lineP := 0, colP := 0 }

theorem newSc_cells (R : Nat) (err : Value) : (initCs scan0 (.iface 203 (ptrV R))).setIfInBounds 1039 err = (newSc R err).cells := by
  kernel_rfl

set_option maxRecDepth 100000 in
set_option maxHeartbeats 8000000 in
theorem newLexer (ad : Addr) (g : World) (s : ByteArray) (ts : List Tok) (w : World) (hs : s.size ≤ 2147483647) (hno : (92 : UInt8) ∉ toL s) (hG : Gd ad g w []) (hT : Toks1 (toL s) ts) (hA : AllAsc (toL s)) :
    Calls Tryz.prog 21 #[.string s, .bool true] w fun e w' => ∃ L ms, e = .returned (.pointer (some ⟨L, 0, none⟩)) ∧ LexR ad g w' L ms 0 ts ∧ Fr [] w ms w' := by
  go_enter Tryz.func21, Tryz.ntmps21
  go_wp2_with fail
  refine (newReader s _ hs hno).mono ?_
  rintro e w1 ⟨rfl, rfl⟩
  go_wp2_with fail
  have hS1 : Bl (w.alloc (.cells scan0 182)) w.heap.size scan0 182 := Bl.new _ _ _
  have hR1 : Bl ((w.alloc (.cells scan0 182)).alloc (.cells #[.string s, .int .i64 0, .int .i64 (-1)] 217)) (w.heap.size + 1) #[.string s, .int .i64 0, .int .i64 (-1)] 217 := by
    have := Bl.new (w.alloc (.cells scan0 182)) #[.string s, .int .i64 0, .int .i64 (-1)] 217
    simpa using this
  refine (init_any w.heap.size (w.heap.size + 1) scan0 _ (hS1.alloc _) scan0_size).mono ?_
  rintro e w2 ⟨rfl, hB, hF⟩
  have hR2 := (hF.bl hR1 (by simp)).1
  have hFw : Fr [] w [w.heap.size] w2 := Fr.trans ⟨(((Fr.refl [] w).alloc _).alloc _).kept, fun k hk => .inr (by simp at hk; omega)⟩ hF
  obtain ⟨x, g1⟩ := hB.some_ 1039 (by simp [initCs, scan0_size])
  have g2 : ∀ o, (w2.alloc o).cell? ⟨w.heap.size, 1039, none⟩ = some x := fun o => by rw [(hB.alloc o).cell, ← hB.cell]; exact g1
  have f1 : ∀ o i, (w2.alloc o).frozen? ⟨w.heap.size, i, none⟩ = false := fun o => (hB.alloc o).free
  clear g1
  have H2 := Lib.hid (And.intro hB (And.intro hR2 hFw))
  clear hB hF hR2 hFw hS1 hR1
  go_wp2_with fail
  go_ret
  obtain ⟨hB, hR, hF⟩ := H2.out
  have hlt : w.heap.size + 1 < w2.heap.size := hR.lt
  have hB3 := (hB.alloc (.cells #[.pointer (some ⟨w.heap.size, 0, none⟩), .int .i32 0, .slice none 0 0, .int .i64 0, .int .i8 0, .bool true, .int .i64 0] 186)).set 1039 (.func (.func 31) #[.pointer (some ⟨w2.heap.size, 0, none⟩)] #[])
  rw [newSc_cells] at hB3
  have hF3 : Fr [] w [w2.heap.size, w.heap.size, w.heap.size + 1] ((w2.alloc (.cells #[.pointer (some ⟨w.heap.size, 0, none⟩), .int .i32 0, .slice none 0 0, .int .i64 0, .int .i8 0, .bool true, .int .i64 0] 186)).setCell ⟨w.heap.size, 1039, none⟩ (.func (.func 31) #[.pointer (some ⟨w2.heap.size, 0, none⟩)] #[])) :=
    ⟨((hF.alloc _).set (.inr (Nat.le_refl _)) _).kept, fun k hk => .inr (by simp at hk; omega)⟩
  refine ⟨w2.heap.size, [w2.heap.size, w.heap.size, w.heap.size + 1], rfl, ?_, hF3⟩
  refine ⟨w.heap.size, w.heap.size + 1, newSc (w.heap.size + 1) _, toL s, 0, ⟨(Bl.new w2 _ _).far (by simp; omega) _, rfl, by simp [Sc.ms, newSc, rowOf]; omega, hG.fr hF3⟩, .inl ⟨rfl, ⟨⟨rfl, hB3⟩, rfl, ?_, Nat.le_refl _, (by decide : (0 : Nat) ≤ 1024), rfl, ⟨[], .none, .inl (by decide : (-1 : Int) < 0)⟩⟩, (by decide : (-1 : Int) < 0)⟩, hT, hA⟩
  exact ⟨toL s, ⟨s, 0, -1, ((hR.alloc _).far (by simp) _), Nat.zero_le _, hs, rfl⟩, rfl⟩

end Go.Proofs.YtobiaaabikfglaaGreatDoor
