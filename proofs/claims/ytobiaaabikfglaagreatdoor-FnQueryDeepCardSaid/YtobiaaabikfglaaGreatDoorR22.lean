/-
  impl's conversions by contracts: plain values, types. No conditions but lengths.
-/
import Derived.Test.YtobiaaabikfglaaGreatDoorR21
import Derived.Deep.RegionHeld3
namespace Go.Proofs.YtobiaaabikfglaaGreatDoor
open Go.RowKit Go.Proofs.YtobiaaabikfglaaGreatDoor.Pq Go.Lib

/-- a struct is handed back, its memory new -/
def CRes {α : Type} (At : Ck → α → List Value → Prop) (x : α) (w : World) (e : Ending) (w' : World) : Prop := ∃ cs : List Value, e = .returned (.agg cs.toArray) ∧ At (CN w' w.heap.size none) x cs ∧ Below w.heap.size w w'
/-- a slice is handed back, its memory new -/
def CLRes {α : Type} (At : Ck → α → Value → Prop) (x : α) (w : World) (e : Ending) (w' : World) : Prop := ∃ sl, e = .returned sl ∧ At (CN w' w.heap.size none) x sl ∧ Below w.heap.size w w'

theorem iv_plain (w : World) (o : Obj) (k : Int) (s : Bs) : CRes IvAt (.mk k s [] []) w (.returned (.agg #[numV k, str s, .slice none 0 0, .slice none 0 0])) (w.alloc o) :=
  ⟨[numV k, str s, .slice none 0 0, .slice none 0 0], rfl, ⟨.slice none 0 0, [], .slice none 0 0, rfl, RowAt.nil 4, rfl, RowAt.nil 1⟩, (Below.refl _ _).alloc (Nat.le_refl _) _⟩

theorem first_is (a : UInt8) (t : List UInt8) (h : 0 < (⟨(a :: t).toArray⟩ : ByteArray).size) : (((⟨(a :: t).toArray⟩ : ByteArray)[0]'h).toNat : Int) = a.toNat := rfl

set_option maxRecDepth 100000 in
set_option maxHeartbeats 1000000 in
theorem literal_any (b : Nat) (k : Int) (s : Bs) (l c : Int) (w : World) (h : Bl w b #[.int .i32 k, str s, numV l, numV c] 198) (hk : k ≠ -6) :
    Calls Tryz.prog 25 #[ptrV b] w (CRes IvAt (cPrim k s) w) := by
  have c0 : (w.alloc (.cells #[numV 0, str [], .slice none 0 0, .slice none 0 0] 79)).cell? ⟨b, 0, none⟩ = some (.int .i32 k) := (h.alloc _).cell 0
  have c1 : (w.alloc (.cells #[numV 0, str [], .slice none 0 0, .slice none 0 0] 79)).cell? ⟨b, 1, none⟩ = some (str s) := (h.alloc _).cell 1
  have k6 : (k == -6) = false := by simpa using hk
  clear h hk
  by_cases h3 : k = -3
  · subst h3
    have e : cPrim (-3) s = .mk 2 s [] [] := rfl
    rw [e]
    clear e
    go_enter Tryz.func25, Tryz.ntmps25
    cases s with
    | nil =>
      go_wp2_with fail
      exact bodyPost_ret (v := .agg #[numV 2, str [], .slice none 0 0, .slice none 0 0]) (by simp [results, Tryz.results25, go_sem]) rfl (iv_plain w _ 2 _)
    | cons a t =>
      go_wp2_with fail
      exact bodyPost_ret (v := .agg #[numV 2, str (a :: t), .slice none 0 0, .slice none 0 0]) (by simp [results, Tryz.results25, go_sem]) rfl (iv_plain w _ 2 _)
  have d3 : (k == -3) = false := by simpa using h3
  by_cases h4 : k = -4
  · subst h4
    have e : cPrim (-4) s = .mk 3 s [] [] := rfl
    rw [e]
    clear e h3
    go_enter Tryz.func25, Tryz.ntmps25
    cases s with
    | nil =>
      go_wp2_with fail
      exact bodyPost_ret (v := .agg #[numV 3, str [], .slice none 0 0, .slice none 0 0]) (by simp [results, Tryz.results25, go_sem]) rfl (iv_plain w _ 3 _)
    | cons a t =>
      go_wp2_with fail
      exact bodyPost_ret (v := .agg #[numV 3, str (a :: t), .slice none 0 0, .slice none 0 0]) (by simp [results, Tryz.results25, go_sem]) rfl (iv_plain w _ 3 _)
  have d4 : (k == -4) = false := by simpa using h4
  by_cases h2 : k = -2
  · subst h2
    clear h3 h4
    cases s with
    | nil =>
      have e : cPrim (-2) [] = .mk 6 [] [] [] := rfl
      rw [e]
      clear e
      go_enter Tryz.func25, Tryz.ntmps25
      go_wp2_with fail
      exact bodyPost_ret (v := .agg #[numV 6, str [], .slice none 0 0, .slice none 0 0]) (by simp [results, Tryz.results25, go_sem]) rfl (iv_plain w _ 6 _)
    | cons a t =>
      have hpos : 0 < (⟨(a :: t).toArray⟩ : ByteArray).size := by show 0 < (a :: t).toArray.size; simp
      by_cases ha : a = 45
      · subst ha
        have hm : (((⟨(45 :: t).toArray⟩ : ByteArray)[0].toNat : Int) == 45) = true := rfl
        have e : cPrim (-2) (45 :: t) = .mk 10 (45 :: t) [] [] := rfl
        rw [e]
        clear e
        go_enter Tryz.func25, Tryz.ntmps25
        go_wp2_with fail
        exact bodyPost_ret (v := .agg #[numV 10, str (45 :: t), .slice none 0 0, .slice none 0 0]) (by simp [results, Tryz.results25, go_sem]) rfl (iv_plain w _ 10 _)
      · have hm : (((⟨(a :: t).toArray⟩ : ByteArray)[0].toNat : Int) == 45) = false := by
          rw [first_is, beq_eq_false_iff_ne]
          intro h; exact ha (UInt8.toNat_inj.1 (by show a.toNat = 45; omega))
        by_cases hs : a :: t = bTrue ∨ a :: t = bFalse
        · have e : cPrim (-2) (a :: t) = .mk 5 (a :: t) [] [] := by unfold cPrim; rw [if_neg (by decide), if_neg (by decide), if_pos ⟨rfl, by simpa using ha⟩, if_pos hs]
          rw [e]
          clear e ha
          have hs : (a = 116 ∧ t = [114, 117, 101]) ∨ (a = 102 ∧ t = [97, 108, 115, 101]) := by simpa [bTrue, bFalse] using hs
          rcases hs with ⟨rfl, rfl⟩ | ⟨rfl, rfl⟩
          · clear hm hpos
            go_enter Tryz.func25, Tryz.ntmps25
            go_wp2_with fail
            exact bodyPost_ret (v := .agg #[numV 5, str bTrue, .slice none 0 0, .slice none 0 0]) (by simp [results, Tryz.results25, go_sem, bTrue]) rfl (iv_plain w _ 5 _)
          · clear hm hpos
            go_enter Tryz.func25, Tryz.ntmps25
            go_wp2_with fail
            exact bodyPost_ret (v := .agg #[numV 5, str bFalse, .slice none 0 0, .slice none 0 0]) (by simp [results, Tryz.results25, go_sem, bFalse]) rfl (iv_plain w _ 5 _)
        · have e : cPrim (-2) (a :: t) = .mk 6 (a :: t) [] [] := by unfold cPrim; rw [if_neg (by decide), if_neg (by decide), if_pos ⟨rfl, by simpa using ha⟩, if_neg hs]
          rw [e]
          clear e ha
          have hs : ¬ (a = 116 ∧ t = [114, 117, 101]) ∧ ¬ (a = 102 ∧ t = [97, 108, 115, 101]) := by simpa [bTrue, bFalse] using hs
          obtain ⟨hs1, hs2⟩ := hs
          by_cases ha1 : a = 116
          · subst ha1
            have q1 : (t == [114, 117, 101]) = false := by rw [beq_eq_false_iff_ne]; exact fun e => hs1 ⟨rfl, e⟩
            clear hs1 hs2
            go_enter Tryz.func25, Tryz.ntmps25
            go_wp2_with fail
            exact bodyPost_ret (v := .agg #[numV 6, str (116 :: t), .slice none 0 0, .slice none 0 0]) (by simp [results, Tryz.results25, go_sem]) rfl (iv_plain w _ 6 _)
          have q1 : (a == 116) = false := beq_eq_false_iff_ne.2 ha1
          by_cases ha2 : a = 102
          · subst ha2
            have q2 : (t == [97, 108, 115, 101]) = false := by rw [beq_eq_false_iff_ne]; exact fun e => hs2 ⟨rfl, e⟩
            clear hs1 hs2 ha1
            go_enter Tryz.func25, Tryz.ntmps25
            go_wp2_with fail
            exact bodyPost_ret (v := .agg #[numV 6, str (102 :: t), .slice none 0 0, .slice none 0 0]) (by simp [results, Tryz.results25, go_sem]) rfl (iv_plain w _ 6 _)
          have q2 : (a == 102) = false := beq_eq_false_iff_ne.2 ha2
          clear hs1 hs2 ha1 ha2
          go_enter Tryz.func25, Tryz.ntmps25
          go_wp2_with fail
          exact bodyPost_ret (v := .agg #[numV 6, str (a :: t), .slice none 0 0, .slice none 0 0]) (by simp [results, Tryz.results25, go_sem]) rfl (iv_plain w _ 6 _)
  · have d2 : (k == -2) = false := by simpa using h2
    have e : cPrim k s = .mk 10 s [] [] := by unfold cPrim; rw [if_neg h3, if_neg h4, if_neg (fun h => h2 h.1)]
    rw [e]
    clear e h3 h4 h2
    go_enter Tryz.func25, Tryz.ntmps25
    cases s with
    | nil =>
      go_wp2_with fail
      exact bodyPost_ret (v := .agg #[numV 10, str [], .slice none 0 0, .slice none 0 0]) (by simp [results, Tryz.results25, go_sem]) rfl (iv_plain w _ 10 _)
    | cons a t =>
      go_wp2_with fail
      exact bodyPost_ret (v := .agg #[numV 10, str (a :: t), .slice none 0 0, .slice none 0 0]) (by simp [results, Tryz.results25, go_sem]) rfl (iv_plain w _ 10 _)

end Go.Proofs.YtobiaaabikfglaaGreatDoor
