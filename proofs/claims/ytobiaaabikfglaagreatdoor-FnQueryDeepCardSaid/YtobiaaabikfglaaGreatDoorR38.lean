/-
  The texts of FnQueryDeep: how long, of which bytes, and how their tokens are decided with little fuel. No conditions but the count's.
-/
import Derived.Test.YtobiaaabikfglaaGreatDoorR08
import Derived.Test.YtobiaaabikfglaaGreatDoorR21
import Derived.Test.YtobiaaabikfglaaGreatDoorR33
import Derived.Lib.AppendStr
import Derived.OwnWalk
namespace Go.Proofs.YtobiaaabikfglaaGreatDoor
open Go.Proofs.YtobiaaabikfglaaGreatDoor.Pq

namespace Pq
theorem shape_decides_le (road m : Nat) (hm : 1 ≤ m) : ∃ f, f ≤ 2 * m + 20 ∧ Decides (deep road m ≤ 1000) (pDoc f (shape road m) ⟨[], []⟩) := by
  obtain ⟨k, rfl⟩ : ∃ k, m = k + 1 := ⟨m - 1, by omega⟩
  have hM : maxDepth = 1000 := rfl
  rcases road with _ | _ | _ | _ | _ | _ | _ | road
  · refine ⟨2 * k + 10, by omega, ?_⟩
    refine doc_set (2 * k + 8) _ _ (set_args (2 * k + 5) 0 _ [] _ (by decide) ?_)
    exact (lists k (2 * k + 6) false 1 (P 41 :: [P 125]) (by omega)).of_iff (by show _ ↔ k + 1 + 1 ≤ 1000; omega)
  · refine ⟨2 * k + 10, by omega, ?_⟩
    refine doc_set (2 * k + 8) _ _ (set_args (2 * k + 5) 0 _ [] _ (by decide) ?_)
    exact (objs (k + 1) (2 * k + 6) false 1 (P 41 :: [P 125]) (by omega)).of_iff (by show _ ↔ k + 1 + 1 ≤ 1000; omega)
  · refine ⟨2 * k + 10, by omega, ?_⟩
    have h := sets k (2 * k + 9) 0 [] (by omega)
    have e : shape 2 (k + 1) = P 123 :: (I [97] :: (rep k [P 123, I [97]] ++ rep (k + 1) [P 125] ++ [])) := by
      show rep (k + 1) [P 123, I [97]] ++ rep (k + 1) [P 125] ++ [] = _
      rw [rep_succ k [P 123, I [97]]]; simp
    have e' : rep (k + 1) [P 123, I [97]] ++ rep (k + 1) [P 125] ++ [] = P 123 :: (I [97] :: (rep k [P 123, I [97]] ++ rep (k + 1) [P 125] ++ [])) := e
    rw [e'] at h
    show Decides _ (pDoc (2 * k + 10) (shape 2 (k + 1)) ⟨[], []⟩)
    rw [e]
    exact doc_set (2 * k + 8) _ _ (h.of_iff (by show _ ↔ k + 1 ≤ 1000; omega))
  · refine ⟨2 * k + 10, by omega, ?_⟩
    exact doc_set (2 * k + 8) _ _ ((spreads false (k + 1) (2 * k + 9) 0 [] (by omega)).of_iff (by show _ ↔ k + 1 + 1 ≤ 1000; omega))
  · refine ⟨2 * k + 10, by omega, ?_⟩
    exact doc_set (2 * k + 8) _ _ ((spreads true (k + 1) (2 * k + 9) 0 [] (by omega)).of_iff (by show _ ↔ k + 1 + 1 ≤ 1000; omega))
  · refine ⟨2 * k + 12, by omega, op_vars (2 * k + 6) _ _ ?_⟩
    have e : ∀ X, pInp (2 * k + 10) 0 (I [97] :: P 58 :: X) = (pTy (2 * k + 10) 0 X).bind fun t =>
        (if (cur t.2).kind = 61 then (pVal (2 * k + 10) true 0 t.2.tail).bind fun p => Res.ok (some p.1, p.2) else Res.ok (none, t.2)).bind fun v =>
          (pDirs (2 * k + 10) 0 v.2 []).bind fun q => .ok (⟨[97], t.1, v.1, q.1⟩, q.2) := fun X => rfl
    rw [e]
    refine ((tys (k + 1) (2 * k + 10) 0 (P 41) [P 123, I [97], P 125] (by decide) (by omega)).of_iff (by show _ ↔ k + 1 ≤ 1000; omega)).bind fun a => ?_
    have hd := dirs_none (2 * k + 9) 0 (P 41 :: [P 123, I [97], P 125]) (by decide) []
    refine ⟨⟨[97], a, none, []⟩, ?_⟩
    rw [if_neg (show ¬ (cur [P 41, P 123, I [97], P 125]).kind = 61 by decide)]
    simp only [Res.bind, hd]
  · refine ⟨2 * k + 12, by omega, op_vars (2 * k + 6) _ _ ?_⟩
    have ht : pTy (2 * k + 10) 0 (I [73, 110, 116] :: P 61 :: (rep (k + 1) [P 91] ++ rep (k + 1) [P 93] ++ [P 41, P 123, I [97], P 125])) = .ok (.named [73, 110, 116], P 61 :: (rep (k + 1) [P 91] ++ rep (k + 1) [P 93] ++ [P 41, P 123, I [97], P 125])) := by
      rw [pTy, pNull]; rfl
    have e : ∀ X t X', pTy (2 * k + 10) 0 X = .ok (t, P 61 :: X') → pInp (2 * k + 10) 0 (I [97] :: P 58 :: X) = (pVal (2 * k + 10) true 0 X').bind fun p =>
          (pDirs (2 * k + 10) 0 p.2 []).bind fun q => .ok (⟨[97], t, some p.1, q.1⟩, q.2) := fun X t X' h => by
      have e1 : pInp (2 * k + 10) 0 (I [97] :: P 58 :: X) = (pTy (2 * k + 10) 0 X).bind fun t =>
        (if (cur t.2).kind = 61 then (pVal (2 * k + 10) true 0 t.2.tail).bind fun p => Res.ok (some p.1, p.2) else Res.ok (none, t.2)).bind fun v =>
          (pDirs (2 * k + 10) 0 v.2 []).bind fun q => .ok (⟨[97], t.1, v.1, q.1⟩, q.2) := rfl
      rw [e1, h]
      show ((pVal (2 * k + 10) true 0 X').bind fun p => Res.ok (some p.1, p.2)).bind _ = _
      cases pVal (2 * k + 10) true 0 X' <;> rfl
    rw [e _ _ _ ht]
    refine ((lists k (2 * k + 10) true 0 (P 41 :: [P 123, I [97], P 125]) (by omega)).of_iff (by show _ ↔ k + 1 ≤ 1000; omega)).bind fun a => ?_
    have hd := dirs_none (2 * k + 9) 0 (P 41 :: [P 123, I [97], P 125]) (by decide) []
    exact ⟨⟨[97], .named [73, 110, 116], some a, []⟩, by simp only [hd, Res.bind]⟩
  · refine ⟨2 * k + 11, by omega, ?_⟩
    refine doc_set (2 * k + 9) _ _ (set_dir (2 * k + 5) 0 _ [] _ (by decide) ?_)
    exact (lists k (2 * k + 6) false 1 (P 41 :: [P 125]) (by omega)).of_iff (by show _ ↔ k + 1 + 1 ≤ 1000; omega)

end Pq

/-- tokens that the walk of the scanner takes -/
def okB (t : Tok) : Bool := decide (t.text.length ≤ 59) && !(t.kind == -3 && t.text.head? == some 48)

theorem let_nows (c : UInt8) (h : letB c = true) : wsB c = false := by
  cases hw : wsB c with
  | false => rfl
  | true =>
    simp only [wsB, Bool.or_eq_true, beq_iff_eq] at hw
    rcases hw with ((rfl | rfl) | rfl) | rfl <;> revert h <;> decide
theorem dig_nows (c : UInt8) (h : digB c = true) : wsB c = false := by
  cases hw : wsB c with
  | false => rfl
  | true =>
    simp only [wsB, Bool.or_eq_true, beq_iff_eq] at hw
    rcases hw with ((rfl | rfl) | rfl) | rfl <;> revert h <;> decide
theorem pun_nows (c : UInt8) (h : punB c = true) : wsB c = false := by
  cases hw : wsB c with
  | false => rfl
  | true =>
    simp only [wsB, Bool.or_eq_true, beq_iff_eq] at hw
    rcases hw with ((rfl | rfl) | rfl) | rfl <;> revert h <;> decide

theorem scans_one {u u' : Bs} {t : Tok} (h : Scans u t u') (ht : okB t = true) : ∃ ws v, u = ws ++ v ∧ ws.all wsB = true ∧ NoWs v ∧ Scans1 v t u' := by
  induction h with
  | eof => exact ⟨[], [], rfl, rfl, fun c hc => by simp at hc, .eof⟩
  | ws c u t u' hc _ ih =>
    obtain ⟨ws, v, h1, h2, h3, h4⟩ := ih ht
    exact ⟨c :: ws, v, by rw [h1]; rfl, by simp [hc, h2], h3, h4⟩
  | punct c u h => exact ⟨[], _, rfl, rfl, fun d hd => by simp at hd; subst hd; exact pun_nows _ h, .punct c u h⟩
  | dot u h => exact ⟨[], _, rfl, rfl, fun d hd => by simp at hd; subst hd; rfl, .dot u h⟩
  | word c l u h1 h2 h3 =>
    simp [okB] at ht
    exact ⟨[], _, rfl, rfl, fun d hd => by simp at hd; subst hd; exact let_nows _ h1, .word c l u h1 h2 h3 (by omega)⟩
  | int c l u h1 h2 _ h3 =>
    simp [okB] at ht
    exact ⟨[], _, rfl, rfl, fun d hd => by simp at hd; subst hd; exact dig_nows _ h1, .int c l u h1 h2 ht.2 h3 (by omega)⟩

theorem P_inj {c d : UInt8} (h : P c = P d) : c = d := by
  simp [P] at h
  exact h.2

theorem toks_one {u : Bs} {ts : List Tok} (h : Toks u ts) (ht : ts.all okB = true) : Toks1 u ts := by
  induction h with
  | eof u u' h =>
    obtain ⟨ws, v, h1, h2, _, h4⟩ := scans_one h (by decide)
    have : v = [] := by
      generalize ht : eofT = t at h4
      cases h4 with
      | eof => rfl
      | punct c _ _ => simp [eofT, P] at ht
      | dot => simp [eofT, P] at ht
      | word => simp [eofT] at ht
      | int => simp [eofT] at ht
    rw [h1, this, List.append_nil]
    exact .eof _ h2
  | comma u u' ts h _ ih =>
    obtain ⟨ws, v, h1, h2, _, h4⟩ := scans_one h (by decide)
    have : v = 44 :: u' := by
      generalize ht : P 44 = t at h4
      cases h4 with
      | eof => simp [eofT, P] at ht
      | punct c _ _ => rw [P_inj ht]
      | dot => exact absurd (P_inj ht) (by decide)
      | word => simp [P] at ht
      | int => simp [P] at ht
    rw [h1, this]
    exact .comma _ _ _ h2 (ih ht)
  | tok u u' t ts h h1 h2 h3 _ ih =>
    simp only [List.all_cons, Bool.and_eq_true] at ht
    obtain ⟨ws, v, k1, k2, k3, k4⟩ := scans_one h ht.1
    rw [k1]
    refine .tok ws v u' t ts k2 k3 k4 h1 h2 ?_ (ih ht.2)
    have := ht.1
    simp [okB] at this
    omega

theorem rep_all (m : Nat) (l : List Tok) (h : l.all okB = true) : (rep m l).all okB = true := by
  induction m with
  | zero => rfl
  | succ m ih => rw [rep_succ, List.all_append, h, ih]; rfl

theorem shape_ok (road m : Nat) : (Pq.shape road m).all okB = true := by
  have h1 := rep_all m [P 91] rfl
  have h2 := rep_all m [P 93] rfl
  have h3 := rep_all m [P 125] rfl
  have h4 := rep_all m [P 123, I [98], P 58] rfl
  have h5 := rep_all m [P 123, I [97]] rfl
  have h6 := rep_all m (dots false) rfl
  have h7 := rep_all m (dots true) rfl
  rcases road with _ | _ | _ | _ | _ | _ | _ | road <;> simp only [Pq.shape, List.all_cons, List.all_append, h1, h2, h3, h4, h5, h6, h7] <;> rfl

theorem text_toks1 (road m : Nat) : Toks1 (text road m) (Pq.shape road m) := toks_one (text_toks road m) (shape_ok road m)

/-- bytes that the walk takes -/
def goodB (c : UInt8) : Bool := decide (0 < c.toNat) && decide (c.toNat < 128) && c != 92
theorem repB_all (m : Nat) (l : Bs) (h : l.all goodB = true) : (repB m l).all goodB = true := by
  induction m with
  | zero => rfl
  | succ m ih => rw [repB_succ, List.all_append, h, ih]; rfl

theorem text_good (road m : Nat) : (text road m).all goodB = true := by
  have h1 := repB_all m [91] rfl
  have h2 := repB_all m [93] rfl
  have h3 := repB_all m [125] rfl
  have h4 := repB_all m [123, 98, 58] rfl
  have h5 := repB_all m [123, 97] rfl
  have h6 := repB_all m [46, 46, 46, 123] rfl
  have h7 := repB_all m [46, 46, 46, 111, 110, 32, 84, 123] rfl
  rcases road with _ | _ | _ | _ | _ | _ | _ | road <;> simp only [text, List.all_append, h1, h2, h3, h4, h5, h6, h7] <;> rfl

theorem good_asc {u : Bs} (h : u.all goodB = true) : AllAsc u := fun c hc => by
  have := List.all_eq_true.1 h c hc
  simp [goodB] at this
  omega
theorem good_no {u : Bs} (h : u.all goodB = true) : (92 : UInt8) ∉ u := fun hc => by
  have := List.all_eq_true.1 h 92 hc
  revert this; decide

theorem repB_len (m : Nat) (l : Bs) : (repB m l).length = m * l.length := by simp [repB]

theorem text_len (road m : Nat) (hm : m ≤ 1200) : (text road m).length ≤ 100000 := by
  rcases road with _ | _ | _ | _ | _ | _ | _ | road <;> simp only [text, List.length_append, repB_len, List.length_cons, List.length_nil] <;> omega

end Go.Proofs.YtobiaaabikfglaaGreatDoor

/-
  A text so many times: times by a contract. No conditions but lengths.
-/
namespace Go.Proofs.YtobiaaabikfglaaGreatDoor
open Go.RowKit Go.Proofs.YtobiaaabikfglaaGreatDoor.Pq Go.Lib

theorem repB_snoc (m : Nat) (l : Bs) : repB (m + 1) l = repB m l ++ l := by simp [repB, List.replicate_succ', List.flatten_append]

theorem strCells_bytes (s : ByteArray) : strCells s = s.data.toList.map byteV := rfl

/-- its own row as text -/
theorem own_str {w : World} {base n : Nat} {v : Value} {l : Bs} (h : w.ownsRow base 5 1 v n (l.map byteV)) :
    (convert 34 9 v).run Tryz.prog w = .ok (.string ⟨l.toArray⟩) w := by
  have hl : n = l.length := by have := h.1; simp at this; exact this.symm
  subst hl
  rcases h.2 with ⟨rfl, h2⟩ | ⟨g, cap, cur, rfl, _, hg, _, _, _, ht⟩
  · have : l = [] := by simpa using h2
    subst this
    exact run_convert_bytes_nil w _ 5 Tryz.underlying34 Tryz.underlying5 0 0 _ Tryz.underlying9
  · exact run_str ⟨g, 0, none⟩ cap l w (h.cells (g := g) rfl)

set_option maxRecDepth 100000 in
set_option maxHeartbeats 4000000 in
theorem times_any (m : Nat) (s : ByteArray) (w : World) (hm : m ≤ 1200) (hs : s.size ≤ 100) :
    Calls Tryz.prog 4 #[.int .i64 m, .string s] w fun e w' => e = .returned (.string ⟨(repB m s.data.toList).toArray⟩) ∧ Below w.heap.size w w' := by
  obtain ⟨i0, hi, hz0, hz1, hz2⟩ := info_parts (by kernel_rfl : (Tryz.prog.info? 5).map (fun i => (i.zero, i.size, i.bytes)) = some (some (.int .u8 0), 1, 1))
  have hm1 : (m : Int) * (s.size : Int) = ((m * s.size : Nat) : Int) := by push_cast; rfl
  have hm2 : m * s.size ≤ 120000 := Nat.mul_le_mul hm hs
  obtain ⟨K, hK⟩ : ∃ K, K = m * s.size := ⟨_, rfl⟩
  rw [← hK] at hm1 hm2
  have hwr : IntKind.i64.wrap ((m : Int) * (s.size : Int)) = (K : Int) := by
    rw [hm1]
    first | go_num | (simp [IntKind.wrap, IntKind.bits]; omega)
  go_enter Tryz.func4, Tryz.ntmps4
  go_wp2_with fail
  unfold Oper.wp
  simp [execOp, go_sem, Act.eval, hwr]
  go_wp2_with (first | (at_make; refine wpList_make_own _ rfl _ _ 34 rfl w.heap.size 5 i0 (.int .u8 0) 1 Tryz.underlying34 hi hz0 hz1 _ _ _ K rfl rfl rfl (by rw [hz2]; omega) (by unfold maxLen; omega) (Nat.le_refl _) ?_))
  intro w1 hown hgrow
  simp only [Act.put, List.setIfInBounds_toArray, List.set_cons_zero, List.set_cons_succ]
  have hb1 : Below w.heap.size w w1 := below_grown (.refl _ _) hgrow (fun k h => by cases h)
  have H1 := Lib.hid (And.intro hb1 hown)
  clear hb1 hown hgrow
  go_wp2_with fail
  go_loopg [5, 12] m (fun k v i wr => ∃ j : Nat, j + k = m ∧ i = .int .i64 j ∧ wr.ownsRow w.heap.size 5 1 v (j * s.size) ((repB j s.data.toList).map byteV) ∧ Below w.heap.size w wr)
  case atStart => exact ⟨0, by simp, rfl, by simpa [repB] using H1.out.2, H1.out.1⟩
  case round =>
    obtain ⟨j, hsum, rfl, hown, hb⟩ := hrel
    cases gk with
    | zero =>
      obtain rfl : j = m := by omega
      have hcv := own_str hown
      clear hown
      go_wp2_with fail
      go_ret
      exact ⟨rfl, hb⟩
    | succ k =>
      have hsz : j * s.size + s.size ≤ 120000 := by
        have : (j + 1) * s.size ≤ 1200 * 100 := Nat.mul_le_mul (by omega) hs
        rw [Nat.succ_mul] at this
        omega
      have H := Lib.hid (And.intro hown hb)
      clear hown hb
      go_wp2_with (first | (at_builtin; refine wpList_append_own_string _ rfl _ _ 34 9 rfl w.heap.size 5 i0 Tryz.underlying34 Tryz.underlying9 hi hz0 hz1 hz2 _ _ _ rfl H.out.1 s rfl (by unfold maxLen; omega) (by omega) H.out.2.size ?_))
      intro v2 w2 hown2 hgrow2 _
      simp only [Act.put, List.setIfInBounds_toArray, List.set_cons_zero, List.set_cons_succ]
      have hb2 : Below w.heap.size w w2 := below_grown H.out.2 hgrow2 (fun k hk => (H.out.1.lt k hk).1)
      have ho2 : w2.ownsRow w.heap.size 5 1 v2 ((j + 1) * s.size) ((repB (j + 1) s.data.toList).map byteV) := by
        rw [repB_snoc, List.map_append, Nat.succ_mul, ← strCells_bytes]
        exact hown2
      have H2 := Lib.hid (And.intro ho2 hb2)
      clear hown2 hgrow2 ho2 hb2
      go_wp2_with fail
      go_roundg k
      case measure => omega
      case rel => exact ⟨j + 1, by omega, by go_num, H2.out.1, H2.out.2⟩

end Go.Proofs.YtobiaaabikfglaaGreatDoor
