/-
  The scanner's buffer for a token's text (bytes.Buffer within the scanner's struct): Reset, Len, grow, Write, String. No conditions but lengths.
-/
import Derived.Test.YtobiaaabikfglaaGreatDoorR03
import Derived.Laws.MakeOwn
import Derived.Lib.BufferAt
namespace Go.Proofs.YtobiaaabikfglaaGreatDoor
open Go.RowKit Go.Proofs.YtobiaaabikfglaaGreatDoor.Pq

theorem isReset (S R : Nat) (s : Sc) (ta : Bs) (w : World) (h : ScAt w S s) (ht : TbOk w S R s.tb ta) :
    Calls Tryz.prog 47 #[.pointer (some ⟨S, 1033, none⟩)] w fun e w' => e = .returned (.tuple #[]) ∧ ∃ tb', ScAt w' S { s with tb := tb', tbl := 0 } ∧ TbOk w' S R tb' [] ∧ rowOf tb' = rowOf s.tb ∧ Fr [S] w [S] w' := by
  have c0 := h.named.tb
  have c4 : ∀ o, w.frozen? ⟨S, o, none⟩ = false := h.bl.free
  have c1 := h.named.tbo
  have c2 := h.named.tbl
  have H := Lib.hid h
  have HT := Lib.hid ht
  generalize htb : s.tb = tb at *
  cases ht with
  | none =>
    clear h
    go_enter Tryz.func47, Tryz.ntmps47
    go_wp2_with fail
    go_end0
    refine ⟨rfl, .slice none 0 0, ?_, .none, rfl, ?_⟩
    · exact ((H.out.set_tb _).set_tbo).set_tbl 0
    · exact (((Fr.refl _ _).set (.inl (by simp)) _).set (.inl (by simp)) _).set (.inl (by simp)) _
  | row T cs acc hb h1 h2 h3 h4 h5 =>
    clear h
    have HB := Lib.hid (And.intro hb (And.intro h3 (And.intro h4 h5)))
    clear hb h3 h4 h5
    go_enter Tryz.func47, Tryz.ntmps47
    go_wp2_with fail
    go_end0
    obtain ⟨hb, h3, h4, h5⟩ := HB.out
    refine ⟨rfl, .slice (some ⟨T, 0, none⟩) 0 64, ?_, .row T cs [] ?_ h1 (by simp) (by simp) h4 h5, rfl, ?_⟩
    · exact ((H.out.set_tb _).set_tbo).set_tbl 0
    · exact ((hb.far h4 _).far h4 _).far h4 _
    · exact (((Fr.refl _ _).set (.inl (by simp)) _).set (.inl (by simp)) _).set (.inl (by simp)) _

theorem isLen (S : Nat) (s : Sc) (ao : Option Addr) (l c : Nat) (w : World) (h : ScAt w S s) (ht : s.tb = .slice ao l c) (hl : l ≤ 1000000) :
    Calls Tryz.prog 73 #[.pointer (some ⟨S, 1033, none⟩)] w fun e w' => e = .returned (.int .i64 l) ∧ ∃ n, w' = w.drewN n := by
  have c0 := h.named.tb
  have c1 := h.named.tbo
  rw [ht] at c0
  clear h
  go_enter Tryz.func73, Tryz.ntmps73
  go_wp2_with fail
  go_quiet (fail)
  go_wp2_with fail
  go_ret
  exact ⟨by simp, _, rfl⟩

theorem ScAt.frz {w : World} {S : Nat} {s : Sc} (h : ScAt w S s) (o : Obj) (i : Nat) : (w.alloc o).frozen? ⟨S, i, none⟩ = false := (h.alloc o).bl.free i

set_option maxRecDepth 100000 in
set_option maxHeartbeats 1000000 in
theorem isGrow (S n : Nat) (s : Sc) (w : World) (h : ScAt w S s) (ht : s.tb = .slice none 0 0) (hn : 1 ≤ n) (h64 : n ≤ 64) :
    Calls Tryz.prog 104 #[.pointer (some ⟨S, 1033, none⟩), .int .i64 n] w fun e w' => e = .returned (.int .i64 0) ∧ ∃ T cs, ScAt w' S { s with tb := .slice (some ⟨T, 0, none⟩) n 64 } ∧ Bl w' T cs 5 ∧ cs.size = 64 ∧ w.heap.size ≤ T ∧ Fr [S] w [S] w' := by
  obtain ⟨i0, hi, hz0, hz1, hz2⟩ := info_parts (by kernel_rfl : (Tryz.prog.info? 5).map (fun i => (i.zero, i.size, i.bytes)) = some (some (.int .u8 0), 1, 1))
  obtain ⟨M, hM⟩ : ∃ M, M = madeCells (Value.int .u8 0).cells ((64 : Int).toNat * i0.size) := ⟨_, rfl⟩
  have hMs : M.size = 64 := by rw [hM, size_madeCells, hz1]; rfl
  have hmk : ∀ W : World, (Instr.makeSlice 34 (.int .i64 (n : Int)) (.int .i64 64)).run Tryz.prog W = .ok (.slice (some ⟨W.heap.size, 0, none⟩) n 64) (W.alloc (.cells M 5)) := fun W => by
    have h := run_makeSlice (P := Tryz.prog) W 34 5 i0 (.int .u8 0) Tryz.underlying34 hi hz0 .i64 .i64 (n : Int) 64 (by omega) (by omega) (by rw [hz1]; decide) (by rw [hz2]; decide) (by decide)
    rw [← hM] at h
    simpa using h
  clear hM
  have hnil : ∀ W, (binOp .eql 34 (.slice none 0 0) (.slice none 0 0)).run Tryz.prog W = .ok (.bool true) W := fun W => Lib.run_eql_slice_nil_nil W _ _ Tryz.underlying34
  go_enter Tryz.func104, Tryz.ntmps104
  go_wp2_with (go_at_call 73; refine (isLen S s none 0 0 _ h ht (by omega)).mono ?_)
  rintro e W0 ⟨rfl, k, hW0⟩
  have hs0 : ScAt W0 S s := by rw [hW0]; exact h.drewN k
  have hF0 : Fr [S] w [S] W0 := by rw [hW0]; exact (Fr.refl _ _).drewN k
  have hz : w.heap.size = W0.heap.size := by rw [hW0]; rfl
  have c0 : W0.cell? ⟨S, 1033, none⟩ = some (.slice none 0 0) := by rw [hs0.named.tb, ht]
  have c1 : W0.cell? ⟨S, 1034, none⟩ = some (.int .i64 0) := hs0.named.tbo
  have f0 : W0.frozen? ⟨S, 1033, none⟩ = false := hs0.bl.free _
  have c0a : ∀ o, (W0.alloc o).cell? ⟨S, 1033, none⟩ = some (.slice none 0 0) := fun o => by rw [(hs0.alloc o).named.tb, ht]
  have f0a : ∀ o, (W0.alloc o).frozen? ⟨S, 1033, none⟩ = false := fun o => hs0.frz o _
  have H := Lib.hid (And.intro hs0 hF0)
  clear hW0 h hs0 hF0
  go_wp2_with (go_at_call 103; refine (Tryz.Buffer_tryGrow_none_at S 1033 _ 0 0 n _ c0 (Nat.le_refl _) (Nat.zero_le _) (by omega)).mono ?_; rintro e w' ⟨rfl, rfl⟩)
  go_ret
  obtain ⟨hs0, hF0⟩ := H.out
  exact ⟨rfl, w'.heap.size, M, (hs0.alloc _).set_tb _, (Bl.new w' M 5).far (fun e => by have := hs0.bl.lt; simp at e; omega) _, hMs, by omega, (hF0.alloc _).set (.inl (by simp)) _⟩

theorem ScAt.seg {w : World} {S : Nat} {s : Sc} (h : ScAt w S s) (p n : Nat) : ∀ j v, (((s.buf.drop p).take n).map byteV)[j]? = some v → w.cell? ((⟨S, 1 + p, none⟩ : Addr).add j) = some v := by
  intro j v hj
  rw [Lib.addr_add, show 1 + p + j = 1 + (p + j) from by omega]
  rw [List.getElem?_map, List.getElem?_take] at hj
  split at hj
  · rw [List.getElem?_drop] at hj
    cases hc : s.buf[p + j]? with
    | none => simp [hc] at hj
    | some c => simp [hc] at hj; subst hj; exact h.byte hc
  · simp at hj

theorem bytes_one (l : Bs) : ∀ v ∈ l.map byteV, v.oneCell' = true := by
  intro v hv
  obtain ⟨b, _, rfl⟩ := List.mem_map.1 hv
  rfl

/-- 'copy(row[o:], buf[p:p+n])' -/
theorem run_copy_tok (S T o o' p n dn dc sc : Nat) (s : Sc) (cs : Array Value) (w : World) (h : ScAt w S s) (hb : Bl w T cs 5) (ho : o + n ≤ cs.size) (hp : p + n ≤ 1025) (ho' : o' = o) (hdn : dn = n) :
    (Builtin.copy_ #[34, 34] 3 #[.slice (some ⟨T, o', none⟩) dn dc, .slice (some ⟨S, 1 + p, none⟩) n sc]).run Tryz.prog w =
      .ok (.int .i64 n) (w.setRow T (cs.toList.take o ++ ((s.buf.drop p).take n).map byteV ++ cs.toList.drop (o + n)).toArray) := by
  subst ho' hdn
  have hl : (((s.buf.drop p).take dn).map byteV).length = dn := by simp [h.len]; omega
  have := run_copy_row (P := Tryz.prog) w 34 34 3 5 T o' dn dc ⟨S, 1 + p, none⟩ dn sc cs 5 (((s.buf.drop p).take dn).map byteV) Tryz.underlying34 (by kernel_rfl) hb (by rw [hl]; exact (Nat.min_self dn).symm)
    (h.seg p dn) (by rw [hl]; exact ho) (bytes_one _)
  rw [hl] at this
  exact this

/-- .. of nothing, to nothing -/
theorem run_copy_no (S p c : Nat) (w : World) :
    (Builtin.copy_ #[34, 34] 3 #[.slice none 0 0, .slice (some ⟨S, 1 + p, none⟩) 0 c]).run Tryz.prog w = .ok (.int .i64 0) w := by
  have hs : ((Tryz.prog.info? 5).map (·.size)).isSome = true := by kernel_rfl
  cases hq : Tryz.prog.info? 5 with
  | none => simp [hq] at hs
  | some i => simp [Builtin.copy_, run_underlying Tryz.underlying34, Builtin.lenOf, Builtin.firstCells, sizeOf, typeInfo, hq, loadCells, loadCellsFrom]; rfl

theorem row_after (w : World) (T o n : Nat) (cs : Array Value) (ta xs : Bs) (hb : Bl w T cs 5) (hs : cs.size = 64) (hx : xs.length = n) (hn : o + n ≤ 64) (ht : cs.toList.take o = ta.map byteV) :
    ∃ cs', Bl (w.setRow T (cs.toList.take o ++ xs.map byteV ++ cs.toList.drop (o + n)).toArray) T cs' 5 ∧ cs'.size = 64 ∧ cs'.toList.take (ta ++ xs).length = (ta ++ xs).map byteV := by
  refine ⟨_, setRow_heap w T cs _ _ (0, 0) hb, ?_, ?_⟩
  · simp [hs, hx]; omega
  · rw [ht, List.map_append, List.toList_toArray, List.take_append_of_le_length (by simp), List.take_of_length_le (by simp)]

set_option maxRecDepth 100000 in
set_option maxHeartbeats 1000000 in
theorem isWrite (S R p n c : Nat) (s : Sc) (ta : Bs) (w : World) (h : ScAt w S s) (ht : TbOk w S R s.tb ta) (hR : R < w.heap.size) (hp : p + n ≤ 1025) (hn : ta.length + n ≤ 63) :
    Calls Tryz.prog 79 #[.pointer (some ⟨S, 1033, none⟩), .slice (some ⟨S, 1 + p, none⟩) n c] w fun e w' => e = .returned (.tuple #[.int .i64 n, .nilIface]) ∧ ∃ tb', ScAt w' S { s with tb := tb', tbl := 0 } ∧
      TbOk w' S R tb' (ta ++ (s.buf.drop p).take n) ∧ Fr (S :: rowOf s.tb) w (S :: rowOf tb') w' := by
  have f0 : w.frozen? ⟨S, 1035, none⟩ = false := h.bl.free _
  have c0 := h.named.tbl
  have hl : ((s.buf.drop p).take n).length = n := by simp [h.len]; omega
  have HL := Lib.hid hl
  clear hl
  have h2 := h.set_tbl 0
  have HF : Fr (S :: rowOf s.tb) w (S :: rowOf s.tb) (w.setCell ⟨S, 1035, none⟩ (.int .i8 0)) := (Fr.refl _ _).set (.inl (by simp)) _
  generalize htb : s.tb = tb at *
  cases ht with
  | none =>
    have d0 := h2.named.tb
    have g0 : (w.setCell ⟨S, 1035, none⟩ (.int .i8 0)).frozen? ⟨S, 1033, none⟩ = false := h2.bl.free _
    by_cases hz : n = 0
    · subst hz
      have H := Lib.hid (And.intro h2 HF)
      clear h2 HF h
      have hcp := run_copy_no S p c
      go_enter Tryz.func79, Tryz.ntmps79
      go_wp2_with (
        go_at_call 103
        refine (Tryz.Buffer_tryGrow_room_at S 1033 none 0 0 0 _ d0 g0 (Nat.le_refl _) (Nat.zero_le _) (Nat.le_refl _)).mono ?_
        rintro e w1 ⟨rfl, hw1⟩
        obtain ⟨h2, HF⟩ := H.out
        have h3' := h2.set_tb (.slice none 0 0)
        have HF1 := HF.set (p := ⟨S, 1033, none⟩) (.inl (by simp)) (.slice none 0 0)
        rw [← hw1] at h3' HF1
        have e0 : w1.cell? ⟨S, 1033, none⟩ = some (.slice none 0 0) := h3'.named.tb
        clear h2 HF hw1 d0 g0 H f0 c0
        have H1 := Lib.hid (And.intro h3' HF1)
        clear h3' HF1)
      go_ret2
      obtain ⟨h3', HF1⟩ := H1.out
      exact ⟨rfl, .slice none 0 0, h3', by simpa using TbOk.none, HF1⟩
    · have H := Lib.hid (And.intro h2 HF)
      clear h2 HF h
      go_enter Tryz.func79, Tryz.ntmps79
      go_wp2_with (first
        | (go_at_call 103
           refine (Tryz.Buffer_tryGrow_none_at S 1033 none 0 0 n _ d0 (Nat.le_refl _) (Nat.zero_le _) (by omega)).mono ?_
           rintro e w1 ⟨rfl, rfl⟩)
        | (go_at_call 104
           refine (isGrow S n _ _ H.out.1 rfl (by omega) (by simp at hn; omega)).mono ?_
           rintro e w1 ⟨rfl, T, cs, k1, k2, k3, k4, k5⟩
           have e0 : w1.cell? ⟨S, 1033, none⟩ = some (.slice (some ⟨T, 0, none⟩) n 64) := k1.named.tb
           have hcp := run_copy_tok S T 0 0 p n n 64 c _ cs w1 k1 k2 (by simp at hn; omega) hp rfl rfl
           have HH := Lib.hid (And.intro k1 (And.intro k2 (And.intro k4 k5)))
           clear k1 k2 k4 k5))
      go_ret2
      obtain ⟨k1, k2, k4, k5⟩ := HH.out
      have hsz : (w.setCell ⟨S, 1035, none⟩ (.int .i8 0)).heap.size = w.heap.size := by simp [World.setCell]
      have hSl : S < w.heap.size := by have := H.out.1.bl.lt; omega
      have q1 : T ≠ S := by omega
      have q2 : T ≠ R := by omega
      obtain ⟨cs', m1, m2, m3⟩ := row_after w1 T 0 n cs [] ((s.buf.drop p).take n) k2 k3 HL.out (by simp at hn; omega) (by simp)
      refine ⟨rfl, .slice (some ⟨T, 0, none⟩) n 64, ⟨k1.len, ?_⟩, ?_, ?_⟩
      · exact (setRow_other _ _ _ _ (fun e => q1 e.symm)).trans k1.bl
      · have := TbOk.row T cs' _ m1 m2 (by rw [List.length_append, HL.out]; simp at hn ⊢; omega) m3 q1 q2 (S := S) (R := R)
        rw [List.nil_append, HL.out] at this
        simpa using this
      · have g1 : Fr [S] w [S] w1 := ((Fr.refl _ _).set (.inl (by simp)) _).trans k5
        refine ⟨⟨g1.kept.os, g1.kept.tape, g1.kept.output, by simpa [World.setRow] using g1.kept.size, fun k hk hm => ?_⟩, fun k hk => ?_⟩
        · simp only [rowOf, List.mem_cons, List.not_mem_nil, or_false] at hm
          exact (setRow_other _ _ _ _ (by omega)).trans (g1.kept.block k hk (by simp [hm]))
        · simp only [rowOf, List.mem_cons, List.not_mem_nil, or_false] at hk
          rcases hk with rfl | rfl
          · exact .inl (by simp)
          · exact .inr (by omega)
  | row T cs _ hb h1 h3 h4 h5 h6 =>
    have hbW := hb.far (p := ⟨S, 1035, none⟩) h5 (.int .i8 0)
    have d0 := h2.named.tb
    have g0 : (w.setCell ⟨S, 1035, none⟩ (.int .i8 0)).frozen? ⟨S, 1033, none⟩ = false := h2.bl.free _
    have H := Lib.hid (And.intro h2 (And.intro HF hbW))
    clear h2 HF hbW hb h
    go_enter Tryz.func79, Tryz.ntmps79
    go_wp2_with (
      go_at_call 103
      refine (Tryz.Buffer_tryGrow_room_at S 1033 _ ta.length 64 n _ d0 g0 h3 (by decide) (by omega)).mono ?_
      rintro e w1 ⟨rfl, hw1⟩
      obtain ⟨h2, HF, hbW⟩ := H.out
      have h3' := h2.set_tb (.slice (some ⟨T, 0, none⟩) (ta.length + n) 64)
      have HF1 := HF.set (p := ⟨S, 1033, none⟩) (.inl (by simp)) (.slice (some ⟨T, 0, none⟩) (ta.length + n) 64)
      have hb1 := hbW.far (p := ⟨S, 1033, none⟩) h5 (.slice (some ⟨T, 0, none⟩) (ta.length + n) 64)
      rw [← hw1] at h3' HF1 hb1
      have e0 : w1.cell? ⟨S, 1033, none⟩ = some (.slice (some ⟨T, 0, none⟩) (ta.length + n) 64) := h3'.named.tb
      have hcp := run_copy_tok S T ta.length ta.length p n n (64 - ta.length) c _ cs w1 h3' hb1 (by omega) hp rfl rfl
      clear h2 HF hbW hw1 d0 g0 H f0 c0
      have H1 := Lib.hid (And.intro h3' (And.intro HF1 hb1))
      clear h3' HF1 hb1)
    go_ret2
    obtain ⟨h3', HF1, hb1⟩ := H1.out
    refine ⟨rfl, .slice (some ⟨T, 0, none⟩) (ta.length + n) 64, ⟨h3'.len, ?_⟩, ?_, ?_⟩
    · exact (setRow_other _ _ _ _ (fun e => h5 e.symm)).trans h3'.bl
    · obtain ⟨cs', k1, k2, k3⟩ := row_after w1 T ta.length n cs ta ((s.buf.drop p).take n) hb1 h1 HL.out (by omega) h4
      have := TbOk.row T cs' _ k1 k2 (by rw [List.length_append, HL.out]; omega) k3 h5 h6 (S := S) (R := R)
      rw [List.length_append, HL.out] at this
      simp only [h4, List.map_take, List.map_drop, List.append_assoc] at this
      exact this
    · exact HF1.trans ((fr_setRow w1 T _).wide (fun k hk => by simp at hk; simp [rowOf, hk]))

end Go.Proofs.YtobiaaabikfglaaGreatDoor
