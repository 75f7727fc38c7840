/-
  The lexer's small methods by contracts. No conditions but lengths.
-/
import Derived.Test.YtobiaaabikfglaaGreatDoorR08
import Derived.Defers
namespace Go.Proofs.YtobiaaabikfglaaGreatDoor
open Go.RowKit Go.Proofs.YtobiaaabikfglaaGreatDoor.Pq Go.Lib

theorem Lx.quiet {ad : Addr} {g w w' : World} {L S R : Nat} {s : Sc} {ms : List Nat} {k d : Int} (h : Lx ad g w L S R s ms k d) (hf : Fr [] w [] w') : Lx ad g w' L S R s ms k d ∧ Fr ms w ms w' := by
  have hf' := hf.wide (ms2 := ms) (by simp)
  exact ⟨⟨(hf.bl h.bl (by simp)).1, h.eqm, h.no, h.gd.fr hf'⟩, hf'⟩

theorem LexAt.quiet {ad : Addr} {g w w' : World} {L : Nat} {ms : List Nat} {d : Int} {ts : List Tok} (h : LexAt ad g w L ms d ts) (hf : Fr [] w [] w') : LexAt ad g w' L ms d ts := by
  obtain ⟨S, R, s, u, h1, h2, h3⟩ := h
  exact ⟨S, R, s, u, (h1.quiet hf).1, h2.away hf (by simp), h3⟩

theorem LexAt.lt {ad : Addr} {g w : World} {L : Nat} {ms : List Nat} {d : Int} {ts : List Tok} (h : LexAt ad g w L ms d ts) : ∀ k, k ∈ ms → k < w.heap.size := by
  obtain ⟨S, R, s, u, h1, h2, h3⟩ := h
  intro k hk
  rw [h1.eqm] at hk
  simp only [List.mem_cons] at hk
  rcases hk with rfl | hk
  · exact h1.bl.lt
  · exact h2.ahead.at_.lt k hk

/-- the parser gives up: a syntax error -/
def Errs (ad : Addr) (g : World) (L : Nat) (ms : List Nat) (w : World) (e : Ending) (w' : World) : Prop :=
  ∃ m ms' d' ts', e = .panicked [{ v := .iface 187 (.string m), recovered := false }] ∧ LexAt ad g w' L ms' d' ts' ∧ Fr ms w ms' w'

theorem lex_err (L : Nat) (m : ByteArray) (w : World) :
    Calls Tryz.prog 38 #[.pointer (some ⟨L, 0, none⟩), .string m] w fun e w' => e = .panicked [{ v := .iface 187 (.string m), recovered := false }] ∧ w = w' := by
  go_enter Tryz.func38, Tryz.ntmps38
  go_wp2_with fail
  exact ⟨rfl, rfl, rfl⟩

set_option maxRecDepth 100000 in
set_option maxHeartbeats 1000000 in
theorem lex_loc (ad : Addr) (g : World) (L : Nat) (ms : List Nat) (d : Int) (ts : List Tok) (w : World) (h : LexAt ad g w L ms d ts) :
    Calls Tryz.prog 34 #[.pointer (some ⟨L, 0, none⟩)] w fun e w' => (∃ l c : Int, e = .returned (.agg #[.int .i64 l, .int .i64 c])) ∧ Fr [] w [] w' := by
  obtain ⟨S, R, s, u, h1, h2, _⟩ := h
  obtain ⟨W, hW⟩ : ∃ W, W = w.alloc (.cells #[.int .i64 0, .int .i64 0] 47) := ⟨_, rfl⟩
  have c0 : W.cell? ⟨L, 0, none⟩ = some (.pointer (some ⟨S, 0, none⟩)) := by rw [hW]; exact (h1.bl.alloc _).cell 0
  have c1 : W.cell? ⟨S, 1046, none⟩ = some (.int .i64 s.lineP) := by rw [hW]; exact (h2.ahead.at_.sc.alloc _).named.lineP
  have c2 : W.cell? ⟨S, 1047, none⟩ = some (.int .i64 s.colP) := by rw [hW]; exact (h2.ahead.at_.sc.alloc _).named.colP
  have hb : Bl W w.heap.size #[.int .i64 0, .int .i64 0] 47 := by rw [hW]; exact Bl.new w _ _
  have e0 : W.cell? ⟨w.heap.size, 0, none⟩ = some (.int .i64 0) := hb.cell 0
  have e1 : W.cell? ⟨w.heap.size, 1, none⟩ = some (.int .i64 0) := hb.cell 1
  have f1 : ∀ o, W.frozen? ⟨w.heap.size, o, none⟩ = false := hb.free
  have HF : Hid (Fr [] w [] W ∧ w.heap.size ≤ w.heap.size) := by rw [hW]; exact Lib.hid ⟨(Fr.refl _ _).alloc _, Nat.le_refl _⟩
  clear h1 h2 hb
  go_enter Tryz.func34, Tryz.ntmps34
  go_wp2_with fail
  rw [← hW]
  obtain ⟨B, hB⟩ : ∃ B, B = w.heap.size := ⟨_, rfl⟩
  rw [← hB] at e0 e1 f1 ⊢
  have HF : Hid (Fr [] w [] W ∧ w.heap.size ≤ B) := Lib.hid ⟨HF.out.1, by omega⟩
  clear hW hB
  go_still_tail 17, (by kernel_rfl)
  go_wp2_with fail
  refine bodyPost_ret (v := .agg #[.int .i64 s.lineP, .int .i64 s.colP]) (by simp [results, Tryz.results34, go_sem, e0, e1]) rfl ⟨⟨_, _, rfl⟩, ?_⟩
  exact ((HF.out.1.set (.inr HF.out.2) _).set (.inr HF.out.2) _).drew

/-- ConsumeToken: the token is there -/
theorem lex_tok (ad : Addr) (g : World) (L : Nat) (ms : List Nat) (d : Int) (ts : List Tok) (k : Int) (w : World) (h : LexAt ad g w L ms d ts) (hk : (cur ts).kind = k) :
    Calls Tryz.prog 53 #[.pointer (some ⟨L, 0, none⟩), .int .i32 k] w fun e w' => e = .returned (.tuple #[]) ∧ ∃ ms', LexAt ad g w' L ms' d ts.tail ∧ Fr ms w ms' w' := by
  have c1 : w.cell? ⟨L, 1, none⟩ = some (.int .i32 k) := by obtain ⟨S, R, s, u, h1, _⟩ := h; rw [← hk]; exact h1.bl.cell 1
  have H := Lib.hid h
  clear h hk
  go_enter Tryz.func53, Tryz.ntmps53
  go_wp2_with (go_at_call 35; refine (lex_ws ad g L ms d ts.tail _ H.out.rdy).mono ?_; rintro e w1 ⟨rfl, h⟩; have HK := Lib.hid h; clear h)
  go_end0
  exact ⟨rfl, HK.out⟩

/-- ConsumeToken: it is not -/
theorem lex_tok_err (ad : Addr) (g : World) (L : Nat) (ms : List Nat) (d : Int) (ts : List Tok) (k : Int) (w : World) (h : LexAt ad g w L ms d ts) (hk : (cur ts).kind ≠ k) :
    Calls Tryz.prog 53 #[.pointer (some ⟨L, 0, none⟩), .int .i32 k] w (Errs ad g L ms w) := by
  have c1 : w.cell? ⟨L, 1, none⟩ = some (.int .i32 (cur ts).kind) := by obtain ⟨S, R, s, u, h1, _⟩ := h; exact h1.bl.cell 1
  have d1 : ((cur ts).kind == k) = false := by simpa using hk
  have d2 : ((cur ts).kind != k) = true := by simpa using hk
  have H := Lib.hid h
  clear h hk
  go_enter Tryz.func53, Tryz.ntmps53
  go_wp2_with (go_at_call 38; refine (lex_err L _ _).mono ?_; rintro e w1 ⟨rfl, rfl⟩)
  exact ⟨rfl, _, ms, d, ts, rfl, H.out, Fr.refl _ _⟩

end Go.Proofs.YtobiaaabikfglaaGreatDoor

/-
  The lexer's names and depth by contracts. No conditions but lengths.
-/
namespace Go.Proofs.YtobiaaabikfglaaGreatDoor
open Go.RowKit Go.Proofs.YtobiaaabikfglaaGreatDoor.Pq Go.Lib

abbrev str (l : Bs) : Value := .string ⟨l.toArray⟩

theorem lex_text {ad : Addr} {g : World} {L : Nat} {ms : List Nat} {d : Int} {ts : List Tok} {w : World} (h : LexAt ad g w L ms d ts) :
    ∃ S, w.cell? ⟨L, 0, none⟩ = some (.pointer (some ⟨S, 0, none⟩)) ∧ w.cell? ⟨L, 1, none⟩ = some (.int .i32 (cur ts).kind) ∧
      Calls Tryz.prog 55 #[.pointer (some ⟨S, 0, none⟩)] w fun e w' => e = .returned (str (cur ts).text) ∧ ∃ ms', LexAt ad g w' L ms' d ts ∧ Fr ms w ms' w' := by
  obtain ⟨S, R, s, u, h1, h2, h3, h4, h5⟩ := h
  refine ⟨S, h1.bl.cell 0, h1.bl.cell 1, (tok_text S R s _ u w h2 h5).mono ?_⟩
  rintro e w' ⟨rfl, s', k1, _, _, k4⟩
  obtain ⟨hL, hF⟩ := h1.fr k4
  exact ⟨rfl, _, ⟨S, R, s', u, hL, k1, h3, h4, h5⟩, hF⟩

theorem lex_ident (ad : Addr) (g : World) (L : Nat) (ms : List Nat) (d : Int) (ts : List Tok) (w : World) (h : LexAt ad g w L ms d ts) (hk : (cur ts).kind = -2) :
    Calls Tryz.prog 40 #[.pointer (some ⟨L, 0, none⟩)] w fun e w' => e = .returned (str (cur ts).text) ∧ ∃ ms', LexAt ad g w' L ms' d ts.tail ∧ Fr ms w ms' w' := by
  obtain ⟨S, c0, _, hT⟩ := lex_text h
  have HT := Lib.hid (And.intro hT hk)
  clear hT hk h
  go_enter Tryz.func40, Tryz.ntmps40
  go_wp2_with (first
    | (go_at_call 55; refine HT.out.1.mono ?_; rintro e w1 ⟨rfl, ms1, h1, h2⟩; have H1 := Lib.hid (And.intro h1 h2); clear h1 h2)
    | (go_at_call 53; refine (lex_tok ad g L ms1 d ts (-2) _ H1.out.1 HT.out.2).mono ?_; rintro e w2 ⟨rfl, ms2, h1, h2⟩; have H2 := Lib.hid (And.intro h1 h2); clear h1 h2))
  go_ret
  exact ⟨rfl, ms2, H2.out.1, H1.out.2.trans H2.out.2⟩

theorem lex_ident_err (ad : Addr) (g : World) (L : Nat) (ms : List Nat) (d : Int) (ts : List Tok) (w : World) (h : LexAt ad g w L ms d ts) (hk : (cur ts).kind ≠ -2) :
    Calls Tryz.prog 40 #[.pointer (some ⟨L, 0, none⟩)] w (Errs ad g L ms w) := by
  obtain ⟨S, c0, _, hT⟩ := lex_text h
  have HT := Lib.hid (And.intro hT hk)
  clear hT hk h
  go_enter Tryz.func40, Tryz.ntmps40
  go_wp2_with (first
    | (go_at_call 55; refine HT.out.1.mono ?_; rintro e w1 ⟨rfl, ms1, h1, h2⟩; have H1 := Lib.hid (And.intro h1 h2); clear h1 h2)
    | (go_at_call 53; refine (lex_tok_err ad g L ms1 d ts (-2) _ H1.out.1 HT.out.2).mono ?_; rintro e w2 ⟨m, ms2, d2, ts2, rfl, h1, h2⟩; have H2 := Lib.hid (And.intro h1 h2); clear h1 h2))
  exact ⟨rfl, m, ms2, d2, ts2, rfl, H2.out.1, H1.out.2.trans H2.out.2⟩

theorem LexAt.alloc {ad : Addr} {g w : World} {L : Nat} {ms : List Nat} {d : Int} {ts : List Tok} (h : LexAt ad g w L ms d ts) (o : Obj) : LexAt ad g (w.alloc o) L ms d ts := h.quiet ((Fr.refl _ _).alloc o)

theorem lex_text_a {ad : Addr} {g : World} {L : Nat} {ms : List Nat} {d : Int} {ts : List Tok} {w : World} (h : LexAt ad g w L ms d ts) :
    ∃ S, (∀ o, (w.alloc o).cell? ⟨L, 0, none⟩ = some (.pointer (some ⟨S, 0, none⟩))) ∧
      ∀ o, Calls Tryz.prog 55 #[.pointer (some ⟨S, 0, none⟩)] (w.alloc o) fun e w' => e = .returned (str (cur ts).text) ∧ ∃ ms', LexAt ad g w' L ms' d ts ∧ Fr ms (w.alloc o) ms' w' := by
  obtain ⟨S, R, s, u, h1, h2, h3, h4, h5⟩ := h
  have hf : ∀ o, Fr [] w [] (w.alloc o) := fun o => (Fr.refl _ _).alloc o
  refine ⟨S, fun o => (h1.quiet (hf o)).1.bl.cell 0, fun o => (tok_text S R s _ u (w.alloc o) (h2.away (hf o) (by simp)) h5).mono ?_⟩
  rintro e w' ⟨rfl, s', k1, _, _, k4⟩
  obtain ⟨hL, hF⟩ := (h1.quiet (hf o)).1.fr k4
  exact ⟨rfl, _, ⟨S, R, s', u, hL, k1, h3, h4, h5⟩, hF⟩

/-- a block that was made when the lexer stood stays, whatever the lexer does -/
theorem LexAt.keep {ad : Addr} {g w w' : World} {L : Nat} {ms ms' : List Nat} {d : Int} {ts : List Tok} (h : LexAt ad g w L ms d ts) {o : Obj} {cs : Array Value} {t : TypeId} (hb : Bl (w.alloc o) w.heap.size cs t) (hf : Fr ms (w.alloc o) ms' w') : Bl w' w.heap.size cs t ∧ w.heap.size ∉ ms' :=
  hf.bl hb (fun hk => Nat.lt_irrefl _ (h.lt _ hk))

theorem LexAt.base {ad : Addr} {g w : World} {L : Nat} {ms : List Nat} {d : Int} {ts : List Tok} (h : LexAt ad g w L ms d ts) : g.heap.size ≤ w.heap.size := by
  obtain ⟨S, R, s, u, h1, _⟩ := h
  exact h1.gd.below.size

/-- a store into a block of the parser's own -/
theorem LexAt.poke {ad : Addr} {g w : World} {L : Nat} {ms : List Nat} {d : Int} {ts : List Tok} (h : LexAt ad g w L ms d ts) {B : Nat} (hn : B ∉ ms) (hB : g.heap.size ≤ B) (i : Nat) (v : Value) : LexAt ad g (w.setCell ⟨B, i, none⟩ v) L ms d ts := by
  have hf : Fr [B] w [B] (w.setCell ⟨B, i, none⟩ v) := (Fr.refl _ _).set (.inl (by simp)) _
  obtain ⟨S, R, s, u, h1, h2, h3⟩ := h
  have hL : L ∉ [B] := fun e => hn (by simp at e; rw [← e, h1.eqm]; simp)
  have hms : ∀ k, k ∈ s.ms S R → k ∉ [B] := fun k hk e => hn (by simp at e; rw [← e, h1.eqm]; exact List.mem_cons_of_mem _ hk)
  exact ⟨S, R, s, u, ⟨(hf.bl h1.bl hL).1, h1.eqm, h1.no, ⟨h1.gd.gl, h1.gd.below.setCell (p := ⟨B, i, none⟩) hB v, h1.gd.hi⟩⟩, h2.away hf hms, h3⟩

set_option maxRecDepth 100000 in
set_option maxHeartbeats 1000000 in
theorem lex_name (ad : Addr) (g : World) (L : Nat) (ms : List Nat) (d : Int) (ts : List Tok) (w : World) (h : LexAt ad g w L ms d ts) (hk : (cur ts).kind = -2) :
    Calls Tryz.prog 56 #[.pointer (some ⟨L, 0, none⟩)] w fun e w' => (∃ l c : Int, e = .returned (.agg #[str (cur ts).text, .int .i64 l, .int .i64 c])) ∧ ∃ ms', LexAt ad g w' L ms' d ts.tail ∧ Fr ms w ms' w' := by
  have H := Lib.hid (And.intro h hk)
  clear h hk
  go_enter Tryz.func56, Tryz.ntmps56
  go_wp2_with (first
    | (go_at_call 34
       refine (lex_loc ad g L ms d ts _ (H.out.1.alloc _)).mono ?_
       rintro e w1 ⟨⟨l, c, rfl⟩, hf⟩
       have h1 := (H.out.1.alloc _).quiet hf
       have hb1 := (hf.bl (Bl.new w _ _) (by simp)).1
       obtain ⟨S, c0a, hTa⟩ := lex_text_a h1
       have H1 := Lib.hid (And.intro h1 (And.intro hf (And.intro hb1 hTa)))
       clear h1 hf hb1 hTa)
    | (go_at_call 55
       refine (H1.out.2.2.2 _).mono ?_
       rintro e w2 ⟨rfl, ms2, h2, hf2⟩
       have hb1 := hf2.bl (H1.out.2.2.1.alloc _) (fun hk => Nat.lt_irrefl _ (H.out.1.lt _ hk))
       have hb2 := H1.out.1.keep (Bl.new w1 _ _) hf2
       have H2 := Lib.hid (And.intro h2 (And.intro hf2 (And.intro hb1 hb2)))
       clear h2 hf2 hb1 hb2 c0a)
    | (go_at_call 53
       refine (lex_tok ad g L ms2 d ts (-2) _ H2.out.1 H.out.2).mono ?_
       rintro e w3 ⟨rfl, ms3, h3, hf3⟩
       have hb1 := (hf3.bl H2.out.2.2.1.1 H2.out.2.2.1.2).1
       have hb2 := (hf3.bl H2.out.2.2.2.1 H2.out.2.2.2.2).1
       have e0 := hb2.cell 0
       have e1 := hb2.cell 1
       have g0 := hb1.cell 0
       have g1 := hb1.cell 1
       have g2 := hb1.cell 2
       have f1 : ∀ o, w3.frozen? ⟨w.heap.size, o, none⟩ = false := hb1.free
       have H3 := Lib.hid (And.intro h3 (And.intro hf3 (hf3.bl H2.out.2.2.1.1 H2.out.2.2.1.2).2))
       clear h3 hf3 hb1 hb2))
  refine bodyPost_ret (v := .agg #[str (cur ts).text, .int .i64 l, .int .i64 c]) (by simp [results, Tryz.results56, go_sem, g0, g1, g2]) rfl ⟨⟨l, c, rfl⟩, ms3, ?_, ?_⟩
  · have hB := H.out.1.base
    exact ((H3.out.1.poke H3.out.2.2 hB _ _).poke H3.out.2.2 hB _ _).poke H3.out.2.2 hB _ _
  · have hF := (((Fr.refl ms w).alloc _).trans (H1.out.2.1.wide (fun k hk => by simp at hk))).trans ((((Fr.refl ms w1).alloc _).trans H2.out.2.1).trans H3.out.2.1)
    exact ((hF.set (.inr (Nat.le_refl _)) _).set (.inr (Nat.le_refl _)) _).set (.inr (Nat.le_refl _)) _

set_option maxRecDepth 100000 in
set_option maxHeartbeats 1000000 in
theorem lex_name_err (ad : Addr) (g : World) (L : Nat) (ms : List Nat) (d : Int) (ts : List Tok) (w : World) (h : LexAt ad g w L ms d ts) (hk : (cur ts).kind ≠ -2) :
    Calls Tryz.prog 56 #[.pointer (some ⟨L, 0, none⟩)] w (Errs ad g L ms w) := by
  have H := Lib.hid (And.intro h hk)
  clear h hk
  go_enter Tryz.func56, Tryz.ntmps56
  go_wp2_with (first
    | (go_at_call 34
       refine (lex_loc ad g L ms d ts _ (H.out.1.alloc _)).mono ?_
       rintro e w1 ⟨⟨l, c, rfl⟩, hf⟩
       have h1 := (H.out.1.alloc _).quiet hf
       obtain ⟨S, c0a, hTa⟩ := lex_text_a h1
       have H1 := Lib.hid (And.intro h1 (And.intro hf hTa))
       clear h1 hf hTa)
    | (go_at_call 55
       refine (H1.out.2.2 _).mono ?_
       rintro e w2 ⟨rfl, ms2, h2, hf2⟩
       have H2 := Lib.hid (And.intro h2 hf2)
       clear h2 hf2 c0a)
    | (go_at_call 53
       refine (lex_tok_err ad g L ms2 d ts (-2) _ H2.out.1 H.out.2).mono ?_
       rintro e w3 ⟨m, ms3, d3, ts3, rfl, h3, hf3⟩
       have H3 := Lib.hid (And.intro h3 hf3)
       clear h3 hf3))
  exact ⟨rfl, m, ms3, d3, ts3, rfl, H3.out.1, (((Fr.refl ms w).alloc _).trans (H1.out.2.1.wide (fun k hk => by simp at hk))).trans ((((Fr.refl ms w1).alloc _).trans H2.out.2).trans H3.out.2)⟩

set_option maxRecDepth 100000 in
set_option maxHeartbeats 1000000 in
/-- Descend: still within the bound -/
theorem lex_down (ad : Addr) (g : World) (L : Nat) (ms : List Nat) (d : Nat) (ts : List Tok) (w : World) (h : LexAt ad g w L ms d ts) (hd : d + 1 ≤ 1000) :
    Calls Tryz.prog 51 #[.pointer (some ⟨L, 0, none⟩)] w fun e w' => e = .returned (.tuple #[]) ∧ LexAt ad g w' L ms ((d + 1 : Nat) : Int) ts ∧ Fr ms w ms w' := by
  obtain ⟨S, R, s, u, h1, h2, h3⟩ := h
  have c1 : w.cell? ⟨L, 6, none⟩ = some (.int .i64 d) := h1.bl.cell 6
  have f1 : ∀ o, w.frozen? ⟨L, o, none⟩ = false := h1.bl.free
  have H := Lib.hid (And.intro h1 (And.intro h2 h3))
  clear h1 h2 h3
  go_enter Tryz.func51, Tryz.ntmps51
  go_wp2_with fail
  go_end0
  have hf : Fr [L] w [L] (w.setCell ⟨L, 6, none⟩ (.int .i64 ((d : Int) + 1))) := (Fr.refl _ _).set (.inl (by simp)) _
  obtain ⟨hL, hF⟩ := H.out.1.put (k' := (cur ts).kind) (d' := ((d + 1 : Nat) : Int)) hf (by have := H.out.1.bl.set 6 (.int .i64 ((d : Int) + 1)); simpa using this)
  exact ⟨rfl, ⟨S, R, s, u, hL, H.out.2.1.away hf (fun k hk e => hL.no (by simp at e; rw [← e]; exact hk)), H.out.2.2⟩, hF⟩

set_option maxRecDepth 100000 in
set_option maxHeartbeats 1000000 in
/-- .. beyond it -/
theorem lex_down_err (ad : Addr) (g : World) (L : Nat) (ms : List Nat) (d : Nat) (ts : List Tok) (w : World) (h : LexAt ad g w L ms d ts) (hd : ¬ d + 1 ≤ 1000) (hd2 : d ≤ 1000000) :
    Calls Tryz.prog 51 #[.pointer (some ⟨L, 0, none⟩)] w (Errs ad g L ms w) := by
  obtain ⟨S, R, s, u, h1, h2, h3⟩ := h
  have c1 : w.cell? ⟨L, 6, none⟩ = some (.int .i64 d) := h1.bl.cell 6
  have f1 : ∀ o, w.frozen? ⟨L, o, none⟩ = false := h1.bl.free
  have H := Lib.hid (And.intro h1 (And.intro h2 h3))
  clear h1 h2 h3
  go_enter Tryz.func51, Tryz.ntmps51
  go_wp2_with (go_at_call 38; refine (lex_err L _ _).mono ?_; rintro e w1 ⟨rfl, rfl⟩)
  have hf : Fr [L] w [L] (w.setCell ⟨L, 6, none⟩ (.int .i64 ((d : Int) + 1))) := (Fr.refl _ _).set (.inl (by simp)) _
  obtain ⟨hL, hF⟩ := H.out.1.put (k' := (cur ts).kind) (d' := ((d + 1 : Nat) : Int)) hf (by have := H.out.1.bl.set 6 (.int .i64 ((d : Int) + 1)); simpa using this)
  exact ⟨rfl, _, ms, _, ts, rfl, ⟨S, R, s, u, hL, H.out.2.1.away hf (fun k hk e => hL.no (by simp at e; rw [← e]; exact hk)), H.out.2.2⟩, hF⟩

set_option maxRecDepth 100000 in
set_option maxHeartbeats 1000000 in
/-- Ascend, deferred -/
theorem lex_up (ad : Addr) (g : World) (L : Nat) (ms : List Nat) (d : Int) (ts : List Tok) (u : FrameMode) (w : World) (h : LexAt ad g w L ms d ts) :
    CallsD Tryz.prog 52 #[.pointer (some ⟨L, 0, none⟩)] u w fun e u' w' => u' = u ∧ (e = .returned (.tuple #[]) ∧ LexAt ad g w' L ms (wrap64 (d - 1)) ts ∧ Fr ms w ms w') := by
  obtain ⟨S, R, s, v, h1, h2, h3⟩ := h
  have c1 : w.cell? ⟨L, 6, none⟩ = some (.int .i64 d) := h1.bl.cell 6
  have f1 : ∀ o, w.frozen? ⟨L, o, none⟩ = false := h1.bl.free
  have H := Lib.hid (And.intro h1 (And.intro h2 h3))
  clear h1 h2 h3
  go_enter_d Tryz.func52, Tryz.ntmps52
  go_wp2_with fail
  go_end0
  have hf : Fr [L] w [L] (w.setCell ⟨L, 6, none⟩ (.int .i64 (wrap64 (d - 1)))) := (Fr.refl _ _).set (.inl (by simp)) _
  obtain ⟨hL, hF⟩ := H.out.1.put (k' := (cur ts).kind) (d' := wrap64 (d - 1)) hf (H.out.1.bl.set 6 _)
  exact ⟨rfl, ⟨S, R, s, v, hL, H.out.2.1.away hf (fun k hk e => hL.no (by simp at e; rw [← e]; exact hk)), H.out.2.2⟩, hF⟩

end Go.Proofs.YtobiaaabikfglaaGreatDoor
