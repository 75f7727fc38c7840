/-
  The scanner's TokenText. No conditions but lengths.
-/
import Derived.Test.YtobiaaabikfglaaGreatDoorR07
namespace Go.Proofs.YtobiaaabikfglaaGreatDoor
open Go.RowKit Go.Proofs.YtobiaaabikfglaaGreatDoor.Pq Go.Lib

theorem run_str (a : Addr) (cap : Nat) (l : Bs) (w : World) (hc : ∀ j v, (l.map byteV)[j]? = some v → w.cell? (a.add j) = some v) :
    (convert 34 9 (.slice (some a) l.length cap)).run Tryz.prog w = .ok (.string ⟨l.toArray⟩) w :=
  run_convert_bytes_back w _ _ 5 a cap l Tryz.underlying34 Tryz.underlying5 Tryz.underlying9 (fun j hj => hc j _ (by simp [List.getElem?_eq_getElem hj, byteV]))

theorem Bl.row {w : World} {T : Nat} {cs : Array Value} {ta : Bs} (h : Bl w T cs 5) (hs : cs.toList.take ta.length = ta.map byteV) : ∀ j v, (ta.map byteV)[j]? = some v → w.cell? ((⟨T, 0, none⟩ : Addr).add j) = some v := by
  intro j v hj
  rw [Lib.addr_add, h.cell, Nat.zero_add]
  rw [← hs] at hj
  rw [List.getElem?_take] at hj
  split at hj
  · simpa using hj
  · simp at hj

theorem isStr (S T : Nat) (s : Sc) (cs : Array Value) (ta : Bs) (w : World) (h : ScAt w S s) (ht : s.tb = .slice (some ⟨T, 0, none⟩) ta.length 64) (hb : Bl w T cs 5) (hs : cs.toList.take ta.length = ta.map byteV) (_hl : ta.length ≤ 64) :
    Calls Tryz.prog 80 #[.pointer (some ⟨S, 1033, none⟩)] w fun e w' => e = .returned (.string ⟨ta.toArray⟩) ∧ ∃ n, w' = w.drewN n := by
  have c0 := h.named.tb
  have c1 := h.named.tbo
  rw [ht] at c0
  have hcv : ∀ n, (convert 34 9 (.slice (some ⟨T, 0, none⟩) ta.length 64)).run Tryz.prog (w.drewN n) = .ok (.string ⟨ta.toArray⟩) (w.drewN n) := fun n => run_str ⟨T, 0, none⟩ 64 ta _ ((hb.drewN n).row hs)
  clear h hb hs ht
  go_enter Tryz.func80, Tryz.ntmps80
  go_wp2_with fail
  go_quiet (fail)
  go_wp2_with fail
  go_ret
  exact ⟨rfl, _, rfl⟩

theorem TbOk.is_row {w : World} {S R : Nat} {v : Value} {l : Bs} (h : TbOk w S R v l) (hl : l ≠ []) :
    ∃ T cs, v = .slice (some ⟨T, 0, Option.none⟩) l.length 64 ∧ Bl w T cs 5 ∧ cs.size = 64 ∧ l.length ≤ 64 ∧ cs.toList.take l.length = l.map byteV ∧ T ≠ S ∧ T ≠ R := by
  cases h with
  | none => exact absurd rfl hl
  | row T cs acc h1 h2 h3 h4 h5 h6 => exact ⟨T, cs, rfl, h1, h2, h3, h4, h5, h6⟩

/-- where a token's text lies -/
theorem Tokd.parts {w : World} {S R : Nat} {s : Sc} {t u : Bs} (h : Tokd w S R s t u) :
    ∃ (ta : Bs) (p e : Nat), TbOk w S R s.tb ta ∧ s.tokPos = p ∧ s.tokEnd = e ∧ p ≤ e ∧ e ≤ s.pos ∧ s.pos ≤ 1024 ∧ t = ta ++ (s.buf.drop p).take (e - p) ∧ u.take 1 = (s.buf.drop e).take (s.pos - e) ∧ ((s.buf.drop p).take (e - p)).length = e - p := by
  obtain ⟨ta, h1, h2⟩ := h.ahead.at_.tb
  have h3 := h.ahead.last
  have h4 := h.tok
  have h5 := h.fin
  have h6 := h.ahead.at_.le
  have h7 := h.ahead.at_.le2
  have h8 := h.ahead.at_.sc.len
  have a1 := h3.len
  have a2 := h3.le
  have a3 := h3.tp
  rcases h2 with h2 | ⟨p, h2, h9, h10⟩
  · omega
  · have e1 : s.pos - s.lcl = s.pos - (u.take 1).length := by rw [a1]
    have hpe : p ≤ s.pos - s.lcl := by omega
    have hlast : u.take 1 = (s.buf.drop (s.pos - s.lcl)).take (s.pos - (s.pos - s.lcl)) := by
      rw [show s.pos - (s.pos - s.lcl) = (u.take 1).length from by omega, e1]
      exact h3.at_.symm
    refine ⟨ta, p, s.pos - s.lcl, h1, h2, by omega, hpe, by omega, by omega, ?_, hlast, by simp [h8]; omega⟩
    have hsplit : (s.buf.drop p).take (s.pos - p) = (s.buf.drop p).take (s.pos - s.lcl - p) ++ (s.buf.drop (s.pos - s.lcl)).take (s.pos - (s.pos - s.lcl)) := by
      rw [show s.pos - p = (s.pos - s.lcl - p) + (s.pos - (s.pos - s.lcl)) from by omega, List.take_add, List.drop_drop, show p + (s.pos - s.lcl - p) = s.pos - s.lcl from by omega]
    rw [hsplit, ← hlast, ← List.append_assoc] at h10
    exact List.append_cancel_right h10

set_option maxRecDepth 100000 in
set_option maxHeartbeats 4000000 in
theorem tok_text (S R : Nat) (s : Sc) (t u : Bs) (w : World) (h : Tokd w S R s t u) (hl : t.length ≤ 60) :
    Calls Tryz.prog 55 #[.pointer (some ⟨S, 0, none⟩)] w fun e w' => e = .returned (.string ⟨t.toArray⟩) ∧ ∃ s', Tokd w' S R s' t u ∧ s'.err = s.err ∧ s'.ec = s.ec ∧ Fr (s.ms S R) w (s'.ms S R) w' := by
  obtain ⟨ta, p, e, h1, h2, h3, h4, h5, h6, h7, h8, h9⟩ := h.parts
  have hsc := h.ahead.at_.sc
  have c0 : w.cell? ⟨S, 1036, none⟩ = some (.int .i64 p) := by rw [← h2]; exact hsc.named.tokPos
  have c1 : w.cell? ⟨S, 1037, none⟩ = some (.int .i64 e) := by rw [← h3]; exact hsc.named.tokEnd
  have d0 : ¬ (p : Int) < 0 := by omega
  have d1 : ¬ e < p := by omega
  have hlen : ta.length + (e - p) = t.length := by rw [h7, List.length_append, h9]
  rcases ta with _ | ⟨x, ta⟩
  · have hv : ∃ ao c, s.tb = .slice ao 0 c := by
      generalize s.tb = v at *
      cases h1 with
      | none => exact ⟨_, _, rfl⟩
      | row T cs acc _ _ _ _ _ _ => exact ⟨_, _, rfl⟩
    obtain ⟨ao, c, hv⟩ := hv
    rw [List.nil_append] at h7
    have hcv : ∀ W : World, ScAt W S s → (convert 34 9 (.slice (some ⟨S, 1 + p, none⟩) (e - p) (1025 - p))).run Tryz.prog W = .ok (.string ⟨t.toArray⟩) W := fun W hW => by
      have := run_str ⟨S, 1 + p, none⟩ (1025 - p) t W (by rw [h7]; exact hW.seg p (e - p))
      rwa [show t.length = e - p from by rw [h7]; exact h9] at this
    have H := Lib.hid (And.intro h (And.intro hsc (And.intro hv hcv)))
    clear h hsc hv h1 h2 h3 h7 h8 h9 hcv hlen
    have hsub := run_sub S p e h4 (by omega) (by omega)
    go_enter Tryz.func55, Tryz.ntmps55
    go_wp2_with fail
    go_quiet (fail)
    go_wp2_with (
      go_at_call 73
      refine (isLen S s ao 0 c _ (H.out.2.1.drewN _) H.out.2.2.1 (by decide)).mono ?_
      rintro e w1 ⟨rfl, n1, hw1⟩
      have HT : Hid (ScAt w1 S s ∧ Tokd w1 S R s t u ∧ Fr (s.ms S R) w (s.ms S R) w1) := by
        have hf : Fr [] w [] w1 := by rw [hw1]; exact ((Fr.refl _ _).drewN _).drewN _
        exact Lib.hid ⟨H.out.2.1.fr hf, ⟨⟨H.out.1.ahead.at_.own0 (hf.wide (by simp)) (H.out.2.1.fr hf) rfl rfl rfl rfl rfl rfl, H.out.1.ahead.last⟩, H.out.1.ch, H.out.1.tok, H.out.1.fin⟩, hf.wide (by simp)⟩
      have e0 : w1.cell? ⟨S, 1036, none⟩ = some (.int .i64 p) := by rw [hw1]; exact c0
      have e1 : w1.cell? ⟨S, 1037, none⟩ = some (.int .i64 e) := by rw [hw1]; exact c1
      have hcv : ∀ n, (convert 34 9 (.slice (some ⟨S, 1 + p, none⟩) (e - p) (1025 - p))).run Tryz.prog (w1.drewN n) = .ok (.string ⟨t.toArray⟩) (w1.drewN n) := fun n => H.out.2.2.2 _ (HT.out.1.drewN n)
      clear c0 c1 hw1)
    go_quiet (fail)
    go_wp2_with fail
    go_ret
    obtain ⟨k1, k2, k3⟩ := HT.out
    refine ⟨rfl, s, ⟨⟨k2.ahead.at_.own0 ((Fr.refl _ _).drewN _) (k1.drewN _) rfl rfl rfl rfl rfl rfl, k2.ahead.last⟩, k2.ch, k2.tok, k2.fin⟩, rfl, rfl, k3.drewN _⟩
  · obtain ⟨T, cs, hv, hb, hcs, h64, htk, hTS, hTR⟩ := h1.is_row (by simp)
    have hmid : t.length ≤ 60 := hl
    obtain ⟨n, hn⟩ : ∃ n, n = (x :: ta).length := ⟨_, rfl⟩
    have hn0 : ((n : Int) == 0) = false := by rw [hn]; simp; omega
    have hn1 : n ≤ 64 := by omega
    have hR : R < w.heap.size := h.ahead.at_.lt R (by simp [Sc.ms])
    have hnw : n + (e - p) ≤ 63 := by omega
    rw [← hn] at hv
    have H := Lib.hid (And.intro h (And.intro hsc (And.intro hv (And.intro h1 (And.intro h7 (And.intro h8 (And.intro hn (And.intro hR h3))))))))
    clear h hsc hv h1 h2 h3 h7 h8 h9 hlen hb hcs h64 htk hTS hTR hn hR
    have hsub := run_sub S p e h4 (by omega) (by omega)
    go_enter Tryz.func55, Tryz.ntmps55
    go_wp2_with fail
    go_quiet (fail)
    go_wp2_with (
      go_at_call 73
      refine (isLen S s _ n 64 _ (H.out.2.1.drewN _) H.out.2.2.1 (by omega)).mono ?_
      rintro e w1 ⟨rfl, n1, hw1⟩
      have HT : Hid (ScAt w1 S s ∧ TbOk w1 S R s.tb (x :: ta) ∧ R < w1.heap.size ∧ Fr [] w [] w1) := by
        have hf : Fr [] w [] w1 := by rw [hw1]; exact ((Fr.refl _ _).drewN _).drewN _
        exact Lib.hid ⟨H.out.2.1.fr hf, H.out.2.2.2.1.fr hf (by simp), Nat.lt_of_lt_of_le H.out.2.2.2.2.2.2.2.1 hf.kept.size, hf⟩
      have e0 : w1.cell? ⟨S, 1036, none⟩ = some (.int .i64 p) := by rw [hw1]; exact c0
      have e1 : w1.cell? ⟨S, 1037, none⟩ = some (.int .i64 e) := by rw [hw1]; exact c1
      clear c0 c1 hw1)
    go_still_tail 15, (by kernel_rfl)
    change wpList _ _ _ _ _ w1.drew
    go_wp2_with (first
      | (go_at_call 79
         refine (isWrite S R p (e - p) _ s (x :: ta) w1.drew HT.out.1.drew (HT.out.2.1.fr (Fr.refl [] _).drew (by simp)) HT.out.2.2.1 (by omega) (by have := H.out.2.2.2.2.2.2.1; omega)).mono ?_
         rintro e w2 ⟨rfl, tb', k1, k2, k3⟩
         rw [← H.out.2.2.2.2.1] at k2
         have g0 : w2.cell? ⟨S, 1036, none⟩ = some (.int .i64 s.tokPos) := k1.named.tokPos
         have g1 : w2.cell? ⟨S, 1037, none⟩ = some (.int .i64 e) := by rw [← H.out.2.2.2.2.2.2.2.2]; exact k1.named.tokEnd
         have f4 : ∀ o, w2.frozen? ⟨S, o, none⟩ = false := k1.bl.free
         have HK := Lib.hid (And.intro k1 (And.intro k2 k3))
         clear k1 k2 k3 e0 e1)
      | (go_at_call 80
         obtain ⟨k1, k2, k3⟩ := HK.out
         have q1 := k1.set_tokPos e
         have hf1 : Fr [S] w2 [S] (w2.setCell ⟨S, 1036, none⟩ (.int .i64 e)) := (Fr.refl _ _).set (.inl (by simp)) _
         have q2 := k2.own hf1
         obtain ⟨T2, cs2, hv2, hb2, hcs2, h642, htk2, _, _⟩ := q2.is_row (by rw [H.out.2.2.2.2.1]; simp)
         have HK3 := Lib.hid (And.intro q1 (And.intro q2 (k3.trans (hf1.wide (fun k hk => by simp at hk; simp [hk])))))
         refine (isStr S T2 _ cs2 t _ q1 hv2 hb2 htk2 h642).mono ?_
         clear k1 k2 k3 q1 q2 hf1 hv2 hb2 hcs2 h642 htk2
         rintro e w3 ⟨rfl, n3, hw3⟩
         have HW3 := Lib.hid hw3
         clear hw3))
    go_ret
    obtain ⟨q1, q2, q3⟩ := HK3.out
    obtain ⟨h0, _, _, _, h7, h8, _, _, h3⟩ := H.out
    have hf3 : Fr [] (w2.setCell ⟨S, 1036, none⟩ (.int .i64 e)) [] w3 := by rw [HW3.out]; exact (Fr.refl _ _).drewN _
    have hF : Fr (S :: rowOf s.tb) w (S :: rowOf tb') w3 := ((HT.out.2.2.2.drew.wide (fun _ hk => by simp at hk)).trans q3).trans (hf3.wide (fun _ hk => by simp at hk))
    have hrR : R ∉ S :: rowOf s.tb := by
      have h1 := HT.out.2.1.ne.2
      have h2 : R ≠ S := by
        obtain ⟨rd, hr, _⟩ := h0.ahead.at_.rd
        obtain ⟨_, _, _, hb, _⟩ := hr.ex
        exact fun e => (h0.ahead.at_.sc.bl.ne hb (by decide)) e.symm
      simp only [List.mem_cons, not_or]
      exact ⟨h2, h1⟩
    obtain ⟨rd, hr, hu⟩ := h0.ahead.at_.rd
    refine ⟨rfl, { s with tb := tb', tbl := 0, tokPos := e }, ⟨⟨⟨q1.fr hf3, h0.ahead.at_.src, ⟨rd, hr.fr hF hrR, hu⟩, h0.ahead.at_.le, h0.ahead.at_.le2, h0.ahead.at_.sent, t, q2.fr hf3 (by simp), .inr ⟨e, rfl, by omega, by rw [h8]⟩⟩, h0.ahead.last.len, h0.ahead.last.le, h0.ahead.last.at_, ?_⟩, h0.ch, by simp only; omega, h0.fin⟩, rfl, rfl, ?_⟩
    · have := h0.fin
      show (e : Int) ≤ (s.pos : Int) - s.lcl
      omega
    · exact hF.wide2 (fun k hk => by simp at hk; rcases hk with h | h <;> simp [Sc.ms, h]) (fun k hk => by simp [Sc.ms] at hk; rcases hk with h | h | h <;> simp [Sc.ms, h])

end Go.Proofs.YtobiaaabikfglaaGreatDoor

/-
  The lexer: its state ahead of a list of tokens; ConsumeWhitespace, Peek, Location, ConsumeToken, ConsumeIdent, ConsumeIdentWithLoc, ConsumeKeyword, Descend, Ascend. No conditions but lengths.
-/
namespace Go.Proofs.YtobiaaabikfglaaGreatDoor
open Go.RowKit Go.Proofs.YtobiaaabikfglaaGreatDoor.Pq Go.Lib

theorem SAt.away {w w' : World} {S R : Nat} {s : Sc} {u acc : Bs} {m m' : List Nat} (h : SAt w S R s u acc) (hf : Fr m w m' w') (hn : ∀ k, k ∈ s.ms S R → k ∉ m) : SAt w' S R s u acc := by
  obtain ⟨ta, h1, h2⟩ := h.tb
  obtain ⟨rd, h3, h4⟩ := h.rd
  exact ⟨⟨h.sc.len, (hf.bl h.sc.bl (hn S (by simp [Sc.ms]))).1⟩, h.src, ⟨rd, h3.fr hf (hn R (by simp [Sc.ms])), h4⟩, h.le, h.le2, h.sent, ta, h1.fr hf (fun k hk => hn k (by simp [Sc.ms, hk])), h2⟩
theorem Ahead.away {w w' : World} {S R : Nat} {s : Sc} {u acc : Bs} {m m' : List Nat} (h : Ahead w S R s u acc) (hf : Fr m w m' w') (hn : ∀ k, k ∈ s.ms S R → k ∉ m) : Ahead w' S R s u acc := ⟨h.at_.away hf hn, h.last⟩
theorem Tokd.away {w w' : World} {S R : Nat} {s : Sc} {t u : Bs} {m m' : List Nat} (h : Tokd w S R s t u) (hf : Fr m w m' w') (hn : ∀ k, k ∈ s.ms S R → k ∉ m) : Tokd w' S R s t u := ⟨h.ahead.away hf hn, h.ch, h.tok, h.fin⟩
theorem Rdy.away {w w' : World} {S R : Nat} {s : Sc} {u : Bs} {m m' : List Nat} (h : Rdy w S R s u) (hf : Fr m w m' w') (hn : ∀ k, k ∈ s.ms S R → k ∉ m) : Rdy w' S R s u := by
  rcases h with ⟨h1, h2, h3⟩ | ⟨h1, acc, h2⟩
  · exact .inl ⟨h1, h2.away hf hn, h3⟩
  · exact .inr ⟨h1, acc, h2.away hf hn⟩
theorem Rdy.lt {w : World} {S R : Nat} {s : Sc} {u : Bs} (h : Rdy w S R s u) : ∀ k, k ∈ s.ms S R → k < w.heap.size := by
  rcases h with ⟨_, h2, _⟩ | ⟨_, acc, h2⟩
  · exact h2.lt
  · exact h2.at_.lt
theorem Tokd.rdy {w : World} {S R : Nat} {s : Sc} {t u : Bs} (h : Tokd w S R s t u) : Rdy w S R s u := .inr ⟨h.ch, t, h.ahead⟩

/-- all tokens of a text, in the form that the lexer's walk takes -/
inductive Toks1 : Bs → List Tok → Prop where
  | eof (ws : Bs) : ws.all wsB = true → Toks1 ws []
  | comma (ws u : Bs) (ts : List Tok) : ws.all wsB = true → Toks1 u ts → Toks1 (ws ++ 44 :: u) ts
  | tok (ws v u : Bs) (t : Tok) (ts : List Tok) : ws.all wsB = true → NoWs v → Scans1 v t u → t.kind ≠ 44 → t.kind ≠ 35 → t.text.length ≤ 60 → Toks1 u ts → Toks1 (ws ++ v) (t :: ts)

theorem Toks1.next {u : Bs} {ts : List Tok} (h : Toks1 u ts) :
    ∃ ws v t u2, u = ws ++ v ∧ ws.all wsB = true ∧ NoWs v ∧ Scans1 v t u2 ∧ ((t.kind = 44 ∧ Toks1 u2 ts ∧ u2.length < u.length) ∨ (t.kind ≠ 44 ∧ t.kind ≠ 35 ∧ t = cur ts ∧ Toks1 u2 ts.tail ∧ t.text.length ≤ 60)) := by
  cases h with
  | eof ws h1 => exact ⟨_, [], eofT, [], by simp, h1, fun c hc => by simp at hc, .eof, .inr ⟨by decide, by decide, rfl, .eof [] rfl, by simp [eofT]⟩⟩
  | comma ws u2 _ h1 h2 => exact ⟨ws, 44 :: u2, P 44, u2, rfl, h1, fun c hc => by simp at hc; subst hc; rfl, .punct 44 u2 rfl, .inl ⟨rfl, h2, by simp; omega⟩⟩
  | tok ws v u2 t ts h1 h2 h3 h4 h5 h6 h7 => exact ⟨ws, v, t, u2, rfl, h1, h2, h3, .inr ⟨h4, h5, rfl, h7, h6⟩⟩

theorem Scans1.left {v u : Bs} {t : Tok} (h : Scans1 v t u) (ha : AllAsc v) : AllAsc u := by
  cases h with
  | eof => exact ha
  | punct c u _ => exact ha.tail
  | dot u _ => exact ha.tail
  | word c l u _ _ _ _ => exact ha.tail.right
  | int c l u _ _ _ _ _ => exact ha.tail.right

/-- the lexer's own block -/
structure Lx (ad : Addr) (g w : World) (L S R : Nat) (s : Sc) (ms : List Nat) (k d : Int) : Prop where
  bl : Bl w L #[.pointer (some ⟨S, 0, none⟩), .int .i32 k, .slice none 0 0, .int .i64 0, .int .i8 0, .bool true, .int .i64 d] 186
  eqm : ms = L :: s.ms S R
  no : L ∉ s.ms S R
  gd : Gd ad g w ms

/-- the lexer has to read on: the tokens ts are left -/
def LexR (ad : Addr) (g w : World) (L : Nat) (ms : List Nat) (d : Int) (ts : List Tok) : Prop :=
  ∃ S R s u k, Lx ad g w L S R s ms k d ∧ Rdy w S R s u ∧ Toks1 u ts ∧ AllAsc u

/-- the lexer stands at the first of the tokens ts -/
def LexAt (ad : Addr) (g w : World) (L : Nat) (ms : List Nat) (d : Int) (ts : List Tok) : Prop :=
  ∃ S R s u, Lx ad g w L S R s ms (cur ts).kind d ∧ Tokd w S R s (cur ts).text u ∧ Toks1 u ts.tail ∧ AllAsc u ∧ (cur ts).text.length ≤ 60

theorem LexAt.rdy {ad : Addr} {g w : World} {L : Nat} {ms : List Nat} {d : Int} {ts : List Tok} (h : LexAt ad g w L ms d ts) : LexR ad g w L ms d ts.tail := by
  obtain ⟨S, R, s, u, h1, h2, h3, h4, _⟩ := h
  exact ⟨S, R, s, u, _, h1, h2.rdy, h3, h4⟩

theorem Fr.cons {m m' : List Nat} {w w' : World} (h : Fr m w m' w') (L : Nat) : Fr (L :: m) w (L :: m') w' :=
  h.wide2 (fun k hk => by simp [hk]) (fun k hk => by simp at hk; rcases hk with rfl | hk <;> simp [*])
theorem Fr.here {w w' : World} {L : Nat} (h : Fr [L] w [L] w') (m : List Nat) : Fr (L :: m) w (L :: m) w' :=
  h.wide (fun k hk => by simp at hk; simp [hk])

theorem Lx.fr {ad : Addr} {g w w' : World} {L S R : Nat} {s s' : Sc} {ms : List Nat} {k d : Int} (h : Lx ad g w L S R s ms k d) (hf : Fr (s.ms S R) w (s'.ms S R) w') : Lx ad g w' L S R s' (L :: s'.ms S R) k d ∧ Fr ms w (L :: s'.ms S R) w' := by
  obtain ⟨h1, h2⟩ := hf.bl h.bl h.no
  have hf' := hf.cons L
  rw [← h.eqm] at hf'
  exact ⟨⟨h1, rfl, h2, h.gd.fr hf'⟩, hf'⟩

theorem Lx.put {ad : Addr} {g w w' : World} {L S R : Nat} {s : Sc} {ms : List Nat} {k d k' d' : Int} (h : Lx ad g w L S R s ms k d) (hf : Fr [L] w [L] w')
    (hb : Bl w' L #[.pointer (some ⟨S, 0, none⟩), .int .i32 k', .slice none 0 0, .int .i64 0, .int .i8 0, .bool true, .int .i64 d'] 186) : Lx ad g w' L S R s ms k' d' ∧ Fr ms w ms w' := by
  have hf' := hf.here (s.ms S R)
  rw [← h.eqm] at hf'
  exact ⟨⟨hb, h.eqm, h.no, h.gd.fr hf'⟩, hf'⟩

theorem lexReset (L : Nat) (p : Addr) (k : Int) (d : Int) (w : World) (h : Bl w L #[.pointer (some p), .int .i32 k, .slice none 0 0, .int .i64 0, .int .i8 0, .bool true, .int .i64 d] 186) :
    Calls Tryz.prog 47 #[.pointer (some ⟨L, 2, none⟩)] w fun e w' => e = .returned (.tuple #[]) ∧ Bl w' L #[.pointer (some p), .int .i32 k, .slice none 0 0, .int .i64 0, .int .i8 0, .bool true, .int .i64 d] 186 ∧ Fr [L] w [L] w' := by
  have c0 : w.cell? ⟨L, 2, none⟩ = some (.slice none 0 0) := h.cell 2
  have c1 : w.cell? ⟨L, 3, none⟩ = some (.int .i64 0) := h.cell 3
  have c2 : w.cell? ⟨L, 4, none⟩ = some (.int .i8 0) := h.cell 4
  have c4 : ∀ o, w.frozen? ⟨L, o, none⟩ = false := h.free
  have H := Lib.hid h
  clear h
  go_enter Tryz.func47, Tryz.ntmps47
  go_wp2_with fail
  go_end0
  refine ⟨rfl, ?_, ?_⟩
  · exact (((H.out.set 2 _).set 3 _).set 4 _)
  · exact (((Fr.refl _ _).set (.inl (by simp)) _).set (.inl (by simp)) _).set (.inl (by simp)) _

set_option maxRecDepth 100000 in
set_option maxHeartbeats 4000000 in
theorem lex_ws (ad : Addr) (g : World) (L : Nat) (ms : List Nat) (d : Int) (ts : List Tok) (w : World) (h : LexR ad g w L ms d ts) :
    Calls Tryz.prog 35 #[.pointer (some ⟨L, 0, none⟩)] w fun e w' => e = .returned (.tuple #[]) ∧ ∃ ms', LexAt ad g w' L ms' d ts ∧ Fr ms w ms' w' := by
  obtain ⟨S, R, s, u, k, hL, hR, hT, hA⟩ := h
  have H := Lib.hid (And.intro hL (And.intro hR (And.intro hT hA)))
  clear hL hR hT hA
  go_enter Tryz.func35, Tryz.ntmps35
  go_wp2_with (
    go_at_call 47
    refine (lexReset L _ k d _ H.out.1.bl).mono ?_
    rintro e w1 ⟨rfl, hb, hf⟩
    obtain ⟨hL, hF⟩ := H.out.1.put hf hb
    have hR := H.out.2.1.away hf (fun k hk e => H.out.1.no (by simp at e; rw [← e]; exact hk))
    have HK := Lib.hid (And.intro hL (And.intro hR hF))
    clear hb hf hL hR hF)
  go_loopg [] u.length (fun n wr => ∃ ms1 s1 u1 k1, n = u1.length ∧ Lx ad g wr L S R s1 ms1 k1 d ∧ Rdy wr S R s1 u1 ∧ Toks1 u1 ts ∧ AllAsc u1 ∧ Fr ms w ms1 wr)
  case atStart => exact ⟨ms, s, u, k, rfl, HK.out.1, HK.out.2.1, H.out.2.2.1, H.out.2.2.2, HK.out.2.2⟩
  case round =>
    clear HK
    obtain ⟨ms1, s1, u1, k1, hn, hL, hR, hT, hA, hF⟩ := hrel
    have c0 : wr.cell? ⟨L, 0, none⟩ = some (.pointer (some ⟨S, 0, none⟩)) := hL.bl.cell 0
    generalize k1 = kk at *
    obtain ⟨ws, v, t, u2, rfl, h1, h2, h3, h4⟩ := hT.next
    have HR := Lib.hid (And.intro hL (And.intro hR (And.intro h1 (And.intro hA (And.intro h2 (And.intro h3 hF))))))
    clear hL hR h1 hA h2 h3 hF hT
    rcases h4 with ⟨h4, h5, h6⟩ | ⟨h4, h5, h6, h7, h8⟩
    · have HN := Lib.hid (And.intro h4 (And.intro h5 (And.intro h6 hn)))
      have d1 : (t.kind == 44) = true := by rw [h4]; rfl
      clear h4 h5 h6 hn
      go_wp2_with (
        go_at_call 48
        refine (scan_any S R s1 ws v t u2 ad g _ HR.out.2.1 (HR.out.1.gd.less (fun k hk => by rw [HR.out.1.eqm]; exact List.mem_cons_of_mem _ hk)) HR.out.2.2.1 HR.out.2.2.2.1 HR.out.2.2.2.2.1 HR.out.2.2.2.2.2.1).mono ?_
        rintro e w2 ⟨rfl, s2, k1, k2, k3, k4⟩
        obtain ⟨hL2, hF2⟩ := HR.out.1.fr k4
        have f1 : ∀ o, w2.frozen? ⟨L, o, none⟩ = false := hL2.bl.free
        have e1 : w2.cell? ⟨L, 1, none⟩ = some (.int .i32 kk) := hL2.bl.cell 1
        have HK2 := Lib.hid (And.intro hL2 (And.intro hF2 k1))
        clear hL2 hF2 k1 k2 k3 k4 c0)
      go_roundg u2.length
      case measure => rw [HN.out.2.2.2]; exact HN.out.2.2.1
      case rel =>
        obtain ⟨hL2, hF2, k1⟩ := HK2.out
        have hf : Fr [L] w2 [L] (w2.setCell ⟨L, 1, none⟩ (.int .i32 t.kind)) := (Fr.refl _ _).set (.inl (by simp)) _
        obtain ⟨hL3, hF3⟩ := hL2.put hf (hL2.bl.set 1 _)
        exact ⟨_, s2, u2, _, rfl, hL3, k1.rdy.away hf (fun k hk e => hL2.no (by simp at e; rw [← e]; exact hk)), HN.out.2.1, HR.out.2.2.2.2.2.1.left HR.out.2.2.2.1.right, HR.out.2.2.2.2.2.2.trans (hF2.trans hF3)⟩
    · have d1 : (t.kind == 44) = false := by simpa using h4
      have d2 : (t.kind == 35) = false := by simpa using h5
      have HN := Lib.hid (And.intro h6 (And.intro h7 h8))
      clear h4 h5 h6 h7 h8 hn
      go_wp2_with (
        go_at_call 48
        refine (scan_any S R s1 ws v t u2 ad g _ HR.out.2.1 (HR.out.1.gd.less (fun k hk => by rw [HR.out.1.eqm]; exact List.mem_cons_of_mem _ hk)) HR.out.2.2.1 HR.out.2.2.2.1 HR.out.2.2.2.2.1 HR.out.2.2.2.2.2.1).mono ?_
        rintro e w2 ⟨rfl, s2, k1, k2, k3, k4⟩
        obtain ⟨hL2, hF2⟩ := HR.out.1.fr k4
        have f1 : ∀ o, w2.frozen? ⟨L, o, none⟩ = false := hL2.bl.free
        have e1 : w2.cell? ⟨L, 1, none⟩ = some (.int .i32 kk) := hL2.bl.cell 1
        have HK2 := Lib.hid (And.intro hL2 (And.intro hF2 k1))
        clear hL2 hF2 k1 k2 k3 k4 c0)
      go_end0
      obtain ⟨hL2, hF2, k1⟩ := HK2.out
      obtain ⟨h6, h7, h8⟩ := HN.out
      have hf : Fr [L] w2 [L] (w2.setCell ⟨L, 1, none⟩ (.int .i32 t.kind)) := (Fr.refl _ _).set (.inl (by simp)) _
      obtain ⟨hL3, hF3⟩ := hL2.put hf (hL2.bl.set 1 _)
      refine ⟨rfl, _, ⟨S, R, s2, u2, by rw [← h6]; exact hL3, ?_, h7, HR.out.2.2.2.2.2.1.left HR.out.2.2.2.1.right, by rw [← h6]; exact h8⟩, HR.out.2.2.2.2.2.2.trans (hF2.trans hF3)⟩
      rw [← h6]
      exact k1.away hf (fun k hk e => hL2.no (by simp at e; rw [← e]; exact hk))

/-- Peek -/
theorem lex_peek (ad : Addr) (g : World) (L : Nat) (ms : List Nat) (d : Int) (ts : List Tok) (w : World) (h : LexAt ad g w L ms d ts) :
    Calls Tryz.prog 36 #[.pointer (some ⟨L, 0, none⟩)] w fun e w' => e = .returned (.int .i32 (cur ts).kind) ∧ w = w' := by
  obtain ⟨S, R, s, u, h1, _⟩ := h
  have c1 : w.cell? ⟨L, 1, none⟩ = some (.int .i32 (cur ts).kind) := h1.bl.cell 1
  clear h1
  go_enter Tryz.func36, Tryz.ntmps36
  go_wp2_with fail
  go_ret
  exact ⟨rfl, rfl⟩

end Go.Proofs.YtobiaaabikfglaaGreatDoor
