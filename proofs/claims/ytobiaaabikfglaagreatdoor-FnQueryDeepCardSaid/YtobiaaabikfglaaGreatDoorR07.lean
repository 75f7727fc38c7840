/-
  The scanner's Scan: one token. No conditions but lengths.
-/
import Derived.Test.YtobiaaabikfglaaGreatDoorR06
namespace Go.Proofs.YtobiaaabikfglaaGreatDoor
open Go.RowKit Go.Proofs.YtobiaaabikfglaaGreatDoor.Pq Go.Lib

/-- what Scan leaves: the token's text behind acc, the text u left -/
structure Tokd (w : World) (S R : Nat) (s : Sc) (t u : Bs) : Prop where
  ahead : Ahead w S R s u t
  ch : s.ch = hd u
  tok : 0 ≤ s.tokPos
  fin : s.tokEnd = (s.pos : Int) - (s.lcl : Int)

def Scan1 (S R : Nat) (s : Sc) (k : Int) (t u : Bs) (w : World) (e : Ending) (w' : World) : Prop :=
  e = .returned (.int .i32 k) ∧ ∃ s', Tokd w' S R s' t u ∧ s'.err = s.err ∧ s'.ec = s.ec ∧ Fr (s.ms S R) w (s'.ms S R) w'

theorem Ahead.own0 {w w' : World} {S R : Nat} {s s' : Sc} {u acc : Bs} (h : Ahead w S R s u acc) (hf : Fr [S] w [S] w') (hs : ScAt w' S s') (h1 : s'.src = s.src) (h2 : s'.tb = s.tb) (h3 : s'.buf = s.buf) (h4 : s'.pos = s.pos) (h5 : s'.fin = s.fin) (h6 : s'.tokPos = s.tokPos) (h7 : s'.lcl = s.lcl) : Ahead w' S R s' u acc :=
  ⟨h.at_.own0 hf hs h1 h2 h3 h4 h5 h6, by rw [h7]; exact h.last.len, by rw [h4]; exact h.last.le, by rw [h3, h4]; exact h.last.at_, by rw [h4, h6, h7]; exact h.last.tp⟩

/-- among the blanks ahead of a token -/
def Blank (S R : Nat) (s : Sc) (v : Bs) (w wx : World) : Prop := ∃ s3, Ahead wx S R s3 v [] ∧ s3.tokPos < 0 ∧ s3.err = s.err ∧ s3.ec = s.ec ∧ Fr (s.ms S R) w (s3.ms S R) wx

/-- a token begins: the text v stands ahead -/
def Begun (S R : Nat) (s : Sc) (v acc : Bs) (w wx : World) : Prop := ∃ s3, Ahead wx S R s3 v acc ∧ 0 ≤ s3.tokPos ∧ s3.err = s.err ∧ s3.ec = s.ec ∧ Fr (s.ms S R) w (s3.ms S R) wx

theorem Begun.own {S R : Nat} {s s3 s4 : Sc} {v acc : Bs} {w wx wy : World} (h : Ahead wx S R s3 v acc ∧ 0 ≤ s3.tokPos ∧ s3.err = s.err ∧ s3.ec = s.ec ∧ Fr (s.ms S R) w (s3.ms S R) wx) (hf : Fr [S] wx [S] wy) (hs : ScAt wy S s4)
    (h1 : s4.src = s3.src) (h2 : s4.tb = s3.tb) (h3 : s4.buf = s3.buf) (h4 : s4.pos = s3.pos) (h5 : s4.fin = s3.fin) (h6 : s4.tokPos = s3.tokPos) (h7 : s4.lcl = s3.lcl) (h8 : s4.err = s3.err) (h9 : s4.ec = s3.ec) : Begun S R s v acc w wy := by
  obtain ⟨k1, k2, k3, k4, k5⟩ := h
  refine ⟨s4, k1.own0 hf hs h1 h2 h3 h4 h5 h6 h7, by rw [h6]; exact k2, h8.trans k3, h9.trans k4, ?_⟩
  have e : s4.ms S R = s3.ms S R := by simp [Sc.ms, h2]
  rw [e]
  exact k5.trans (hf.wide (fun k hk => by simp at hk; simp [Sc.ms, hk]))

/-- behind a token: the scanner's end and the character ahead are set -/
theorem Begun.end_ {S R : Nat} {s s3 s4 : Sc} {u t : Bs} {k : Int} {w wx wy : World} (h : Ahead wx S R s3 u t ∧ 0 ≤ s3.tokPos ∧ s3.err = s.err ∧ s3.ec = s.ec ∧ Fr (s.ms S R) w (s3.ms S R) wx) (hf : Fr [S] wx [S] wy) (hs : ScAt wy S s4)
    (h1 : s4.src = s3.src) (h2 : s4.tb = s3.tb) (h3 : s4.buf = s3.buf) (h4 : s4.pos = s3.pos) (h5 : s4.fin = s3.fin) (h6 : s4.tokPos = s3.tokPos) (h7 : s4.lcl = s3.lcl) (h8 : s4.err = s3.err) (h9 : s4.ec = s3.ec)
    (h10 : s4.tokEnd = (s3.pos : Int) - s3.lcl) (h11 : s4.ch = hd u) : Scan1 S R s k t u w (.returned (.int .i32 k)) wy := by
  obtain ⟨k1, k2, k3, k4, k5⟩ := h
  refine ⟨rfl, s4, ⟨k1.own0 hf hs h1 h2 h3 h4 h5 h6 h7, h11, by rw [h6]; exact k2, by rw [h10, h4, h7]⟩, h8.trans k3, h9.trans k4, ?_⟩
  have e : s4.ms S R = s3.ms S R := by simp [Sc.ms, h2]
  rw [e]
  exact k5.trans (hf.wide (fun k hk => by simp at hk; simp [Sc.ms, hk]))

/-- behind the emptying of the token's text, the place set -/
theorem began {S R : Nat} {s s2 : Sc} {v : Bs} {w wx w4 w5 : World} {tb' : Value} (hA : Ahead wx S R s2 v []) (h3 : s2.err = s.err) (h4 : s2.ec = s.ec) (hF : Fr (s.ms S R) w (s2.ms S R) wx)
    (k1 : ScAt w5 S { s2 with tb := tb', tbl := 0, tokPos := (s2.pos : Int) - s2.lcl }) (k2 : TbOk w4 S R tb' []) (k3 : rowOf tb' = rowOf s2.tb) (k4 : Fr [S] wx [S] w4) (k5 : Fr [S] w4 [S] w5) :
    Ahead w5 S R { s2 with tb := tb', tbl := 0, tokPos := (s2.pos : Int) - s2.lcl } v [] ∧ 0 ≤ (s2.pos : Int) - s2.lcl ∧ s2.err = s.err ∧ s2.ec = s.ec ∧ Fr (s.ms S R) w (Sc.ms { s2 with tb := tb', tbl := 0, tokPos := (s2.pos : Int) - s2.lcl } S R) w5 := by
  have hl := hA.last.len
  have hle := hA.last.le
  obtain ⟨rd, hr, hu⟩ := hA.at_.rd
  have k6 : Fr [S] wx [S] w5 := k4.trans k5
  refine ⟨⟨⟨k1, hA.at_.src, ⟨rd, hr.own hA.at_.sc k6, by simpa [Sc.have_] using hu⟩, hA.at_.le, hA.at_.le2, hA.at_.sent, [], k2.own k5, .inr ⟨s2.pos - s2.lcl, by simp only; omega, Nat.sub_le _ _, ?_⟩⟩, hl, hle, hA.last.at_, Int.le_refl _⟩, by omega, h3, h4, ?_⟩
  · have := hA.last.at_
    simp only [List.nil_append]
    rw [hl, show s2.pos - (s2.pos - (v.take 1).length) = (v.take 1).length from by omega, this]
  · have e : Sc.ms { s2 with tb := tb', tbl := 0, tokPos := (s2.pos : Int) - s2.lcl } S R = s2.ms S R := by simp [Sc.ms, k3]
    rw [e]
    exact hF.trans (k6.wide (fun k hk => by simp at hk; simp [Sc.ms, hk]))

/-- the scanner's mask, asked of a character -/
def white (n : Int) : Bool := bits BinOp.and IntKind.u64 4294977024 (IntKind.u64.wrap (2 ^ min (IntKind.u64.wrap n).toNat 64)) != 0
theorem white_nat : ∀ c : Fin 128, white (c.val : Int) = (c.val == 9 || c.val == 10 || c.val == 13 || c.val == 32) := by decide +kernel
theorem white_eof : white (-1) = false := by decide +kernel

theorem wsB_asc {c : UInt8} (h : wsB c = true) : 0 < c.toNat ∧ c.toNat < 128 := by
  simp [wsB, ← UInt8.toNat_inj] at h
  omega
theorem white_ws {c : UInt8} (h : wsB c = true) : white (c.toNat : Int) = true := by
  have := white_nat ⟨c.toNat, (wsB_asc h).2⟩
  simp only at this
  rw [this]
  simp [wsB, ← UInt8.toNat_inj] at h
  simpa using h
/-- no blank stands ahead -/
def NoWs (v : Bs) : Prop := ∀ c, v.head? = some c → wsB c = false
theorem white_no {v : Bs} (h : NoWs v) (ha : Asc v) : white (hd v) = false := by
  cases v with
  | nil => exact white_eof
  | cons c v =>
    have := white_nat ⟨c.toNat, (ha c rfl).2⟩
    simp only at this
    simp only [hd]
    rw [this]
    have h := h c rfl
    simp [wsB, ← UInt8.toNat_inj] at h
    simpa using h

abbrev Raw (S R : Nat) (s s3 : Sc) (v acc : Bs) (w wx : World) : Prop := Ahead wx S R s3 v acc ∧ 0 ≤ s3.tokPos ∧ s3.err = s.err ∧ s3.ec = s.ec ∧ Fr (s.ms S R) w (s3.ms S R) wx

theorem Raw.scanned {S R : Nat} {s s3 : Sc} {v acc u t : Bs} {w wx wy : World} (h : Raw S R s s3 v acc w wx) (k : Scanned S R s3 u t wx wy) : ∃ s5, Raw S R s s5 u t w wy := by
  obtain ⟨k1, k2, k3, k4, k5⟩ := h
  obtain ⟨s5, m1, m2, m3⟩ := k
  refine ⟨s5, m1, ?_, m2.err.trans k3, m2.ec.trans k4, k5.trans m3⟩
  have := m2.tok
  omega

theorem Raw.below {S R : Nat} {s s3 : Sc} {v acc : Bs} {w wx wy : World} (h : Raw S R s s3 v acc w wx) (hB : Below wx.heap.size wx wy) : Raw S R s s3 v acc w wy :=
  ⟨h.1.own0 ((Fr.refl _ _).below hB) (h.1.at_.sc.fr ((Fr.refl _ _).below hB)) rfl rfl rfl rfl rfl rfl rfl, h.2.1, h.2.2.1, h.2.2.2.1, h.2.2.2.2.below hB⟩

theorem Raw.cells {S R : Nat} {s s3 : Sc} {v acc : Bs} {w wx : World} (h : Raw S R s s3 v acc w wx) :
    wx.cell? ⟨S, 1026, none⟩ = some (.int .i64 s3.pos) ∧ wx.cell? ⟨S, 1032, none⟩ = some (.int .i64 s3.lcl) ∧ wx.cell? ⟨S, 1037, none⟩ = some (.int .i64 s3.tokEnd) ∧ wx.cell? ⟨S, 1038, none⟩ = some (.int .i32 s3.ch) ∧
    (∀ o, wx.frozen? ⟨S, o, none⟩ = false) ∧ s3.lcl ≤ s3.pos ∧ s3.pos ≤ 1024 := by
  have hs := h.1.at_.sc
  have h1 := h.1.last.len
  have h2 := h.1.last.le
  have h3 := h.1.at_.le
  have h4 := h.1.at_.le2
  exact ⟨hs.named.pos, hs.named.lcl, hs.named.tokEnd, hs.named.ch, hs.bl.free, by omega, by omega⟩

theorem Next1.scanned {S R : Nat} {s : Sc} {u acc : Bs} {w : World} {e : Ending} {w' : World} (h : Next1 S R s u acc w e w') : e = .returned (.int .i32 (hd u)) ∧ Scanned S R s u acc w w' := by
  obtain ⟨h1, s', k1, k2, k3, k4⟩ := h
  exact ⟨h1, s', ⟨k1, k4⟩, k2, k3⟩

/-- one token, behind the blanks -/
inductive Scans1 : Bs → Tok → Bs → Prop where
  | eof : Scans1 [] eofT []
  | punct (c : UInt8) (u : Bs) : punB c = true → Scans1 (c :: u) (P c) u
  | dot (u : Bs) : (∀ c, u.head? = some c → c.toNat < 128 ∧ digB c = false) → Scans1 (46 :: u) (P 46) u
  | word (c : UInt8) (l u : Bs) : letB c = true → l.all idB = true → Stop u → l.length ≤ 58 → Scans1 (c :: (l ++ u)) ⟨-2, c :: l⟩ u
  | int (c : UInt8) (l u : Bs) : digB c = true → l.all digB = true → c ≠ 48 → Stop u → l.length ≤ 58 → Scans1 (c :: (l ++ u)) ⟨-3, c :: l⟩ u

def AllAsc (u : Bs) : Prop := ∀ c, c ∈ u → 0 < c.toNat ∧ c.toNat < 128
theorem AllAsc.asc {u : Bs} (h : AllAsc u) : Asc u := fun c hc => h c (by cases u with | nil => simp at hc | cons d u => simp at hc; simp [hc])
theorem AllAsc.right {l u : Bs} (h : AllAsc (l ++ u)) : AllAsc u := fun c hc => h c (List.mem_append_right _ hc)
theorem AllAsc.tail {c : UInt8} {u : Bs} (h : AllAsc (c :: u)) : AllAsc u := fun d hd => h d (List.mem_cons_of_mem _ hd)

theorem dot_nodig {u : Bs} (h : ∀ c, u.head? = some c → c.toNat < 128 ∧ digB c = false) : hd u < 48 ∨ 57 < hd u := by
  cases u with
  | nil => simp [hd]
  | cons c u =>
    have := digB_no (h c rfl).2
    simp only [hd]
    omega
theorem ident_dot (S : Nat) (s : Sc) (ad : Addr) (w : World) (h : ScAt w S s) (G : Gl ad w) :
    Calls Tryz.prog 64 #[.pointer (some ⟨S, 0, none⟩), .int .i32 46, .int .i64 0] w fun e w' => e = .returned (.bool false) ∧ w = w' := by
  refine Calls.mono (ident_ascii S s 46 0 ad w h G (by decide) (by decide)) ?_
  rintro e w' ⟨rfl, rfl⟩
  exact ⟨congrArg (fun b => Ending.returned (.bool b)) (by decide +kernel), rfl⟩
theorem digB_letB {c : UInt8} (h : digB c = true) : letB c = false := by
  have := digB_asc h
  simp [letB, ← UInt8.toNat_inj]
  omega

theorem pun_facts {c : UInt8} (h : punB c = true) : (c.toNat < 48 ∨ 57 < c.toNat) ∧ letB c = false ∧ c.toNat ≠ 34 ∧ c.toNat ≠ 39 ∧ c.toNat ≠ 46 ∧ c.toNat ≠ 47 ∧ c.toNat ≠ 96 := by
  have hl : letB c = false := by
    simp [punB, ← UInt8.toNat_inj] at h
    simp [letB, ← UInt8.toNat_inj]
    omega
  refine ⟨?_, hl, ?_⟩ <;> (simp [punB, ← UInt8.toNat_inj] at h; omega)

set_option maxRecDepth 100000 in
set_option maxHeartbeats 16000000 in
theorem scan_any (S R : Nat) (s : Sc) (ws v : Bs) (t : Tok) (u : Bs) (ad : Addr) (g w : World) (h : Rdy w S R s (ws ++ v)) (G : Gd ad g w (s.ms S R)) (hws : ws.all wsB = true) (hall : AllAsc (ws ++ v)) (hnw : NoWs v) (hT : Scans1 v t u) :
    Calls Tryz.prog 48 #[.pointer (some ⟨S, 0, none⟩)] w (Scan1 S R s t.kind t.text u w) := by
  have hv : Asc v := hall.right.asc
  have hasc : ∀ l1 l2, ws = l1 ++ l2 → Asc (l2 ++ v) := by
    intro l1 l2 e
    rw [e, List.append_assoc] at hall
    exact hall.right.asc
  have H := Lib.hid (And.intro h (And.intro G (And.intro hws (And.intro hv (And.intro hasc hnw)))))
  have HT := Lib.hid (And.intro hT hall.right)
  clear h G hws hv hasc hnw hT hall
  go_enter Tryz.func48, Tryz.ntmps48
  go_wp2_with fail
  go_step3
  go_wp2_with (
    go_at_call 62
    refine (peek_any S R s (ws ++ v) ad g _ H.out.1 H.out.2.1 (H.out.2.2.2.2.1 [] ws rfl)).mono ?_
    rintro e w1 ⟨rfl, s1, k1, ⟨acc, k2⟩, k3, k4, k5⟩
    have f1 : ∀ o, w1.frozen? ⟨S, o, none⟩ = false := k2.at_.sc.bl.free
    have e1 : w1.cell? ⟨S, 1036, none⟩ = some (.int .i64 s1.tokPos) := k2.at_.sc.named.tokPos
    have e2 : w1.cell? ⟨S, 1046, none⟩ = some (.int .i64 s1.lineP) := k2.at_.sc.named.lineP
    have HK := Lib.hid (And.intro k1 (And.intro k2 (And.intro k3 (And.intro k4 k5))))
    clear k1 k2 k3 k4 k5)
  go_step3
  obtain ⟨w2, hw2⟩ : ∃ w2, w2 = (w1.setCell ⟨S, 1036, none⟩ (.int .i64 (-1))).setCell ⟨S, 1046, none⟩ (.int .i64 0) := ⟨_, rfl⟩
  rw [← hw2]
  have HB : Hid (Blank S R s (ws ++ v) w w2) := by
    obtain ⟨k1, k2, k3, k4, k5⟩ := HK.out
    have hf : Fr [S] w1 [S] w2 := by rw [hw2]; exact ((Fr.refl _ _).set (.inl (by simp)) _).set (.inl (by simp)) _
    have hs : ScAt w2 S { s1 with tokPos := -1, lineP := 0 } := by rw [hw2]; exact (k2.at_.sc.set_tokPos _).set_lineP _
    refine Lib.hid ⟨{ s1 with tokPos := -1, lineP := 0 }, ⟨?_, k2.last.len, k2.last.le, k2.last.at_, ?_⟩, show (-1 : Int) < 0 by decide, k3, k4, k5.trans (hf.wide (fun k hk => by simp at hk; simp [Sc.ms, hk]))⟩
    · exact k2.at_.own hf hs rfl rfl (fun rd hu => by simpa [Sc.have_] using hu) k2.at_.le k2.at_.le2 k2.at_.sent (fun ta _ _ => .inl (show (-1 : Int) < 0 by decide))
    · have h1 := k2.last.len
      have h2 := k2.last.le
      show (-1 : Int) ≤ (s1.pos : Int) - s1.lcl
      omega
  clear hw2 HK e1 e2 f1
  go_upto_block 0 with (fail)
  go_cut [3] (fun ch wx => ch = .int .i32 (hd v) ∧ Blank S R s v w wx)
  case first =>
    go_wp2_with fail
    go_loopg [3] ws.length (fun k ch wr => ∃ l1 l2, k = l2.length ∧ ws = l1 ++ l2 ∧ ch = .int .i32 (hd (l2 ++ v)) ∧ Blank S R s (l2 ++ v) w wr)
    case atStart => exact ⟨[], ws, rfl, rfl, rfl, HB.out⟩
    case round =>
      obtain ⟨l1, l2, hk, he, rfl, s2, hA, htp, hS1, hS2, hF⟩ := hrel
      have cw : wr.cell? ⟨S, 1042, none⟩ = some (.int .u64 4294977024) := hA.at_.sc.named.white
      cases l2 with
      | cons c' l2 =>
        rw [show hd (c' :: l2 ++ v) = (c'.toNat : Int) from rfl]
        have hwb : wsB c' = true := by
          have := H.out.2.2.1
          rw [he] at this
          simp [List.all_append] at this
          exact this.2.1
        have hw := white_ws hwb
        unfold white at hw
        have hkk : l2.length < gk := by rw [hk]; simp
        have HR := Lib.hid (And.intro he (And.intro hA (And.intro htp (And.intro hS1 (And.intro hS2 (And.intro hF hkk))))))
        clear he hA htp hS1 hS2 hF hkk hk hwb
        go_wp2_with (
          go_at_call 63
          refine (next_any S R s2 (l2 ++ v) [] ad g _ (HR.out.2.1.at_.noTok HR.out.2.2.1) (H.out.2.1.fr HR.out.2.2.2.2.2.1) (by simp) (H.out.2.2.2.2.1 (l1 ++ [c']) l2 (by rw [HR.out.1]; simp))).mono ?_
          rintro e w3 ⟨rfl, s3, k1, k2, k3, k4⟩
          have HK2 := Lib.hid (And.intro k1 (And.intro k2 (And.intro k3 k4)))
          clear k1 k2 k3 k4)
        go_roundg l2.length
        case rel =>
          obtain ⟨k1, k2, k3, k4⟩ := HK2.out
          obtain ⟨r1, r2, r3, r4, r5, r6, _⟩ := HR.out
          exact ⟨l1 ++ [c'], l2, rfl, by rw [r1]; simp, rfl, s3, ⟨k1, k4⟩, k2.tok.2 r3, k2.err.trans r4, k2.ec.trans r5, r6.trans k3⟩
        case measure => exact HR.out.2.2.2.2.2.2
      | nil =>
        rw [show hd ([] ++ v) = hd v from rfl]
        have hw := white_no H.out.2.2.2.2.2 H.out.2.2.2.1
        unfold white at hw
        have HR := Lib.hid (And.intro hA (And.intro htp (And.intro hS1 (And.intro hS2 hF))))
        clear he hA htp hS1 hS2 hF hk
        go_wp2_with fail
        go_meet
        exact ⟨rfl, s2, HR.out⟩
  case rest =>
    clear HB
    obtain ⟨rfl, s2, hA, htp, hS1, hS2, hF⟩ := hcut
    obtain ⟨ta, hta, _⟩ := hA.at_.tb
    have hle := hA.last.le
    have hle2 := hA.last.len
    have hp := hA.at_.le
    have hp2 := hA.at_.le2
    rw [← hle2] at hle
    have HR := Lib.hid (And.intro hA (And.intro hS1 (And.intro hS2 (And.intro hF hta))))
    clear hA htp hS1 hS2 hF hle2 hta
    go_wp2_with (
      go_at_call 47
      refine (isReset S R s2 ta _ HR.out.1.at_.sc HR.out.2.2.2.2).mono ?_
      rintro e w4 ⟨rfl, tb', k1, k2, k3, k4⟩
      have c0 : w4.cell? ⟨S, 1026, none⟩ = some (.int .i64 s2.pos) := k1.named.pos
      have c1 : w4.cell? ⟨S, 1032, none⟩ = some (.int .i64 s2.lcl) := k1.named.lcl
      have c2 : w4.cell? ⟨S, 1036, none⟩ = some (.int .i64 s2.tokPos) := k1.named.tokPos
      have c3 : w4.cell? ⟨S, 1028, none⟩ = some (.int .i64 s2.off) := k1.named.off
      have c4 : w4.cell? ⟨S, 1045, none⟩ = some (.int .i64 s2.offset) := k1.named.offset
      have f4 : ∀ o, w4.frozen? ⟨S, o, none⟩ = false := k1.bl.free
      have HK2 := Lib.hid (And.intro k1 (And.intro k2 (And.intro k3 k4)))
      clear k1 k2 k3 k4)
    go_still_tail 12, (by kernel_rfl)
    change wpList _ _ _ _ _ w4.drew
    go_wp2_with fail
    obtain ⟨w5, hw5⟩ : ∃ w5, w5 = (w4.setCell ⟨S, 1036, none⟩ (.int .i64 ((s2.pos : Int) - s2.lcl))).drew := ⟨_, rfl⟩
    rw [← hw5]
    have HQ : Hid (Ahead w5 S R { s2 with tb := tb', tbl := 0, tokPos := (s2.pos : Int) - s2.lcl } v [] ∧ 0 ≤ (s2.pos : Int) - s2.lcl ∧ s2.err = s.err ∧ s2.ec = s.ec ∧ Fr (s.ms S R) w (Sc.ms { s2 with tb := tb', tbl := 0, tokPos := (s2.pos : Int) - s2.lcl } S R) w5) := by
      obtain ⟨k1, k2, k3, k4⟩ := HK2.out
      rw [hw5]
      exact Lib.hid (began HR.out.1 HR.out.2.1 HR.out.2.2.1 HR.out.2.2.2.1 (k1.set_tokPos _).drew k2 k3 k4 ((Fr.refl _ _).set (.inl (by simp)) _).drew)
    clear hw5 HK2 c0 c1 c2 c3 c4 f4 HR
    have c2 : w5.cell? ⟨S, 1036, none⟩ = some (.int .i64 ((s2.pos : Int) - s2.lcl)) := HQ.out.1.at_.sc.named.tokPos
    have c3 : w5.cell? ⟨S, 1028, none⟩ = some (.int .i64 s2.off) := HQ.out.1.at_.sc.named.off
    have c4 : w5.cell? ⟨S, 1045, none⟩ = some (.int .i64 s2.offset) := HQ.out.1.at_.sc.named.offset
    have c5 : w5.cell? ⟨S, 1030, none⟩ = some (.int .i64 s2.col) := HQ.out.1.at_.sc.named.col
    have c6 : w5.cell? ⟨S, 1029, none⟩ = some (.int .i64 s2.line) := HQ.out.1.at_.sc.named.line
    have c7 : w5.cell? ⟨S, 1031, none⟩ = some (.int .i64 s2.lll) := HQ.out.1.at_.sc.named.lll
    have c8 : w5.cell? ⟨S, 1046, none⟩ = some (.int .i64 s2.lineP) := HQ.out.1.at_.sc.named.lineP
    have c9 : w5.cell? ⟨S, 1047, none⟩ = some (.int .i64 s2.colP) := HQ.out.1.at_.sc.named.colP
    have f4 : ∀ o, w5.frozen? ⟨S, o, none⟩ = false := HQ.out.1.at_.sc.bl.free
    go_still_tail 13, (by kernel_rfl)
    change wpList _ _ _ _ _ w5.drew
    go_upto_if 58 with (fail)
    go_cut [] (fun wx => Begun S R s v [] w wx)
    case first =>
      go_wp2_with fail
      · go_meet
        exact Begun.own HQ.out ((((Fr.refl _ _).set (.inl (by simp)) _).set (.inl (by simp)) _).set (.inl (by simp)) _).drew ((((HQ.out.1.at_.sc.set_offset _).set_lineP _).set_colP _).drew) rfl rfl rfl rfl rfl rfl rfl rfl rfl
      · go_meet
        exact Begun.own HQ.out ((((Fr.refl _ _).set (.inl (by simp)) _).set (.inl (by simp)) _).set (.inl (by simp)) _).drew ((((HQ.out.1.at_.sc.set_offset _).set_lineP _).set_colP _).drew) rfl rfl rfl rfl rfl rfl rfl rfl rfl
    case rest =>
      clear HQ c2 c3 c4 c5 c6 c7 c8 c9 f4 hle hp hp2
      obtain ⟨s3, HS⟩ := hcut
      have HS : Raw S R s s3 v [] w wc := HS
      have HC := Lib.hid HS
      have cm : wc.cell? ⟨S, 1041, none⟩ = some (.int .u64 1012) := HS.1.at_.sc.named.mode
      clear HS
      obtain ⟨hT, hall⟩ := HT.out
      clear HT
      cases hT with
      | eof =>
        rw [show hd [] = -1 from rfl]
        go_wp2_with (first
          | (go_at_call 64
             refine (ident_eof S s3 0 ad _ HC.out.1.at_.sc (H.out.2.1.fr HC.out.2.2.2.2).at_ (by omega)).mono ?_
             rintro e w3 ⟨rfl, hB⟩
             have HE := Lib.hid (HC.out.below hB)
             obtain ⟨c0, c1, c2, c3, f4, hb1, hp1⟩ := HE.out.cells
             clear hB)
          | (go_at_call 66; refine (dec_no _ _ (by omega)).mono ?_; rintro e w' ⟨rfl, rfl⟩))
        go_still_tail 12, (by kernel_rfl)
        change wpList _ _ _ _ _ w3.drew
        go_wp2_with fail
        go_ret
        exact Begun.end_ HE.out ((((Fr.refl _ _).set (.inl (by simp)) _).set (.inl (by simp)) _).drew) (((HE.out.1.at_.sc.set_tokEnd _).set_ch _).drew) rfl rfl rfl rfl rfl rfl rfl rfl rfl rfl rfl
      | punct c u hp =>
        rw [show hd (c :: u) = (c.toNat : Int) from rfl]
        obtain ⟨p1, p2, p3, p4, p5, p6, p7⟩ := pun_facts hp
        have HU := Lib.hid hall.tail
        have HA := Lib.hid (hall c (by simp)).2
        have HI : Hid _ := Lib.hid (ident_letB c HA.out)
        have d1 : ((c.toNat : Int) == 34) = false := by simp; omega
        have d2 : ((c.toNat : Int) == 39) = false := by simp; omega
        have d3 : ((c.toNat : Int) == 46) = false := by simp; omega
        have d4 : ((c.toNat : Int) == 47) = false := by simp; omega
        have d5 : ((c.toNat : Int) == 96) = false := by simp; omega
        have d6 : ((c.toNat : Int) == -1) = false := by simp <;> omega
        have HI := Lib.hid (HI.out.trans p2)
        clear hall hp p2 p3 p4 p5 p6 p7
        go_wp2_with (first
          | (go_at_call 64
             refine (ident_ascii S s3 c.toNat 0 ad _ HC.out.1.at_.sc (H.out.2.1.fr HC.out.2.2.2.2).at_ HA.out (by omega)).mono ?_
             rintro e w' ⟨rfl, rfl⟩
             rw [HI.out])
          | (go_at_call 66; refine (dec_no _ _ (by omega)).mono ?_; rintro e w' ⟨rfl, rfl⟩)
          | (go_at_call 63
             refine (next_any S R s3 u [c] ad g _ HC.out.1.at_ (H.out.2.1.fr HC.out.2.2.2.2) (by simp) HU.out.asc).mono ?_
             intro e w3 hn
             obtain ⟨rfl, hk⟩ := hn.scanned
             clear hn
             obtain ⟨s5, HE⟩ := HC.out.scanned hk
             have HE := Lib.hid HE
             obtain ⟨c0, c1, c2, c3, f4, hb1, hp1⟩ := HE.out.cells
             clear hk))
        go_still_tail 12, (by kernel_rfl)
        change wpList _ _ _ _ _ w3.drew
        go_wp2_with fail
        go_ret
        exact Begun.end_ HE.out ((((Fr.refl _ _).set (.inl (by simp)) _).set (.inl (by simp)) _).drew) (((HE.out.1.at_.sc.set_tokEnd _).set_ch _).drew) rfl rfl rfl rfl rfl rfl rfl rfl rfl rfl rfl
      | dot u hdot =>
        rw [show hd (46 :: u) = 46 from rfl]
        have HU := Lib.hid hall.tail
        have HN := Lib.hid (dot_nodig hdot)
        clear hall hdot
        go_wp2_with (first
          | (go_at_call 64
             refine (ident_dot S s3 ad _ HC.out.1.at_.sc (H.out.2.1.fr HC.out.2.2.2.2).at_).mono ?_
             rintro e w' ⟨rfl, rfl⟩)
          | (go_at_call 66; refine (dec_no 46 _ (by omega)).mono ?_; rintro e w' ⟨rfl, rfl⟩)
          | (go_at_call 66; refine (dec_no _ _ HN.out).mono ?_; rintro e w' ⟨rfl, rfl⟩)
          | (go_at_call 63
             refine (next_any S R s3 u [46] ad g _ HC.out.1.at_ (H.out.2.1.fr HC.out.2.2.2.2) (by simp) HU.out.asc).mono ?_
             intro e w3 hn
             obtain ⟨rfl, hk⟩ := hn.scanned
             clear hn
             obtain ⟨s5, HE⟩ := HC.out.scanned hk
             have HE := Lib.hid HE
             obtain ⟨c0, c1, c2, c3, f4, hb1, hp1⟩ := HE.out.cells
             clear hk))
        go_still_tail 12, (by kernel_rfl)
        change wpList _ _ _ _ _ w3.drew
        go_wp2_with fail
        go_ret
        exact Begun.end_ HE.out ((((Fr.refl _ _).set (.inl (by simp)) _).set (.inl (by simp)) _).drew) (((HE.out.1.at_.sc.set_tokEnd _).set_ch _).drew) rfl rfl rfl rfl rfl rfl rfl rfl rfl rfl rfl
      | word c l u h1 h2 h3 h4 =>
        rw [show hd (c :: (l ++ u)) = (c.toNat : Int) from rfl]
        have HU := Lib.hid (hall.tail.right)
        have HA := Lib.hid (hall c (by simp)).2
        have HI := Lib.hid ((ident_letB c HA.out).trans h1)
        have HW := Lib.hid (And.intro h2 h3)
        clear hall h1 h2 h3
        go_wp2_with (first
          | (go_at_call 64
             refine (ident_ascii S s3 c.toNat 0 ad _ HC.out.1.at_.sc (H.out.2.1.fr HC.out.2.2.2.2).at_ HA.out (by omega)).mono ?_
             rintro e w' ⟨rfl, rfl⟩
             rw [HI.out])
          | (go_at_call 65
             refine (scan_ident S R s3 c l u ad g _ HC.out.1.at_ (H.out.2.1.fr HC.out.2.2.2.2) HW.out.1 h4 HW.out.2 HU.out.asc).mono ?_
             rintro e w3 ⟨rfl, hk⟩
             obtain ⟨s5, HE⟩ := HC.out.scanned hk
             have HE := Lib.hid HE
             obtain ⟨c0, c1, c2, c3, f4, hb1, hp1⟩ := HE.out.cells
             clear hk))
        go_still_tail 12, (by kernel_rfl)
        change wpList _ _ _ _ _ w3.drew
        go_wp2_with fail
        go_ret
        exact Begun.end_ HE.out ((((Fr.refl _ _).set (.inl (by simp)) _).set (.inl (by simp)) _).drew) (((HE.out.1.at_.sc.set_tokEnd _).set_ch _).drew) rfl rfl rfl rfl rfl rfl rfl rfl rfl rfl rfl
      | int c l u h1 h2 h3 h4 h5 =>
        rw [show hd (c :: (l ++ u)) = (c.toNat : Int) from rfl]
        have HU := Lib.hid (hall.tail.right)
        have HA := Lib.hid (hall c (by simp)).2
        have HI := Lib.hid ((ident_letB c HA.out).trans (digB_letB h1))
        have HD := Lib.hid (digB_asc h1)
        have HW := Lib.hid (And.intro h1 (And.intro h2 (And.intro h3 h4)))
        clear hall h1 h2 h3 h4
        go_wp2_with (first
          | (go_at_call 64
             refine (ident_ascii S s3 c.toNat 0 ad _ HC.out.1.at_.sc (H.out.2.1.fr HC.out.2.2.2.2).at_ HA.out (by omega)).mono ?_
             rintro e w' ⟨rfl, rfl⟩
             rw [HI.out])
          | (go_at_call 66; refine (dec_yes _ _ (by have := HD.out; omega) (by have := HD.out; omega)).mono ?_; rintro e w' ⟨rfl, rfl⟩)
          | (go_at_call 67
             refine (scan_int S R s3 c l u ad g _ HC.out.1 (H.out.2.1.fr HC.out.2.2.2.2) HW.out.1 HW.out.2.2.1 HW.out.2.1 h5 HW.out.2.2.2 HU.out.asc).mono ?_
             rintro e w3 ⟨rfl, hk⟩
             obtain ⟨s5, HE⟩ := HC.out.scanned hk
             have HE := Lib.hid HE
             obtain ⟨c0, c1, c2, c3, f4, hb1, hp1⟩ := HE.out.cells
             clear hk))
        go_still_tail 12, (by kernel_rfl)
        change wpList _ _ _ _ _ w3.drew
        go_wp2_with fail
        go_ret
        exact Begun.end_ HE.out ((((Fr.refl _ _).set (.inl (by simp)) _).set (.inl (by simp)) _).drew) (((HE.out.1.at_.sc.set_tokEnd _).set_ch _).drew) rfl rfl rfl rfl rfl rfl rfl rfl rfl rfl rfl

end Go.Proofs.YtobiaaabikfglaaGreatDoor
