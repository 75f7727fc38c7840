/-
  The package-level variables; utf8.FullRune; the scanner's 'next' where its buffer is at its end; 'next' as a whole; Peek. No conditions but lengths.
-/
import Derived.Test.YtobiaaabikfglaaGreatDoorR04
import Derived.Deep.DeepCutAuto
import Derived.Deep.CutBlock
import Derived.LoopN
import Derived.Deep.RegionHeld3
import Derived.LaidEql
namespace Go.Proofs.YtobiaaabikfglaaGreatDoor
open Go.RowKit Go.Proofs.YtobiaaabikfglaaGreatDoor.Pq Go.Lib

/-- what the package-level variables hold (in the world g that the call began with) -/
structure Gl (ad : Addr) (g : World) : Prop where
  eof : g.cell? ⟨1, 0, none⟩ = some (eofV ad)
  tabs : Lib.Utf8Tabs 2 3 g
  prop : Lib.TabIs Tryz.prog g "unicode.properties" .u8 Lib.propertiesTab
  letter : RVar 5 letterT g
  digit : RVar 6 digitT g

/-- .. and nothing since has turned what was there then; nor may it -/
structure Gd (ad : Addr) (g w : World) (ms : List Nat) : Prop where
  gl : Gl ad g
  below : Below g.heap.size g w
  hi : ∀ k, k ∈ ms → g.heap.size ≤ k

theorem Gd.fr {ad : Addr} {g w w' : World} {ms ms' : List Nat} (h : Gd ad g w ms) (hf : Fr ms w ms' w') : Gd ad g w' ms' :=
  ⟨h.gl, h.below.trans (hf.to_below h.below.size h.hi), fun k hk => by rcases hf.new k hk with h1 | h1; exact h.hi k h1; exact Nat.le_trans h.below.size h1⟩
theorem Gd.less {ad : Addr} {g w : World} {ms ms' : List Nat} (h : Gd ad g w ms) (hs : ∀ k, k ∈ ms' → k ∈ ms) : Gd ad g w ms' := ⟨h.gl, h.below, fun k hk => h.hi k (hs k hk)⟩
theorem Gd.at_ {ad : Addr} {g w : World} {ms : List Nat} (h : Gd ad g w ms) : Gl ad w :=
  ⟨by rw [World.cell?_of_block (h.below.block _ (by have := h.gl.eof; rcases Nat.lt_or_ge 1 g.heap.size with hl | hl; exact hl; simp [World.cell?, Array.getElem?_eq_none hl] at this))]; exact h.gl.eof,
   Utf8Tabs_below h.gl.tabs h.below, TabIs_below (g := 4) (by kernel_rfl) h.gl.prop h.below, RVar_below h.gl.letter h.below, RVar_below h.gl.digit h.below⟩

theorem full_no (a : Option Addr) (c : Nat) (w : World) : Calls Tryz.prog 91 #[.slice a 0 c] w fun e w' => e = .returned (.bool false) ∧ w' = w := by
  go_enter Tryz.func91, Tryz.ntmps91
  go_wp2_with fail
  go_ret
  exact ⟨rfl, rfl⟩

theorem full_ascii (S o n c b : Nat) (ad : Addr) (w : World) (hb : w.cell? ⟨S, o, none⟩ = some (.int .u8 b)) (hl : b < 128) (hn : 1 ≤ n) (G : Gl ad w) :
    Calls Tryz.prog 91 #[.slice (some ⟨S, o, none⟩) n c] w fun e w' => e = .returned (.bool true) ∧ w' = w := by
  have ht : w.cell? ⟨2, b, none⟩ = some (.int .u8 240) := by
    have := G.tabs.1 b (by omega)
    rw [show Lib.firstT b = 240 by unfold Lib.firstT; simp; omega] at this
    simpa using this
  clear G
  go_enter Tryz.func91, Tryz.ntmps91
  go_wp2_with fail
  go_ret
  exact ⟨rfl, rfl⟩

/-- 'copy(s.srcBuf[0:], s.srcBuf[p:p])' -/
theorem run_copy_self (S p n dc sc : Nat) (s : Sc) (w : World) (h : ScAt w S s) :
    (Builtin.copy_ #[34, 34] 3 #[.slice (some ⟨S, 1, none⟩) n dc, .slice (some ⟨S, p, none⟩) 0 sc]).run Tryz.prog w = .ok (.int .i64 0) w := by
  have := run_copy_row (P := Tryz.prog) w 34 34 3 5 S 1 n dc ⟨S, p, none⟩ 0 sc s.cells 182 [] Tryz.underlying34 (by kernel_rfl) h.bl (by simp) (by simp) (by simp [Sc.cells]) (by simp)
  rw [this]
  simp
  exact ⟨rfl, setRow_self w S s.cells 182 (0, 0) h.bl⟩

theorem u_buf : Tryz.prog.underlying 171 = some (.array (Tryz.prog.arrayLen 171) (Tryz.prog.elem 171)) := by kernel_rfl
theorem l_buf : Tryz.prog.arrayLen 171 = 1025 := by kernel_rfl
theorem e_buf : Tryz.prog.elem 171 = 5 := by kernel_rfl
theorem s_byte (W : World) : (sizeOf 5).run Tryz.prog W = .ok 1 W := Tryz.sizeOf5 W

/-- 's.srcBuf[l:h]' -/
theorem run_sub (S l h : Nat) (hl : l ≤ h) (hh : h ≤ 1025) (h0 : l < 1025) (W : World) :
    (Instr.sliceAt 171 (.pointer (some ⟨S, 1, none⟩)) (some (.int .i64 l)) (some (.int .i64 h)) none).run Tryz.prog W = .ok (.slice (some ⟨S, 1 + l, none⟩) (h - l) (1025 - l)) W := by
  rw [run_sliceAt_array_lh W _ _ u_buf .i64 .i64 l h (by omega) (by omega) (by rw [l_buf]; omega), e_buf, s_byte]
  simp only [Result.andThen, slicedAt, l_buf, Int.toNat_natCast, Nat.mul_one]
  rw [if_neg (by omega), Lib.addr_add]
theorem run_sub0 (S : Nat) (W : World) :
    (Instr.sliceAt 171 (.pointer (some ⟨S, 1, none⟩)) (some (.int .i64 0)) none none).run Tryz.prog W = .ok (.slice (some ⟨S, 1, none⟩) 1025 1025) W := by
  rw [run_sliceAt_array_l W _ _ u_buf .i64 0 (by omega) (by rw [l_buf]; omega), e_buf, s_byte]
  simp only [Result.andThen, slicedAt, l_buf, Nat.mul_one]
  rfl

@[go_sem] theorem method_read (a : Addr) (w : World) : (method 452 203 (.pointer (some a)) "Read").run Tryz.prog w = .ok (192, .pointer (some a)) w := by kernel_rfl
@[go_sem] theorem nil_ahead (a : Addr) (w : World) : (nilAhead 157 203 (.pointer (some a)) "Read").run Tryz.prog w = .ok (some false) w := by kernel_rfl

/-- 'err != io.EOF', where it is -/
theorem run_neq_eof (ad : Addr) (w : World) :
    (binOp .neq 89 (.iface 299 (.pointer (some ad))) (.iface 299 (.pointer (some ad)))).run Tryz.prog w = .ok (.bool false) w := by
  obtain ⟨i, hi, hc⟩ := Option.map_eq_some_iff.1 (by kernel_rfl : (Tryz.prog.info? 299).map (·.comparable) = some true)
  have hs : (Tryz.prog.info? 337).isSome = true := by kernel_rfl
  obtain ⟨j, hj⟩ := Option.isSome_iff_exists.1 hs
  simp only [binOp]
  simp [Op.equal, Op.maxDepth, run_equalIn_iface_ptr_same w 9998 ad Tryz.underlying89 Tryz.underlying299 hi hc hj]

theorem Fr.wide2 {ms ms' m2 m2' : List Nat} {w w' : World} (h : Fr ms w ms' w') (hs : ∀ k, k ∈ ms → k ∈ m2) (hs' : ∀ k, k ∈ m2' → k ∈ ms' ∨ k ∈ m2) : Fr m2 w m2' w' :=
  ⟨⟨h.kept.os, h.kept.tape, h.kept.output, h.kept.size, fun k hk hn => h.kept.block k hk fun hm => hn (hs k hm)⟩, fun k hk => by
    rcases hs' k hk with h1 | h1
    · rcases h.new k h1 with h2 | h2
      · exact .inl (hs k h2)
      · exact .inr h2
    · exact .inl h1⟩

theorem TbOk.own {w w' : World} {S R : Nat} {tb : Value} {ta : Bs} (h : TbOk w S R tb ta) (hf : Fr [S] w [S] w') : TbOk w' S R tb ta :=
  h.fr hf (fun k hk e => h.ne.1 (by simp at e; rw [← e]; exact hk))
theorem RdAt.own {w w' : World} {S R : Nat} {rd : Bs} {s : Sc} (h : RdAt w R rd) (hs : ScAt w S s) (hf : Fr [S] w [S] w') : RdAt w' R rd := by
  have hne : S ≠ R := by obtain ⟨_, _, _, hb, _⟩ := h.ex; exact hs.bl.ne hb (by decide)
  exact h.fr hf (by simp; exact fun e => hne e.symm)

theorem ScAt.fr {w w' : World} {S : Nat} {s : Sc} (h : ScAt w S s) (hf : Fr [] w [] w') : ScAt w' S s := ⟨h.len, (hf.bl h.bl (by simp)).1⟩

/-- the scanner's memory, on the way -/
structure Mid (S R : Nat) (ms : List Nat) (w : World) (ta rd : Bs) (s : Sc) (w1 : World) : Prop where
  sc : ScAt w1 S s
  tb : TbOk w1 S R s.tb ta
  rd : RdAt w1 R rd
  fr : Fr ms w (s.ms S R) w1

theorem Mid.step {S R : Nat} {ms : List Nat} {w : World} {ta rd : Bs} {s s' : Sc} {w1 w2 : World} (h : Mid S R ms w ta rd s w1) (h1 : ScAt w2 S s') (h2 : Fr [S] w1 [S] w2) (h3 : s'.tb = s.tb) : Mid S R ms w ta rd s' w2 :=
  ⟨h1, by rw [h3]; exact h.tb.own h2, h.rd.own h.sc h2, by
    have e : s'.ms S R = s.ms S R := by simp [Sc.ms, h3]
    rw [e]
    exact h.fr.trans (h2.wide (fun k hk => by simp at hk; simp [Sc.ms, hk]))⟩
theorem Mid.drew {S R : Nat} {ms : List Nat} {w : World} {ta rd : Bs} {s : Sc} {w1 : World} (h : Mid S R ms w ta rd s w1) : Mid S R ms w ta rd s w1.drew := h.step h.sc.drew (Fr.refl _ _).drew rfl
theorem Mid.drewN {S R : Nat} {ms : List Nat} {w : World} {ta rd : Bs} {s : Sc} {w1 : World} (h : Mid S R ms w ta rd s w1) (n : Nat) : Mid S R ms w ta rd s (w1.drewN n) := h.step (h.sc.drewN n) ((Fr.refl _ _).drewN n) rfl

theorem Mid.read {S R : Nat} {ms : List Nat} {w : World} {ta rd rd' : Bs} {s s' : Sc} {w1 w2 : World} (h : Mid S R ms w ta rd s w1) (h1 : ScAt w2 S s') (h2 : Fr [S, R] w1 [S, R] w2) (h3 : s'.tb = s.tb) (h4 : RdAt w2 R rd') : Mid S R ms w ta rd' s' w2 :=
  ⟨h1, by rw [h3]; exact h.tb.fr h2 (fun k hk e => by
      simp only [List.mem_cons, List.not_mem_nil, or_false] at e
      rcases e with rfl | rfl
      · exact h.tb.ne.1 hk
      · exact h.tb.ne.2 hk), h4, by
    have e : s'.ms S R = s.ms S R := by simp [Sc.ms, h3]
    rw [e]
    exact h.fr.trans (h2.wide (fun k hk => by simp at hk; rcases hk with rfl | rfl <;> simp [Sc.ms]))⟩

theorem Same.trans {a b c : Sc} (h : Same a b) (k : Same b c) : Same a c := ⟨k.ch.trans h.ch, k.tokEnd.trans h.tokEnd, k.err.trans h.err, k.ec.trans h.ec, k.tok.trans h.tok⟩

theorem SAt.step2 {w0 w w' : World} {S R : Nat} {s0 s s' : Sc} {c : UInt8} {u acc : Bs} (h : SAt w S R s (c :: u) acc) (hs0 : Same s0 s) (hf0 : Fr (s0.ms S R) w0 (s.ms S R) w) (hp : s.pos < s.fin) (hf : Fr [S] w [S] w') (hs : ScAt w' S s') (h1 : s'.src = s.src) (h2 : s'.tb = s.tb)
    (h3 : s'.buf = s.buf) (h4 : s'.fin = s.fin) (h5 : s'.pos = s.pos + 1) (h6 : s'.tokPos = s.tokPos) (h7 : s'.ch = s.ch) (h8 : s'.tokEnd = s.tokEnd) (h9 : s'.err = s.err) (h10 : s'.ec = s.ec) (h11 : s'.lcl = 1) :
    ∃ s', SAt w' S R s' u (acc ++ [c]) ∧ Same s0 s' ∧ Fr (s0.ms S R) w0 (s'.ms S R) w' ∧ Last s' [c] := by
  obtain ⟨s2, k1, k2, k3, k4⟩ := h.step hp hf hs h1 h2 h3 h4 h5 h6 h7 h8 h9 h10 h11
  exact ⟨s2, k1, hs0.trans k2, hf0.trans k3, k4⟩

/-- at the end of the text -/
theorem SAt.ended {w0 w w' : World} {S R : Nat} {s0 s s' : Sc} {acc : Bs} (h : SAt w S R s [] acc) (hs0 : Same s0 s) (hf0 : Fr (s0.ms S R) w0 (s.ms S R) w) (hf : Fr [S] w [S] w') (hs : ScAt w' S s') (h1 : s'.src = s.src) (h2 : s'.tb = s.tb)
    (h3 : s'.buf = s.buf) (h4 : s'.fin = s.fin) (h5 : s'.pos = s.pos) (h6 : s'.tokPos = s.tokPos) (h7 : s'.ch = s.ch) (h8 : s'.tokEnd = s.tokEnd) (h9 : s'.err = s.err) (h10 : s'.ec = s.ec) (h11 : s'.lcl = 0) :
    ∃ s', SAt w' S R s' [] (acc ++ []) ∧ Same s0 s' ∧ Fr (s0.ms S R) w0 (s'.ms S R) w' ∧ Last s' [] := by
  refine ⟨s', h.own hf hs h1 h2 (fun rd hu => ?_) (by rw [h4, h5]; exact h.le) (by rw [h4]; exact h.le2) (by rw [h3, h4]; exact h.sent) (fun ta hta ht => ?_), hs0.trans ⟨h7, h8, h9, h10, by rw [h6]⟩, ?_, h11, Nat.zero_le _, rfl, ?_⟩
  · simpa [Sc.have_, h3, h4, h5] using hu
  · rw [h6, h5, h3, List.append_nil]; exact ht
  · have e : s'.ms S R = s.ms S R := by simp [Sc.ms, h2]
    rw [e]
    exact hf0.trans (hf.wide (fun k hk => by simp at hk; simp [Sc.ms, hk]))
  · obtain ⟨ta, _, ht⟩ := h.tb
    rw [h5, h6, h11]
    rcases ht with ht | ⟨p, hp1, hp2, _⟩ <;> omega

/-- the scanner behind its refill -/
theorem refilled {S R : Nat} {s : Sc} {u acc : Bs} {w w1 : World} {ta1 rd : Bs} {k : Nat} {tp1 : Int} {tb1 : Value} {tbl1 off1 : Int} (h : SAt w S R s u acc) (hp : s.pos = s.fin) (hu : u = s.have_ ++ rd) (hk : k ≤ 1024) (hk3 : k ≤ rd.length)
    (q : Mid S R (s.ms S R) w ta1 (rd.drop k) { s with buf := (s.buf.take 0 ++ rd.take k ++ s.buf.drop (0 + k)).set k 128, pos := 0, fin := k, off := off1, tb := tb1, tbl := tbl1, tokPos := tp1 } w1)
    (ht : s.tokPos < 0 ∧ tp1 < 0 ∨ 0 ≤ s.tokPos ∧ tp1 = 0 ∧ ta1 = acc) :
    ∃ s4, SAt w1 S R s4 u acc ∧ Same s s4 ∧ Fr (s.ms S R) w (s4.ms S R) w1 ∧ s4.pos = 0 ∧ s4.fin = k := by
  have hl := q.sc.len
  have hlb := h.sc.len
  refine ⟨_, ⟨q.sc, h.src, ⟨rd.drop k, q.rd, ?_⟩, Nat.zero_le _, hk, ?_, ta1, q.tb, ?_⟩, ⟨rfl, rfl, rfl, rfl, ?_⟩, q.fr, rfl, rfl⟩
  · rw [hu]
    have e1 : s.have_ = [] := by simp [Sc.have_, hp]
    rw [e1]
    simp only [Sc.have_, List.drop_zero, Nat.sub_zero, List.take_zero, List.nil_append]
    rw [List.take_set_of_le (Nat.le_refl _), List.take_append_of_le_length (by simp; omega), List.take_take, Nat.min_self, List.take_append_drop]
  · simp only [List.take_zero, List.nil_append, Nat.zero_add]
    rw [List.getElem?_set_self (by simp [hlb]; omega)]
  · rcases ht with ⟨_, h2⟩ | ⟨_, h2, h3⟩
    · exact .inl h2
    · exact .inr ⟨0, h2, Nat.zero_le _, by simp [h3]⟩
  · show tp1 < 0 ↔ s.tokPos < 0
    rcases ht with ⟨h1, h2⟩ | ⟨h1, h2, h3⟩
    · omega
    · omega

/-- behind the saving of the token's text -/
structure Saved (S R : Nat) (s : Sc) (acc rd : Bs) (w : World) (s1 : Sc) (ta : Bs) (w1 : World) : Prop where
  sc : ScAt w1 S s1
  tb : TbOk w1 S R s1.tb ta
  rd : RdAt w1 R rd
  eq : s1 = { s with tb := s1.tb, tbl := s1.tbl, tokPos := s1.tokPos }
  tok : s.tokPos < 0 ∧ s1.tokPos < 0 ∨ 0 ≤ s.tokPos ∧ s1.tokPos = 0 ∧ ta = acc
  fr : Fr (s.ms S R) w (s1.ms S R) w1

set_option maxRecDepth 100000 in
set_option maxHeartbeats 12000000 in
theorem next_fill (S R : Nat) (s : Sc) (u acc : Bs) (ad : Addr) (g w : World) (h : SAt w S R s u acc) (G : Gd ad g w (s.ms S R)) (hp : s.pos = s.fin) (hl : acc.length ≤ 60) (hu : ∀ c, u.head? = some c → 0 < c.toNat ∧ c.toNat < 128) :
    Calls Tryz.prog 63 #[.pointer (some ⟨S, 0, none⟩)] w (Next1 S R s u acc w) := by
  obtain ⟨ta, hta, htp⟩ := h.tb
  obtain ⟨rd, hrd, hur⟩ := h.rd
  have hle := h.le2
  have hb := h.sc.byte (j := s.pos) (c := 128) (by rw [hp]; exact h.sent)
  have c0 := h.sc.named.pos
  have c1 := h.sc.named.fin
  have c2 := h.sc.named.tokPos
  have hlt : s.pos < 1025 := by omega
  rw [← hp] at c1 hle
  unfold byteV at hb
  have H := Lib.hid (And.intro h (And.intro G (And.intro hta (And.intro htp (And.intro hp (And.intro hrd hur))))))
  clear h G hta htp hp hrd hur
  have hd1 : decide ((s.pos : Int) < (s.pos : Int) + 4) = true := by simp; omega
  have hs1 := run_sub S s.pos s.pos (Nat.le_refl _) (by omega) (by omega)
  have hs3 := run_sub0 S
  rw [Nat.sub_self] at hs1
  go_enter Tryz.func63, Tryz.ntmps63
  go_wp2_with fail
  go_quiet (fail)
  go_wp2_with fail
  refine wp_loop_rounds 2 ?_
  rw [rounds_succ]
  obtain ⟨w0, hw0⟩ : ∃ w0, w0 = w.drewN nq := ⟨_, rfl⟩
  rw [← hw0]
  have c0 : w0.cell? ⟨S, 1026, none⟩ = some (.int .i64 s.pos) := by rw [hw0]; exact c0
  have c1 : w0.cell? ⟨S, 1027, none⟩ = some (.int .i64 s.pos) := by rw [hw0]; exact c1
  have c2 : w0.cell? ⟨S, 1036, none⟩ = some (.int .i64 s.tokPos) := by rw [hw0]; exact c2
  have HW := Lib.hid hw0
  clear hw0
  go_wp2_with fail
  go_quiet ((go_at_call 91; exact Calls.quiet_of_same (full_no _ _ _)))
  obtain ⟨w2, hw2⟩ : ∃ w2, w2 = w0.drewN nq := ⟨_, rfl⟩
  rw [← hw2]
  have HW2 : Hid (ScAt w2 S s ∧ TbOk w2 S R s.tb ta ∧ RdAt w2 R rd ∧ Fr (s.ms S R) w (s.ms S R) w2) := by
    obtain ⟨h, G, hta, htp, hp, hrd, hur⟩ := H.out
    rw [hw2, HW.out]
    exact Lib.hid ⟨(h.sc.drewN _).drewN _, hta.fr (((Fr.refl [] _).drewN _).drewN _) (by simp), hrd.fr (((Fr.refl [] _).drewN _).drewN _) (by simp), ((Fr.refl _ _).drewN _).drewN _⟩
  have c0 : w2.cell? ⟨S, 1026, none⟩ = some (.int .i64 s.pos) := by rw [hw2]; exact c0
  have c1 : w2.cell? ⟨S, 1027, none⟩ = some (.int .i64 s.pos) := by rw [hw2]; exact c1
  have c2 : w2.cell? ⟨S, 1036, none⟩ = some (.int .i64 s.tokPos) := by rw [hw2]; exact c2
  clear hw2 HW
  go_upto_if 50 with (fail)
  go_cut [] (fun wx => ∃ s1 ta1, Saved S R s acc rd w s1 ta1 wx)
  case first =>
    by_cases ht : s.tokPos < 0
    · go_wp2_with fail
      go_meet
      obtain ⟨k1, k2, k3, k4⟩ := HW2.out
      exact ⟨s, ta, k1, k2, k3, rfl, .inl ⟨ht, ht⟩, k4⟩
    · obtain ⟨p, hp1, hp2, hp3⟩ : ∃ p : Nat, s.tokPos = p ∧ p ≤ s.pos ∧ acc = ta ++ (s.buf.drop p).take (s.pos - p) := by rcases H.out.2.2.2.1 with h1 | h1; exact absurd h1 ht; exact h1
      have HT := Lib.hid (And.intro hp3 hp1)
      have hs2 := run_sub S p s.pos hp2 (by omega) (by omega)
      rw [hp1] at c2
      rw [hp1]
      clear hp3 hp1 ht
      go_wp2_with fail
      go_still_tail 15, (by kernel_rfl)
      change wpList _ _ _ _ _ w2.drew
      obtain ⟨w3, hw3⟩ : ∃ w3, w3 = w2.drew := ⟨_, rfl⟩
      rw [← hw3]
      have HW3 : Hid (ScAt w3 S s ∧ TbOk w3 S R s.tb ta ∧ RdAt w3 R rd ∧ Fr (s.ms S R) w (s.ms S R) w3) := by
        obtain ⟨k1, k2, k3, k4⟩ := HW2.out
        rw [hw3]
        exact Lib.hid ⟨k1.drew, k2.fr (Fr.refl [] _).drew (by simp), k3.fr (Fr.refl [] _).drew (by simp), k4.drew⟩
      clear hw3 HW2
      go_wp2_with (
        go_at_call 79
        refine (isWrite S R p (s.pos - p) _ s ta w3 HW3.out.1 HW3.out.2.1 (by obtain ⟨_, _, _, hb, _⟩ := HW3.out.2.2.1.ex; exact hb.lt) (by omega) (by
          have := congrArg List.length HT.out.1
          have hlb := HW3.out.1.len
          rw [List.length_append, List.length_take, List.length_drop] at this
          omega)).mono ?_
        rintro e w4 ⟨rfl, tb', k1, k2, k3⟩
        have f1 : w4.frozen? ⟨S, 1036, none⟩ = false := k1.bl.free _
        have e1 : w4.cell? ⟨S, 1036, none⟩ = some (.int .i64 s.tokPos) := k1.named.tokPos
        have HK := Lib.hid (And.intro k1 (And.intro k2 k3))
        clear k1 k2 k3)
      go_meet
      obtain ⟨k1, k2, k3⟩ := HK.out
      obtain ⟨m1, m2, m3, m4⟩ := HW3.out
      have hf : Fr [S] w4 [S] (w4.setCell ⟨S, 1036, none⟩ (.int .i64 0)) := (Fr.refl _ _).set (.inl (by simp)) _
      have hne : S ≠ R := by obtain ⟨_, _, _, hb, _⟩ := m3.ex; exact m1.bl.ne hb (by decide)
      have hr : R ∉ S :: rowOf s.tb := by simp only [List.mem_cons, not_or]; exact ⟨fun e => hne e.symm, m2.ne.2⟩
      refine ⟨{ s with tb := tb', tbl := 0, tokPos := 0 }, acc, k1.set_tokPos 0, ?_, (m3.fr k3 hr).own k1 hf, rfl, .inr ⟨by rw [HT.out.2]; omega, rfl, rfl⟩, ?_⟩
      · rw [HT.out.1]; exact k2.own hf
      · refine m4.trans ((k3.wide2 (m2 := s.ms S R) (m2' := S :: R :: rowOf tb') (fun k hk => ?_) (fun k hk => ?_)).set (.inl (by simp [Sc.ms])) _)
        · simp [Sc.ms] at hk ⊢; rcases hk with h | h <;> simp [h]
        · simp [Sc.ms] at hk ⊢; rcases hk with h | h | h <;> simp [h]
  case rest =>
    obtain ⟨s1, ta1, hcut⟩ := hcut
    obtain ⟨q1, q2, q3, q4, q5, q6⟩ := hcut
    generalize s1.tb = tb1 at *
    generalize s1.tbl = tbl1 at *
    generalize s1.tokPos = tp1 at *
    subst q4
    clear HW2 c0 c1 c2 hs1
    have c0 : wc.cell? ⟨S, 1026, none⟩ = some (.int .i64 s.pos) := q1.named.pos
    have c1 : wc.cell? ⟨S, 1027, none⟩ = some (.int .i64 s.pos) := by rw [H.out.2.2.2.2.1]; exact q1.named.fin
    have hcp := run_copy_self S (1 + s.pos) 1025 1025 (1025 - s.pos) _ _ q1.drew
    have hs1 := run_sub S s.pos s.pos (Nat.le_refl _) (by omega) (by omega)
    rw [Nat.sub_self] at hs1
    have HQ := Lib.hid (And.intro (Mid.mk q1 q2 q3 q6) q5)
    clear q1 q2 q3 q5 q6
    go_wp2_with fail
    go_still_tail 16, (by kernel_rfl)
    change wpList _ _ _ _ _ wc.drew
    go_wp2_with fail
    obtain ⟨w5, hw5⟩ : ∃ w5, w5 = wc.drew := ⟨_, rfl⟩
    rw [← hw5]
    have q1 := HQ.out.1.drew
    rw [← hw5] at q1
    clear hw5 hcp c0 c1
    have c0 : w5.cell? ⟨S, 1026, none⟩ = some (.int .i64 s.pos) := q1.sc.named.pos
    have c3 : w5.cell? ⟨S, 1028, none⟩ = some (.int .i64 s.off) := q1.sc.named.off
    have f3 : w5.frozen? ⟨S, 1028, none⟩ = false := q1.sc.bl.free _
    have HQ := Lib.hid (And.intro q1 HQ.out.2)
    clear q1
    go_still_tail 11, (by kernel_rfl)
    change wpList _ _ _ _ _ w5.drew
    go_wp2_with fail
    obtain ⟨w6, hw6⟩ : ∃ w6, w6 = (w5.setCell ⟨S, 1028, none⟩ (.int .i64 (wrap64 (s.off + s.pos)))).drew := ⟨_, rfl⟩
    rw [← hw6]
    have q1 := (HQ.out.1.step (HQ.out.1.sc.set_off (wrap64 (s.off + s.pos))) ((Fr.refl _ _).set (.inl (by simp)) _) rfl).drew
    rw [← hw6] at q1
    clear hw6 c0 c3 f3
    have c0 : w6.cell? ⟨S, 1026, none⟩ = some (.int .i64 s.pos) := q1.sc.named.pos
    have c1 : w6.cell? ⟨S, 1027, none⟩ = some (.int .i64 s.pos) := by rw [H.out.2.2.2.2.1]; exact q1.sc.named.fin
    have HQ := Lib.hid (And.intro q1 HQ.out.2)
    clear q1
    go_quiet (fail)
    go_wp2_with fail
    obtain ⟨w7, hw7⟩ : ∃ w7, w7 = w6.drewN nq := ⟨_, rfl⟩
    rw [← hw7]
    have q1 := HQ.out.1.drewN nq
    rw [← hw7] at q1
    clear hw7 c0 c1
    have c2 : w7.cell? ⟨S, 0, none⟩ = some (.iface 203 (.pointer (some ⟨R, 0, none⟩))) := by rw [← H.out.1.src]; exact q1.sc.named.src
    have HQ := Lib.hid (And.intro q1 HQ.out.2)
    clear q1
    have hs4 : ∀ W, (Instr.sliceAt 171 (.pointer (some ⟨S, 1, none⟩)) (some (.int .i64 0)) (some (.int .i64 1024)) none).run Tryz.prog W = .ok (.slice (some ⟨S, 1 + 0, none⟩) 1024 1025) W := fun W => run_sub S 0 1024 (by omega) (by omega) (by omega) W
    by_cases hrd : rd = []
    · subst hrd
      have ce : w7.drew.cell? ⟨1, 0, none⟩ = some (eofV ad) := (H.out.2.1.fr HQ.out.1.drew.fr).at_.eof
      have HE := Lib.hid ce
      clear ce
      go_region_held3 (fun w' => w'.cell? ⟨S, 0, none⟩ = some (.iface 203 (.pointer (some ⟨R, 0, none⟩)))) (first | exact c2 | exact f1) ((
        go_at_call 192
        refine (read_end S R 0 1024 1025 ad _ HQ.out.1.drew.rd HE.out).mono ?_
        rintro e w8 ⟨rfl, k2, k3⟩
        have q1 := HQ.out.1.drew.read (HQ.out.1.drew.sc.fr k3) (k3.wide (by simp)) rfl k2
        have f1 : w8.cell? ⟨S, 0, none⟩ = some (.iface 203 (.pointer (some ⟨R, 0, none⟩))) := by rw [← H.out.1.src]; exact q1.sc.named.src
        have ge : w8.cell? ⟨1, 0, none⟩ = some (eofV ad) := (H.out.2.1.fr q1.fr).at_.eof
        unfold eofV at ge ⊢
        have c0 : w8.cell? ⟨S, 1026, none⟩ = some (.int .i64 s.pos) := q1.sc.named.pos
        have c1 : w8.cell? ⟨S, 1027, none⟩ = some (.int .i64 s.fin) := q1.sc.named.fin
        have c4 : ∀ o, w8.frozen? ⟨S, o, none⟩ = false := q1.sc.bl.free
        have HP := Lib.hid (And.intro q1 HQ.out.2)
        clear q1 k2 k3))
      clear c2 f1
      have HGE := Lib.hid ge
      clear ge
      go_wp2_with fail
      obtain ⟨w9, hw9⟩ : ∃ w9, w9 = (w8.setCell ⟨S, 1026, none⟩ (.int .i64 0)).setCell ⟨S, 1027, none⟩ (.int .i64 0) := ⟨_, rfl⟩
      rw [← hw9]
      have q1 := HP.out.1.step ((HP.out.1.sc.set_pos_of 0 0 rfl).set_fin_of 0 0 rfl) (((Fr.refl _ _).set (.inl (by simp)) _).set (.inl (by simp)) _) rfl
      rw [← hw9] at q1
      clear hw9 c0 c1 c4
      have c1 : w9.cell? ⟨S, 1027, none⟩ = some (.int .i64 0) := q1.sc.named.fin
      obtain ⟨b9, hb9⟩ : ∃ b9, w9.cell? ⟨S, 1, none⟩ = some (byteV b9) := ⟨_, q1.sc.byte (j := 0) (List.getElem?_eq_getElem (by have := q1.sc.len; omega))⟩
      have c4 : ∀ o, w9.frozen? ⟨S, o, none⟩ = false := q1.sc.bl.free
      have c3 : w9.cell? ⟨S, 1030, none⟩ = some (.int .i64 s.col) := q1.sc.named.col
      have c6 : w9.cell? ⟨S, 1032, none⟩ = some (.int .i64 s.lcl) := q1.sc.named.lcl
      have ge : w9.cell? ⟨1, 0, none⟩ = some (.iface 299 (.pointer (some ad))) := (H.out.2.1.fr q1.fr).at_.eof
      have HP := Lib.hid (And.intro q1 HP.out.2)
      clear q1 HGE HE hs1 hs3 hs4 hd1 hb
      have hu0 : u = [] := by
        have := H.out.2.2.2.2.2.2
        rw [this, Sc.have_, H.out.2.2.2.2.1]
        simp
      go_still_tail 8, (by kernel_rfl)
      change wpList _ _ _ _ _ w9.drew
      have HU := Lib.hid hu0
      clear hu0
      rcases Nat.lt_or_ge 0 s.lcl with hl0 | hl0
      rotate_left
      · have hl0 : ¬ 0 < s.lcl := by omega
        have hne := run_neq_eof ad
        go_wp2_with fail
        go_ret
        obtain rfl := HU.out
        have q1 := (HP.out.1.step (HP.out.1.sc.putByte 0 (by omega) 128) ((Fr.refl _ _).set (.inl (by simp)) _) rfl).drew
        obtain ⟨s4, A⟩ := refilled (k := 0) (rd := []) H.out.1 H.out.2.2.2.2.1 H.out.2.2.2.2.2.2 (by omega) (by simp) (by simpa using q1) HP.out.2
        refine ⟨rfl, A.1.ended A.2.1 A.2.2.1 ?_ (A.1.sc.set_lcl_of 0 0 rfl) rfl rfl rfl rfl rfl rfl rfl rfl rfl rfl rfl⟩
        exact (Fr.refl _ _).set (.inl (by simp)) _
      · have hne := run_neq_eof ad
        go_wp2_with fail
        go_ret
        obtain rfl := HU.out
        have q1 := (HP.out.1.step (HP.out.1.sc.putByte 0 (by omega) 128) ((Fr.refl _ _).set (.inl (by simp)) _) rfl).drew
        obtain ⟨s4, A⟩ := refilled (k := 0) (rd := []) H.out.1 H.out.2.2.2.2.1 H.out.2.2.2.2.2.2 (by omega) (by simp) (by simpa using q1) HP.out.2
        refine ⟨rfl, A.1.ended A.2.1 A.2.2.1 ?_ ((A.1.sc.set_col _).set_lcl_of 0 0 rfl) rfl rfl rfl rfl rfl rfl rfl rfl rfl rfl rfl⟩
        exact ((Fr.refl _ _).set (.inl (by simp)) _).set (.inl (by simp)) _
    · go_region_held3 (fun w' => w'.cell? ⟨S, 0, none⟩ = some (.iface 203 (.pointer (some ⟨R, 0, none⟩)))) (first | exact c2 | exact f1) ((
        go_at_call 192
        refine (read_some S R 0 1024 1025 _ rd _ HQ.out.1.sc.drew HQ.out.1.drew.rd hrd (by omega)).mono ?_
        rintro e w8 ⟨rfl, k1, k2, k3⟩
        have q1 := HQ.out.1.drew.read k1 k3 rfl k2
        have f1 : w8.cell? ⟨S, 0, none⟩ = some (.iface 203 (.pointer (some ⟨R, 0, none⟩))) := by rw [← H.out.1.src]; exact k1.named.src
        have hk1 : 1 ≤ min rd.length 1024 := by have := List.length_pos_iff.2 hrd; omega
        have hk2 : min rd.length 1024 ≤ 1024 := Nat.min_le_right _ _
        have hk3 : min rd.length 1024 ≤ rd.length := Nat.min_le_left _ _
        clear k1 k2 k3
        generalize min rd.length 1024 = k at *
        have c0 : w8.cell? ⟨S, 1026, none⟩ = some (.int .i64 s.pos) := q1.sc.named.pos
        have c1 : w8.cell? ⟨S, 1027, none⟩ = some (.int .i64 s.fin) := q1.sc.named.fin
        have c4 : ∀ o, w8.frozen? ⟨S, o, none⟩ = false := q1.sc.bl.free
        have HP := Lib.hid (And.intro q1 HQ.out.2)
        clear q1))
      clear c2 f1
      go_wp2_with fail
      obtain ⟨w9, hw9⟩ : ∃ w9, w9 = (w8.setCell ⟨S, 1026, none⟩ (.int .i64 0)).setCell ⟨S, 1027, none⟩ (.int .i64 k) := ⟨_, rfl⟩
      rw [← hw9]
      have q1 := HP.out.1.step ((HP.out.1.sc.set_pos_of 0 0 rfl).set_fin k) (((Fr.refl _ _).set (.inl (by simp)) _).set (.inl (by simp)) _) rfl
      rw [← hw9] at q1
      clear hw9 c0 c1 c4
      have c1 : w9.cell? ⟨S, 1027, none⟩ = some (.int .i64 k) := q1.sc.named.fin
      have hkb : k < 1025 := by omega
      obtain ⟨b9, hb9⟩ : ∃ b9, w9.cell? ⟨S, 1 + k, none⟩ = some (byteV b9) := ⟨_, q1.sc.byte (List.getElem?_eq_getElem (by have := q1.sc.len; omega))⟩
      have c4 : ∀ o, w9.frozen? ⟨S, o, none⟩ = false := q1.sc.bl.free
      have HP := Lib.hid (And.intro q1 HP.out.2)
      clear q1
      have hki : (k : Int) < 1025 := by omega
      have hki0 : (0 : Int) ≤ k := by omega
      have hki2 : (0 : Int) ≤ k ∧ (k : Int) < 1025 := ⟨hki0, hki⟩
      go_still_tail 8, (by kernel_rfl)
      change wpList _ _ _ _ _ w9.drew
      go_wp2_with fail
      obtain ⟨w10, hw10⟩ : ∃ w10, w10 = (w9.setCell ⟨S, 1 + k, none⟩ (.int .u8 128)).drew := ⟨_, rfl⟩
      rw [← hw10]
      have q1 := (HP.out.1.step (HP.out.1.sc.putByte k hkb 128) ((Fr.refl _ _).set (.inl (by simp)) _) rfl).drew
      change Mid _ _ _ _ _ _ _ ((w9.setCell ⟨S, 1 + k, none⟩ (.int .u8 128)).drew) at q1
      rw [← hw10] at q1
      obtain ⟨s4, A⟩ := refilled H.out.1 H.out.2.2.2.2.1 H.out.2.2.2.2.2.2 hk2 hk3 q1 HP.out.2
      clear q1 hw10 c1 c4 hb9
      obtain ⟨c, u', rfl⟩ : ∃ c u', u = c :: u' := by
        cases hue : u with
        | nil =>
          have := H.out.2.2.2.2.2.2
          rw [hue] at this
          exact absurd (List.append_eq_nil_iff.1 this.symm).2 hrd
        | cons c u' => exact ⟨c, u', rfl⟩
      obtain ⟨hc, hc2⟩ := hu c rfl
      have c0 : w10.cell? ⟨S, 1026, none⟩ = some (.int .i64 0) := by have := A.1.sc.named.pos; rw [A.2.2.2.1] at this; exact this
      have c1 : w10.cell? ⟨S, 1027, none⟩ = some (.int .i64 k) := by have := A.1.sc.named.fin; rw [A.2.2.2.2] at this; exact this
      have c2 : w10.cell? ⟨S, 1, none⟩ = some (.int .u8 c.toNat) := by
        have := A.1.sc.byte (A.1.byte (by rw [A.2.2.2.1, A.2.2.2.2]; omega))
        rw [A.2.2.2.1] at this
        exact this
      have c3 := A.1.sc.named.col
      have c5 := A.1.sc.named.line
      have c6 := A.1.sc.named.lcl
      have c7 := A.1.sc.named.lll
      have c4 : ∀ o, w10.frozen? ⟨S, o, none⟩ = false := A.1.sc.bl.free
      have hfull : ∀ n, Calls Tryz.prog 91 #[.slice (some ⟨S, 1, none⟩) k 1025] (w10.drewN n) fun e w' => e = .returned (.bool true) ∧ w' = w10.drewN n :=
        fun n => full_ascii S 1 k 1025 c.toNat ad (w10.drewN n) c2 hc2 hk1 (H.out.2.1.fr (A.2.2.1.drewN n)).at_
      have hs5 : ∀ W, (Instr.sliceAt 171 (.pointer (some ⟨S, 1, none⟩)) (some (.int .i64 0)) (some (.int .i64 k)) none).run Tryz.prog W = .ok (.slice (some ⟨S, 1, none⟩) k 1025) W := fun W => run_sub S 0 k (Nat.zero_le _) (by omega) (by omega) W
      have HA := Lib.hid A
      have HF := Lib.hid hfull
      clear A hfull HP HQ hs1 hs3 hs4 hd1 hb
      have hn1 : ((c.toNat : Int) == 0) = false := by simp; omega
      rw [rounds_succ]
      rcases Nat.lt_or_ge k 4 with hk4 | hk4
      · have hd2 : decide ((k : Int) < 4) = true := by simp; omega
        go_wp2_with fail
        go_quiet ((go_at_call 91; exact Calls.quiet_of_same (HF.out _)))
        go_wp2_with fail
        go_quiet (fail)
        by_cases hn : c.toNat = 10
        · have hn2 : ((c.toNat : Int) == 10) = true := by simp; omega
          go_wp2_with fail
          go_ret
          refine ⟨by rw [hd, hn]; rfl, HA.out.1.step2 HA.out.2.1 HA.out.2.2.1 (by rw [HA.out.2.2.2.1, HA.out.2.2.2.2]; omega) ?_ (((((((HA.out.1.sc.drewN _).set_pos_of (s4.pos + 1) _ (by have := HA.out.2.2.2.1; omega)).set_lcl_of 1 _ rfl).set_col _).set_line _).set_lll _).set_col _) rfl rfl rfl rfl rfl rfl rfl rfl rfl rfl rfl⟩
          exact ((((((((Fr.refl _ _).drewN _).set (.inl (by simp)) _).set (.inl (by simp)) _).set (.inl (by simp)) _).set (.inl (by simp)) _).set (.inl (by simp)) _).set (.inl (by simp)) _)
        · have hn2 : ((c.toNat : Int) == 10) = false := by simp; omega
          go_wp2_with fail
          go_ret
          refine ⟨rfl, HA.out.1.step2 HA.out.2.1 HA.out.2.2.1 (by rw [HA.out.2.2.2.1, HA.out.2.2.2.2]; omega) ?_ ((((HA.out.1.sc.drewN _).set_pos_of (s4.pos + 1) _ (by have := HA.out.2.2.2.1; omega)).set_lcl_of 1 _ rfl).set_col _) rfl rfl rfl rfl rfl rfl rfl rfl rfl rfl rfl⟩
          exact ((((Fr.refl _ _).drewN _).set (.inl (by simp)) _).set (.inl (by simp)) _).set (.inl (by simp)) _
      · have hd2 : decide ((k : Int) < 4) = false := by simp; omega
        go_wp2_with fail
        go_quiet (fail)
        go_wp2_with fail
        go_quiet (fail)
        by_cases hn : c.toNat = 10
        · have hn2 : ((c.toNat : Int) == 10) = true := by simp; omega
          go_wp2_with fail
          go_ret
          refine ⟨by rw [hd, hn]; rfl, HA.out.1.step2 HA.out.2.1 HA.out.2.2.1 (by rw [HA.out.2.2.2.1, HA.out.2.2.2.2]; omega) ?_ (((((((HA.out.1.sc.drewN _).set_pos_of (s4.pos + 1) _ (by have := HA.out.2.2.2.1; omega)).set_lcl_of 1 _ rfl).set_col _).set_line _).set_lll _).set_col _) rfl rfl rfl rfl rfl rfl rfl rfl rfl rfl rfl⟩
          exact ((((((((Fr.refl _ _).drewN _).set (.inl (by simp)) _).set (.inl (by simp)) _).set (.inl (by simp)) _).set (.inl (by simp)) _).set (.inl (by simp)) _).set (.inl (by simp)) _)
        · have hn2 : ((c.toNat : Int) == 10) = false := by simp; omega
          go_wp2_with fail
          go_ret
          refine ⟨rfl, HA.out.1.step2 HA.out.2.1 HA.out.2.2.1 (by rw [HA.out.2.2.2.1, HA.out.2.2.2.2]; omega) ?_ ((((HA.out.1.sc.drewN _).set_pos_of (s4.pos + 1) _ (by have := HA.out.2.2.2.1; omega)).set_lcl_of 1 _ rfl).set_col _) rfl rfl rfl rfl rfl rfl rfl rfl rfl rfl rfl⟩
          exact ((((Fr.refl _ _).drewN _).set (.inl (by simp)) _).set (.inl (by simp)) _).set (.inl (by simp)) _

end Go.Proofs.YtobiaaabikfglaaGreatDoor
