/-
  strings.Reader.Read into the scanner's buffer. No conditions but lengths.
-/
import Derived.Test.YtobiaaabikfglaaGreatDoorProg
import Derived.Test.YtobiaaabikfglaaGreatDoorR02
import Derived.Test.YtobiaaabikfglaaGreatDoorR01
import Derived.WalkSpells
import Derived.Lib.Hide
import Derived.Lib.IndexBytes
import Derived.Lib.BufferWrite
import Derived.Deep.QuietTactic
import Derived.BigQuiet
import Derived.StillTailTactics
import Derived.Lib.SlBuf
import Derived.Test.YtobiaaabikfglaaGreatDoorShelf
namespace Go.Proofs.YtobiaaabikfglaaGreatDoor
open Go.RowKit Go.Proofs.YtobiaaabikfglaaGreatDoor.Pq

def toL (s : ByteArray) : Bs := s.data.toList
theorem toL_length (s : ByteArray) : (toL s).length = s.size := by simp [toL]
theorem toL_extract (s : ByteArray) (a b : Nat) : toL (s.extract a b) = ((toL s).drop a).take (b - a) := Lib.extract_data s a b
theorem toL_from (s : ByteArray) (a : Nat) : toL (s.extract a s.size) = (toL s).drop a := Lib.extract_to_end s a
theorem toList_eq (s : ByteArray) : s.toList = toL s := Lib.toList_data s

/-- the error that a reader tells at its end -/
def eofV (ad : Addr) : Value := .iface 299 (.pointer (some ad))

/-- block R is a reader of what is left of a text -/
structure RdAt (w : World) (R : Nat) (rd : Bs) : Prop where
  ex : ∃ (s : ByteArray) (i : Nat) (p : Int), Bl w R #[.string s, i64V i, i64V p] 217 ∧ i ≤ s.size ∧ s.size ≤ 2147483647 ∧ (toL s).drop i = rd

theorem RdAt.fr {ms ms' : List Nat} {w w' : World} {R : Nat} {rd : Bs} (h : RdAt w R rd) (hf : Fr ms w ms' w') (hn : R ∉ ms) : RdAt w' R rd := by
  obtain ⟨s, i, p, hb, h1, h2, h3⟩ := h.ex
  exact ⟨s, i, p, (hf.bl hb hn).1, h1, h2, h3⟩

/-- 'copy(dst, s)', s a string: as much of it as fits -/
theorem run_copy_str {P : Program} (w : World) (dT sT ty elem : TypeId) (g o dLen dCap : Nat) (s : ByteArray) (cur : Array Value) (t : TypeId)
    (hu : P.underlying dT = some (.slice elem)) (hs : (P.info? elem).map (·.size) = some 1) (hg : Bl w g cur t) (hfit : o + min s.size dLen ≤ cur.size) :
    (Builtin.copy_ #[dT, sT] ty #[.slice (some ⟨g, o, none⟩) dLen dCap, .string s]).run P w =
      .ok (.int .i64 ((min s.size dLen : Nat) : Int)) (w.setRow g (cur.toList.take o ++ ((toL s).take (min s.size dLen)).map byteV ++ cur.toList.drop (o + min s.size dLen)).toArray) := by
  have hlen : (((toL s).take (min s.size dLen)).map byteV).length = min s.size dLen := by simp [toL_length]
  have hst := run_storeCells_at P g o t (((toL s).take (min s.size dLen)).map byteV) 0 cur w hg (by rw [hlen]; simpa using hfit) (by
    intro v hv; obtain ⟨x, _, rfl⟩ := List.mem_map.1 hv; rfl)
  rw [hlen] at hst
  simp only [Nat.add_zero] at hst
  cases hq : P.info? elem with
  | none => simp [hq] at hs
  | some i =>
    have hm : Nat.min s.size dLen = min s.size dLen := rfl
    simp [Builtin.copy_, run_underlying hu, Builtin.lenOf, Builtin.firstCells, sizeOf, typeInfo, hq, hm]
    have e : List.take (min s.size dLen) (List.map (fun b : UInt8 => Value.int IntKind.u8 (b.toNat : Int)) s.data.toList) = ((toL s).take (min s.size dLen)).map byteV := by
      rw [← List.map_take]; rfl
    rw [e, hst]
    simp [Result.andThen]
    rfl

theorem ScAt.splice {w : World} {S : Nat} {s : Sc} (h : ScAt w S s) (i : Nat) (l : Bs) (hi : i + l.length ≤ 1025) :
    ScAt (w.setRow S (s.cells.toList.take (1 + i) ++ l.map byteV ++ s.cells.toList.drop (1 + i + l.length)).toArray) S { s with buf := s.buf.take i ++ l ++ s.buf.drop (i + l.length) } := by
  have hl := h.len
  refine ⟨by simp [hl]; omega, ?_⟩
  have hr := setRow_heap w S s.cells (s.cells.toList.take (1 + i) ++ l.map byteV ++ s.cells.toList.drop (1 + i + l.length)).toArray 182 (0, 0) h.bl
  have e : (s.cells.toList.take (1 + i) ++ l.map byteV ++ s.cells.toList.drop (1 + i + l.length)).toArray = { s with buf := s.buf.take i ++ l ++ s.buf.drop (i + l.length) }.cells := by
    simp only [Sc.cells, List.map_append, List.map_take, List.map_drop]
    congr 1
    rw [show 1 + i = i + 1 from by omega, List.take_succ_cons, show i + 1 + l.length = (i + l.length) + 1 from by omega, List.drop_succ_cons]
    rw [List.take_append_of_le_length (by simp [hl]; omega), List.drop_append_of_le_length (by simp [hl]; omega)]
    simp [Sc.rest]
  unfold Bl
  rw [← e]
  exact hr

theorem fr_setRow (w : World) (S : Nat) (cs : Array Value) : Fr [S] w [S] (w.setRow S cs) := by
  refine ⟨⟨rfl, rfl, rfl, ?_, fun k hk hn => ?_⟩, fun k hk => .inl hk⟩
  · simp [World.setRow]
  · have : k ≠ S := fun e => hn (by simp [e])
    simp only [World.setRow, Array.getElem?_modify]
    rw [if_neg (fun e => this e.symm)]

/-- 'copy(s.srcBuf[i:], t)' for the walk -/
theorem wpList_copy_str {P : Program} {w : World} {ops : Array Oper} {rest : List Oper} {o : Oper} {a : Act} {Q : Exit → Act → World → Prop} (hgd : o.guard = none) (d x : Operand) (dT sT : TypeId)
    (ho : o.op = .call { callee := .builtin .copy, args := #[d, x], argTypes := #[dT, sT] }) (elem : TypeId) (hu : P.underlying dT = some (.slice elem)) (hs : (P.info? elem).map (·.size) = some 1)
    (S : Nat) (s : Sc) (hS : ScAt w S s) (i n c : Nat) (t : ByteArray) (hd : a.eval d = .slice (some ⟨S, 1 + i, none⟩) n c) (hx : a.eval x = .string t) (hfit : i + min t.size n ≤ 1025)
    (h : ∀ w1, ScAt w1 S { s with buf := s.buf.take i ++ (toL t).take (min t.size n) ++ s.buf.drop (i + min t.size n) } → Fr [S] w [S] w1 → wpList P ops Q rest (a.put o.dst (.int .i64 ((min t.size n : Nat) : Int))) w1) :
    wpList P ops Q (o :: rest) a w := by
  have hsz : s.cells.size = 1048 := by simp [Sc.cells, Sc.rest, hS.len]
  have hl : ((toL t).take (min t.size n)).length = min t.size n := by simp [toL_length]
  have hr := run_copy_str (P := P) w dT sT o.type elem S (1 + i) n c t s.cells 182 hu hs hS.bl (by omega)
  have hsp := hS.splice i ((toL t).take (min t.size n)) (by rw [hl]; exact hfit)
  rw [hl] at hsp
  exact Lib.wpList_copy_run w hgd d x dT sT ho _ _ hd hx hr (h _ hsp (fr_setRow _ _ _))

/-- what a call of Read leaves -/
def Read1 (S R i n : Nat) (s : Sc) (rd : Bs) (w : World) (e : Ending) (w' : World) : Prop :=
  e = .returned (.tuple #[.int .i64 ((min rd.length n : Nat) : Int), .nilIface]) ∧
    ScAt w' S { s with buf := s.buf.take i ++ rd.take (min rd.length n) ++ s.buf.drop (i + min rd.length n) } ∧ RdAt w' R (rd.drop (min rd.length n)) ∧ Fr [S, R] w [S, R] w'

theorem Fr.wide {ms ms2 : List Nat} {w w' : World} (h : Fr ms w ms w') (hs : ∀ k, k ∈ ms → k ∈ ms2) : Fr ms2 w ms2 w' :=
  ⟨⟨h.kept.os, h.kept.tape, h.kept.output, h.kept.size, fun k hk hn => h.kept.block k hk fun hm => hn (hs k hm)⟩, fun _ hk => .inl hk⟩

set_option maxRecDepth 100000 in
set_option maxHeartbeats 1000000 in
theorem read_some (S R i n c : Nat) (s : Sc) (rd : Bs) (w : World) (hS : ScAt w S s) (hR : RdAt w R rd) (hrd : rd ≠ []) (hn : i + n ≤ 1025) :
    Calls Tryz.prog 192 #[.pointer (some ⟨R, 0, none⟩), .slice (some ⟨S, 1 + i, none⟩) n c] w (Read1 S R i n s rd w) := by
  obtain ⟨t, k, p, hb, hk, ht, hdr⟩ := hR.ex
  have hlt : k < t.size := by
    rcases Nat.lt_or_ge k t.size with h | h
    · exact h
    · exact absurd (by rw [← hdr, List.drop_eq_nil_of_le (by rw [toL_length]; exact h)]) hrd
  have c0 : w.cell? ⟨R, 0, none⟩ = some (.string t) := hb.cell 0
  have c1 : w.cell? ⟨R, 1, none⟩ = some (.int .i64 k) := hb.cell 1
  have c2 : w.cell? ⟨R, 2, none⟩ = some (.int .i64 p) := hb.cell 2
  have f2 : w.frozen? ⟨R, 2, none⟩ = false := hb.free 2
  have hne : S ≠ R := hS.bl.ne hb (by decide)
  go_enter Tryz.func192, Tryz.ntmps192
  go_wp2_with fail
  go_quiet (fail)
  go_wp2_with fail
  obtain ⟨W, hW⟩ : ∃ W, W = (w.drewN nq).setCell ⟨R, 2, none⟩ (.int .i64 (-1)) := ⟨_, rfl⟩
  have hbW : Bl W R #[.string t, i64V k, i64V (-1)] 217 := by rw [hW]; exact hb.set 2 _
  have hSW : ScAt W S s := by rw [hW]; exact ⟨hS.len, hS.bl.far hne _⟩
  have hFW : Fr [S, R] w [S, R] W := by rw [hW]; exact ((Fr.refl _ _).drewN _).set (.inl (by simp)) _
  rw [← hW]
  have e0 : W.cell? ⟨R, 0, none⟩ = some (.string t) := hbW.cell 0
  have e1 : W.cell? ⟨R, 1, none⟩ = some (.int .i64 k) := hbW.cell 1
  clear c0 c1 c2 f2 hW
  go_still_tail 10, (by kernel_rfl)
  change wpList _ _ _ _ _ W.drew
  have hxs : (t.extract k t.size).size = t.size - k := by rw [ByteArray.size_extract]; omega
  refine wpList_copy_str rfl (.tmp 20) (.tmp 29) 34 9 rfl 5 Tryz.underlying34 (by kernel_rfl) S s (hSW.drew) i n c (t.extract k t.size) rfl rfl (by omega) ?_
  intro w1 hS1 hF1
  have hb1 := (hF1.bl hbW.drew (by simp; exact fun e => hne e.symm)).1
  have k1 : w1.cell? ⟨R, 1, none⟩ = some (.int .i64 k) := hb1.cell 1
  have k2 : w1.frozen? ⟨R, 1, none⟩ = false := hb1.free 1
  have hlen : rd.length = t.size - k := by rw [← hdr]; simp [toL_length]
  rw [hxs] at hS1
  rw [hxs]
  go_wp2_with fail
  go_ret2
  have hx : toL (t.extract k t.size) = rd := by rw [toL_from, hdr]
  rw [hx, ← hlen] at hS1
  rw [← hlen]
  refine ⟨rfl, ?_, ⟨t, k + min rd.length n, -1, ?_, by omega, ht, ?_⟩, ?_⟩
  · exact ⟨hS1.len, hS1.bl.far hne _⟩
  · have := hb1.set 1 (i64V ((k : Int) + (min rd.length n : Nat)))
    simpa [i64V] using this
  · rw [← List.drop_drop, hdr]
  · exact (hFW.trans ((Fr.refl _ _).drew.trans (hF1.wide (by simp)))).set (.inl (by simp)) _

set_option maxRecDepth 100000 in
set_option maxHeartbeats 1000000 in
theorem read_end (S R i n c : Nat) (ad : Addr) (w : World) (hR : RdAt w R []) (ce : w.cell? ⟨1, 0, none⟩ = some (eofV ad)) :
    Calls Tryz.prog 192 #[.pointer (some ⟨R, 0, none⟩), .slice (some ⟨S, 1 + i, none⟩) n c] w fun e w' => e = .returned (.tuple #[.int .i64 0, eofV ad]) ∧ RdAt w' R [] ∧ Fr [] w [] w' := by
  obtain ⟨t, k, p, hb, hk, ht, hdr⟩ := hR.ex
  have hge : t.size ≤ k := by have := congrArg List.length hdr; simp [toL_length] at this; omega
  have c0 : w.cell? ⟨R, 0, none⟩ = some (.string t) := hb.cell 0
  have c1 : w.cell? ⟨R, 1, none⟩ = some (.int .i64 k) := hb.cell 1
  go_enter Tryz.func192, Tryz.ntmps192
  go_wp2_with fail
  go_quiet (fail)
  go_wp2_with fail
  go_quiet (fail)
  go_wp2_with fail
  go_ret2
  exact ⟨rfl, ⟨t, k, p, hb, hk, ht, hdr⟩, ((Fr.refl _ _).drewN _).drewN _⟩

end Go.Proofs.YtobiaaabikfglaaGreatDoor

/-
  The scanner: its state, 'next'. No conditions but lengths.
-/
namespace Go.Proofs.YtobiaaabikfglaaGreatDoor
open Go.RowKit Go.Proofs.YtobiaaabikfglaaGreatDoor.Pq

/-- the block of a slice's row -/
def rowOf : Value → List Nat
  | .slice (some a) _ _ => [a.block]
  | _ => []

/-- the buffer for a token's text: nothing yet, or a row of 64 -/
inductive TbOk (w : World) (S R : Nat) : Value → Bs → Prop where
  | none : TbOk w S R (.slice none 0 0) []
  | row (T : Nat) (cs : Array Value) (acc : Bs) : Bl w T cs 5 → cs.size = 64 → acc.length ≤ 64 → cs.toList.take acc.length = acc.map byteV → T ≠ S → T ≠ R → TbOk w S R (.slice (some ⟨T, 0, none⟩) acc.length 64) acc

theorem TbOk.fr {ms ms' : List Nat} {w w' : World} {S R : Nat} {tb : Value} {acc : Bs} (h : TbOk w S R tb acc) (hf : Fr ms w ms' w') (hn : ∀ k, k ∈ rowOf tb → k ∉ ms) : TbOk w' S R tb acc := by
  cases h with
  | none => exact .none
  | row T cs acc hb h1 h2 h3 h4 h5 => exact .row T cs acc (hf.bl hb (hn T (by simp [rowOf]))).1 h1 h2 h3 h4 h5

/-- what the scanner has read into its buffer, and not yet handed on -/
def Sc.have_ (s : Sc) : Bs := (s.buf.drop s.pos).take (s.fin - s.pos)

/-- the scanner stands ahead of the text u; acc: what the token has so far (where one is being read) -/
structure SAt (w : World) (S R : Nat) (s : Sc) (u acc : Bs) : Prop where
  sc : ScAt w S s
  src : s.src = .iface 203 (.pointer (some ⟨R, 0, none⟩))
  rd : ∃ rd, RdAt w R rd ∧ u = s.have_ ++ rd
  le : s.pos ≤ s.fin
  le2 : s.fin ≤ 1024
  sent : s.buf[s.fin]? = some 128
  tb : ∃ ta, TbOk w S R s.tb ta ∧ (s.tokPos < 0 ∨ ∃ p : Nat, s.tokPos = p ∧ p ≤ s.pos ∧ acc = ta ++ (s.buf.drop p).take (s.pos - p))

/-- the blocks that the scanner may turn -/
def Sc.ms (s : Sc) (S R : Nat) : List Nat := S :: R :: rowOf s.tb

/-- what 'next' leaves as it was -/
structure Same (s s' : Sc) : Prop where
  ch : s'.ch = s.ch
  tokEnd : s'.tokEnd = s.tokEnd
  err : s'.err = s.err
  ec : s'.ec = s.ec
  tok : s'.tokPos < 0 ↔ s.tokPos < 0

def hd (u : Bs) : Int := match u with | [] => -1 | c :: _ => c.toNat

/-- the character read last still lies in the buffer, ahead of the place -/
structure Last (s : Sc) (l : Bs) : Prop where
  len : s.lcl = l.length
  le : l.length ≤ s.pos
  at_ : (s.buf.drop (s.pos - l.length)).take l.length = l
  tp : s.tokPos ≤ (s.pos : Int) - s.lcl

/-- what a call of 'next' leaves -/
def Next1 (S R : Nat) (s : Sc) (u acc : Bs) (w : World) (e : Ending) (w' : World) : Prop :=
  e = .returned (.int .i32 (hd u)) ∧ ∃ s', SAt w' S R s' u.tail (acc ++ u.take 1) ∧ Same s s' ∧ Fr (s.ms S R) w (s'.ms S R) w' ∧ Last s' (u.take 1)

theorem SAt.byte {w : World} {S R : Nat} {s : Sc} {u acc : Bs} {c : UInt8} (h : SAt w S R s (c :: u) acc) (hp : s.pos < s.fin) : s.buf[s.pos]? = some c := by
  obtain ⟨rd, _, e⟩ := h.rd
  have hl := h.sc.len
  have h2 := h.le2
  have : (s.have_ ++ rd)[0]? = some c := by rw [← e]; rfl
  rw [Sc.have_, List.getElem?_append_left (by simp; omega), List.getElem?_take_of_lt (by omega), List.getElem?_drop] at this
  simpa using this

theorem ScAt.set_pos_of {w : World} {S : Nat} {s : Sc} (h : ScAt w S s) (n : Nat) (i : Int) (hi : i = n) : ScAt (w.setCell ⟨S, 1026, none⟩ (.int .i64 i)) S { s with pos := n } := by subst hi; exact h.set_pos n
theorem ScAt.set_fin_of {w : World} {S : Nat} {s : Sc} (h : ScAt w S s) (n : Nat) (i : Int) (hi : i = n) : ScAt (w.setCell ⟨S, 1027, none⟩ (.int .i64 i)) S { s with fin := n } := by subst hi; exact h.set_fin n
theorem ScAt.set_lcl_of {w : World} {S : Nat} {s : Sc} (h : ScAt w S s) (n : Nat) (i : Int) (hi : i = n) : ScAt (w.setCell ⟨S, 1032, none⟩ (.int .i64 i)) S { s with lcl := n } := by subst hi; exact h.set_lcl n

theorem TbOk.ne {w : World} {S R : Nat} {tb : Value} {acc : Bs} (h : TbOk w S R tb acc) : S ∉ rowOf tb ∧ R ∉ rowOf tb := by
  cases h with
  | none => simp [rowOf]
  | row T cs acc hb h1 h2 h3 h4 h5 => simp [rowOf]; exact ⟨fun e => h4 e.symm, fun e => h5 e.symm⟩

/-- the scanner has turned within its own struct alone -/
theorem SAt.own {w w' : World} {S R : Nat} {s s' : Sc} {u u' acc acc' : Bs} (h : SAt w S R s u acc) (hf : Fr [S] w [S] w') (hs : ScAt w' S s') (h1 : s'.src = s.src) (h2 : s'.tb = s.tb)
    (hu : ∀ rd, u = s.have_ ++ rd → u' = s'.have_ ++ rd) (le : s'.pos ≤ s'.fin) (le2 : s'.fin ≤ 1024) (sent : s'.buf[s'.fin]? = some 128)
    (ht : ∀ ta, TbOk w S R s.tb ta → (s.tokPos < 0 ∨ ∃ p : Nat, s.tokPos = p ∧ p ≤ s.pos ∧ acc = ta ++ (s.buf.drop p).take (s.pos - p)) → (s'.tokPos < 0 ∨ ∃ p : Nat, s'.tokPos = p ∧ p ≤ s'.pos ∧ acc' = ta ++ (s'.buf.drop p).take (s'.pos - p))) :
    SAt w' S R s' u' acc' := by
  obtain ⟨rd, hr, hu0⟩ := h.rd
  obtain ⟨ta, hta, htp⟩ := h.tb
  have hne : S ≠ R := by obtain ⟨_, _, _, hb, _⟩ := hr.ex; exact h.sc.bl.ne hb (by decide)
  refine ⟨hs, h1.trans h.src, ⟨rd, hr.fr hf (by simp; exact fun e => hne e.symm), hu rd hu0⟩, le, le2, sent, ta, ?_, ht ta hta htp⟩
  rw [h2]
  exact hta.fr hf (fun k hk e => hta.ne.1 (by simp at e; rw [← e]; exact hk))

theorem SAt.step {w w' : World} {S R : Nat} {s s' : Sc} {c : UInt8} {u acc : Bs} (h : SAt w S R s (c :: u) acc) (hp : s.pos < s.fin) (hf : Fr [S] w [S] w') (hs : ScAt w' S s') (h1 : s'.src = s.src) (h2 : s'.tb = s.tb)
    (h3 : s'.buf = s.buf) (h4 : s'.fin = s.fin) (h5 : s'.pos = s.pos + 1) (h6 : s'.tokPos = s.tokPos) (h7 : s'.ch = s.ch) (h8 : s'.tokEnd = s.tokEnd) (h9 : s'.err = s.err) (h10 : s'.ec = s.ec) (h11 : s'.lcl = 1) :
    ∃ s', SAt w' S R s' u (acc ++ [c]) ∧ Same s s' ∧ Fr (s.ms S R) w (s'.ms S R) w' ∧ Last s' [c] := by
  have hl := h.sc.len
  have hb := h.byte hp
  have hd0 : s.buf.drop s.pos = c :: s.buf.drop (s.pos + 1) := by
    rw [List.drop_eq_getElem_cons (by have := h.le2; omega)]
    congr 1
    have := (List.getElem?_eq_some_iff.1 hb).2
    exact this
  have htp : s'.tokPos ≤ (s'.pos : Int) - s'.lcl := by
    obtain ⟨ta, _, ht⟩ := h.tb
    rw [h5, h6, h11]
    rcases ht with ht | ⟨p, hp1, hp2, _⟩ <;> omega
  refine ⟨s', h.own hf hs h1 h2 (fun rd hu => ?_) (by omega) (by rw [h4]; exact h.le2) (by rw [h3, h4]; exact h.sent) (fun ta hta ht => ?_), ⟨h7, h8, h9, h10, by rw [h6]⟩, ?_, h11, by rw [h5]; simp, ?_, htp⟩
  · have e : s.have_ = c :: s'.have_ := by
      simp only [Sc.have_, h3, h4, h5, hd0]
      rw [show s.fin - s.pos = (s.fin - (s.pos + 1)) + 1 from by omega, List.take_succ_cons]
    rw [e] at hu
    simpa using hu
  · rw [h6]
    rcases ht with ht | ⟨p, hp1, hp2, hp3⟩
    · exact .inl ht
    · refine .inr ⟨p, hp1, by omega, ?_⟩
      rw [h3, h5, hp3, List.append_assoc]
      congr 1
      rw [show s.pos + 1 - p = (s.pos - p) + 1 from by omega, List.take_add_one]
      congr 1
      rw [List.getElem?_drop, show p + (s.pos - p) = s.pos from by omega, hb]
      rfl
  · have e : s'.ms S R = s.ms S R := by simp [Sc.ms, h2]
    rw [e]
    exact hf.wide (fun k hk => by simp at hk; simp [Sc.ms, hk])
  · rw [h3, h5]
    simp [hd0]

set_option maxRecDepth 100000 in
set_option maxHeartbeats 1000000 in
theorem next_fast (S R : Nat) (s : Sc) (c : UInt8) (u acc : Bs) (w : World) (h : SAt w S R s (c :: u) acc) (hc : 0 < c.toNat) (hc2 : c.toNat < 128) (hp : s.pos < s.fin) :
    Calls Tryz.prog 63 #[.pointer (some ⟨S, 0, none⟩)] w (Next1 S R s (c :: u) acc w) := by
  have hb := h.sc.byte (h.byte hp)
  have c1 := h.sc.named.pos
  have c2 := h.sc.named.col
  have c3 := h.sc.named.line
  have c5 := h.sc.named.lcl
  have c6 := h.sc.named.lll
  have c4 : ∀ o, w.frozen? ⟨S, o, none⟩ = false := h.sc.bl.free
  have hlt : s.pos < 1025 := by have := h.le2; omega
  have H := Lib.hid h; clear h
  unfold byteV at hb
  have hn1 : ((c.toNat : Int) == 0) = false := by simp; omega
  by_cases hn : c.toNat = 10
  · have hn2 : ((c.toNat : Int) == 10) = true := by simp; omega
    go_enter Tryz.func63, Tryz.ntmps63
    go_wp2_with fail
    go_quiet (fail)
    go_wp2_with fail
    go_ret
    refine ⟨by rw [hd, hn]; rfl, H.out.step hp ?_ (((((((H.out.sc.drewN nq).set_pos_of (s.pos + 1) _ (by omega)).set_lcl_of 1 _ rfl).set_col _).set_line _).set_lll _).set_col _) rfl rfl rfl rfl rfl rfl rfl rfl rfl rfl rfl⟩
    exact ((((((((Fr.refl _ _).drewN _).set (.inl (by simp)) _).set (.inl (by simp)) _).set (.inl (by simp)) _).set (.inl (by simp)) _).set (.inl (by simp)) _).set (.inl (by simp)) _)
  · have hn2 : ((c.toNat : Int) == 10) = false := by simp; omega
    go_enter Tryz.func63, Tryz.ntmps63
    go_wp2_with fail
    go_quiet (fail)
    go_wp2_with fail
    go_ret
    refine ⟨rfl, H.out.step hp ?_ ((((H.out.sc.drewN nq).set_pos_of (s.pos + 1) _ (by omega)).set_lcl_of 1 _ rfl).set_col _) rfl rfl rfl rfl rfl rfl rfl rfl rfl rfl rfl⟩
    exact ((((Fr.refl _ _).drewN _).set (.inl (by simp)) _).set (.inl (by simp)) _).set (.inl (by simp)) _

end Go.Proofs.YtobiaaabikfglaaGreatDoor
