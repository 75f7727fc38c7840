/-
  Memory for the lexer and the parser: which blocks may turn, and what stays. Of no program.
-/
import Derived.WalkKit
import Derived.Deep.Draws
namespace Go.Proofs.YtobiaaabikfglaaGreatDoor
open Go.RowKit

/-- block b is just these cells; none is frozen -/
def Bl (w : World) (b : Nat) (cs : Array Value) (t : TypeId) : Prop := w.heap[b]? = some (.cells cs t (0, 0))

theorem Bl.lt {w : World} {b : Nat} {cs : Array Value} {t : TypeId} (h : Bl w b cs t) : b < w.heap.size := by
  rcases Nat.lt_or_ge b w.heap.size with hl | hl
  · exact hl
  · unfold Bl at h; rw [Array.getElem?_eq_none hl] at h; cases h
theorem Bl.cell {w : World} {b : Nat} {cs : Array Value} {t : TypeId} (h : Bl w b cs t) (i : Nat) : w.cell? ⟨b, i, none⟩ = cs[i]? := cell_of_row w b i cs t (0, 0) h
theorem Bl.free {w : World} {b : Nat} {cs : Array Value} {t : TypeId} (h : Bl w b cs t) (i : Nat) : w.frozen? ⟨b, i, none⟩ = false := by
  unfold Bl at h; simp [World.frozen?, h]
theorem Bl.set {w : World} {b : Nat} {cs : Array Value} {t : TypeId} (h : Bl w b cs t) (i : Nat) (v : Value) : Bl (w.setCell ⟨b, i, none⟩ v) b (cs.setIfInBounds i v) t := by
  unfold Bl at h ⊢; simp [World.setCell, Array.getElem?_modify, h]
theorem Bl.new (w : World) (cs : Array Value) (t : TypeId) : Bl (w.alloc (.cells cs t)) w.heap.size cs t := heap_alloc_new w _
theorem Bl.eq {w : World} {b : Nat} {cs cs' : Array Value} {t t' : TypeId} (h : Bl w b cs t) (h' : Bl w b cs' t') : cs = cs' ∧ t = t' := by
  unfold Bl at h h'; rw [h] at h'; injection h' with h'; injection h' with h1 h2; exact ⟨h1, h2⟩

/-- blocks outside ms are as they were -/
structure Kept (ms : List Nat) (w w' : World) : Prop where
  os : w'.os = w.os
  tape : w'.tape = w.tape
  output : w'.output = w.output
  size : w.heap.size ≤ w'.heap.size
  block : ∀ k, k < w.heap.size → k ∉ ms → w'.heap[k]? = w.heap[k]?

/-- .. and what may turn from now on was free to turn, or is new -/
structure Fr (ms : List Nat) (w : World) (ms' : List Nat) (w' : World) : Prop where
  kept : Kept ms w w'
  new : ∀ k, k ∈ ms' → k ∈ ms ∨ w.heap.size ≤ k

theorem Kept.refl (ms : List Nat) (w : World) : Kept ms w w := ⟨rfl, rfl, rfl, Nat.le_refl _, fun _ _ _ => rfl⟩
theorem Fr.refl (ms : List Nat) (w : World) : Fr ms w ms w := ⟨.refl _ _, fun _ h => .inl h⟩

theorem Fr.trans {m1 m2 m3 : List Nat} {a b c : World} (h : Fr m1 a m2 b) (k : Fr m2 b m3 c) : Fr m1 a m3 c := by
  refine ⟨⟨k.kept.os.trans h.kept.os, k.kept.tape.trans h.kept.tape, k.kept.output.trans h.kept.output, Nat.le_trans h.kept.size k.kept.size, fun i hi hn => ?_⟩, fun i hi => ?_⟩
  · have hn2 : i ∉ m2 := fun h2 => by rcases h.new i h2 with h2 | h2; exact hn h2; omega
    exact (k.kept.block i (Nat.lt_of_lt_of_le hi h.kept.size) hn2).trans (h.kept.block i hi hn)
  · rcases k.new i hi with h2 | h2
    · exact h.new i h2
    · exact .inr (Nat.le_trans h.kept.size h2)

/-- a step that writes only where this frame may, or in new blocks -/
theorem Fr.step {ms ms' : List Nat} {a w w' : World} (h : Fr ms a ms' w) (os : w'.os = w.os) (tape : w'.tape = w.tape) (out : w'.output = w.output) (size : w.heap.size ≤ w'.heap.size)
    (blk : ∀ k, k < a.heap.size → k ∉ ms → w'.heap[k]? = w.heap[k]?) : Fr ms a ms' w' :=
  ⟨⟨os.trans h.kept.os, tape.trans h.kept.tape, out.trans h.kept.output, Nat.le_trans h.kept.size size, fun k hk hn => (blk k hk hn).trans (h.kept.block k hk hn)⟩, h.new⟩

theorem Fr.drew {ms ms' : List Nat} {a w : World} (h : Fr ms a ms' w) : Fr ms a ms' w.drew := h.step rfl rfl rfl (Nat.le_refl _) fun _ _ _ => rfl
theorem Fr.drewN {ms ms' : List Nat} {a w : World} (h : Fr ms a ms' w) (n : Nat) : Fr ms a ms' (w.drewN n) := h.step rfl rfl rfl (Nat.le_refl _) fun _ _ _ => rfl
theorem Fr.alloc {ms ms' : List Nat} {a w : World} (h : Fr ms a ms' w) (o : Obj) : Fr ms a ms' (w.alloc o) :=
  h.step rfl rfl rfl (by simp) fun k hk _ => Below.heap_alloc _ _ _ (Nat.lt_of_lt_of_le hk h.kept.size)
theorem Fr.set {ms ms' : List Nat} {a w : World} (h : Fr ms a ms' w) {p : Addr} (hp : p.block ∈ ms ∨ a.heap.size ≤ p.block) (v : Value) : Fr ms a ms' (w.setCell p v) :=
  h.step rfl rfl rfl (by simp [World.setCell]) fun k hk hn => Below.heap_setCell _ _ _ _ (fun e => by subst e; rcases hp with hp | hp; exact hn hp; omega)
theorem Fr.grown {ms ms' : List Nat} {a w w' : World} {row : Option Nat} (h : Fr ms a ms' w) (hg : w.grownBy w' row) (hr : ∀ k, row = some k → k ∈ ms ∨ a.heap.size ≤ k) : Fr ms a ms' w' :=
  h.step hg.os hg.tape hg.output hg.size fun k hk hn => hg.block k (Nat.lt_of_lt_of_le hk h.kept.size) (fun e => by rcases hr k e.symm with h1 | h1; exact hn h1; omega)
theorem Fr.below {ms ms' : List Nat} {a w w' : World} (h : Fr ms a ms' w) (hb : Below w.heap.size w w') : Fr ms a ms' w' :=
  h.step hb.os hb.tape hb.output hb.size fun k hk _ => hb.block k (Nat.lt_of_lt_of_le hk h.kept.size)
theorem Fr.below' {ms ms' : List Nat} {a w w' : World} (h : Fr ms a ms' w) (hb : Below a.heap.size w w') : Fr ms a ms' w' :=
  h.step hb.os hb.tape hb.output hb.size fun k hk _ => hb.block k hk
/-- one block more may turn: a new one -/
theorem Fr.more {ms ms' ms2 : List Nat} {a w : World} (h : Fr ms a ms' w) (hm : ∀ k, k ∈ ms2 → k ∈ ms' ∨ a.heap.size ≤ k) : Fr ms a ms2 w :=
  ⟨h.kept, fun k hk => by rcases hm k hk with h1 | h1; exact h.new k h1; exact .inr h1⟩

theorem Fr.bl {ms ms' : List Nat} {w w' : World} {b : Nat} {cs : Array Value} {t : TypeId} (h : Fr ms w ms' w') (hb : Bl w b cs t) (hn : b ∉ ms) : Bl w' b cs t ∧ b ∉ ms' := by
  refine ⟨(h.kept.block b hb.lt hn).trans hb, fun hm => ?_⟩
  rcases h.new b hm with h1 | h1
  · exact hn h1
  · have := hb.lt; omega

/-- nothing below B may turn: as 'Below' says it -/
theorem Fr.to_below {ms ms' : List Nat} {w w' : World} (h : Fr ms w ms' w') {B : Nat} (hB : B ≤ w.heap.size) (hm : ∀ k, k ∈ ms → B ≤ k) : Below B w w' :=
  ⟨h.kept.os, h.kept.tape, h.kept.output, h.kept.size, fun k hk => h.kept.block k (by omega) (fun hk' => by have := hm k hk'; omega)⟩

theorem Bl.alloc {w : World} {b : Nat} {cs : Array Value} {t : TypeId} (h : Bl w b cs t) (o : Obj) : Bl (w.alloc o) b cs t := (Below.heap_alloc w o b h.lt).trans h
theorem Bl.drew {w : World} {b : Nat} {cs : Array Value} {t : TypeId} (h : Bl w b cs t) : Bl w.drew b cs t := h
theorem Bl.drewN {w : World} {b : Nat} {cs : Array Value} {t : TypeId} (h : Bl w b cs t) (n : Nat) : Bl (w.drewN n) b cs t := h
theorem Bl.far {w : World} {b : Nat} {cs : Array Value} {t : TypeId} (h : Bl w b cs t) {p : Addr} (hp : b ≠ p.block) (v : Value) : Bl (w.setCell p v) b cs t := (Below.heap_setCell w p v b hp).trans h
theorem Bl.below {w w' : World} {b : Nat} {cs : Array Value} {t : TypeId} (h : Bl w b cs t) {B : Nat} (hb : Below B w w') (hB : b < B) : Bl w' b cs t := (hb.block b hB).trans h
theorem Bl.grown {w w' : World} {b : Nat} {cs : Array Value} {t : TypeId} (h : Bl w b cs t) {row : Option Nat} (hg : w.grownBy w' row) (hr : some b ≠ row) : Bl w' b cs t := (hg.block b h.lt hr).trans h
theorem Bl.ne {w : World} {b b' : Nat} {cs cs' : Array Value} {t t' : TypeId} (h : Bl w b cs t) (h' : Bl w b' cs' t') (hn : t ≠ t') : b ≠ b' := by
  rintro rfl; exact hn (h.eq h').2

end Go.Proofs.YtobiaaabikfglaaGreatDoor

/-
  The scanner's struct in memory: 1048 cells of one block. Its parts by name; a store into one of them.
-/
namespace Go.Proofs.YtobiaaabikfglaaGreatDoor
open Go.RowKit

def byteV (c : UInt8) : Value := .int .u8 c.toNat
def i64V (n : Int) : Value := .int .i64 n

/-- the scanner's parts -/
structure Sc where
  src : Value
  buf : List UInt8
  pos : Nat
  fin : Nat
  off : Int
  line : Int
  col : Int
  lll : Int
  lcl : Nat
  tb : Value
  tbl : Int
  tokPos : Int
  tokEnd : Int
  ch : Int
  err : Value
  ec : Int
  offset : Int
  lineP : Int
  colP : Int

def Sc.rest (s : Sc) : List Value :=
  [i64V s.pos, i64V s.fin, i64V s.off, i64V s.line, i64V s.col, i64V s.lll, i64V s.lcl, s.tb, i64V 0, .int .i8 s.tbl, i64V s.tokPos, i64V s.tokEnd, .int .i32 s.ch, s.err, i64V s.ec,
   .int .u64 1012, .int .u64 4294977024, .nilFunc, .string ⟨#[]⟩, i64V s.offset, i64V s.lineP, i64V s.colP]

def Sc.cells (s : Sc) : Array Value := (s.src :: (s.buf.map byteV ++ s.rest)).toArray

/-- block S is the scanner -/
structure ScAt (w : World) (S : Nat) (s : Sc) : Prop where
  len : s.buf.length = 1025
  bl : Bl w S s.cells 182

theorem ScAt.at_ {w : World} {S : Nat} {s : Sc} (h : ScAt w S s) (i : Nat) : w.cell? ⟨S, 1026 + i, none⟩ = s.rest[i]? := by
  rw [h.bl.cell]
  simp only [Sc.cells, List.getElem?_toArray]
  rw [show 1026 + i = (1025 + i) + 1 from by omega, List.getElem?_cons_succ, List.getElem?_append_right (by simp [h.len])]
  simp [h.len]

theorem ScAt.byte {w : World} {S : Nat} {s : Sc} (h : ScAt w S s) {j : Nat} {c : UInt8} (hc : s.buf[j]? = some c) : w.cell? ⟨S, 1 + j, none⟩ = some (byteV c) := by
  have hj : j < s.buf.length := (List.getElem?_eq_some_iff.1 hc).1
  rw [h.bl.cell]
  simp only [Sc.cells, List.getElem?_toArray]
  rw [show 1 + j = j + 1 from by omega, List.getElem?_cons_succ, List.getElem?_append_left (by simpa using hj)]
  simp [hc]

theorem ScAt.src_ {w : World} {S : Nat} {s : Sc} (h : ScAt w S s) : w.cell? ⟨S, 0, none⟩ = some s.src := by rw [h.bl.cell]; rfl

theorem ScAt.put {w : World} {S : Nat} {s s' : Sc} (h : ScAt w S s) (i : Nat) (v : Value) (h1 : s'.src = s.src) (h2 : s'.buf = s.buf) (h3 : s'.rest = s.rest.set i v) : ScAt (w.setCell ⟨S, 1026 + i, none⟩ v) S s' := by
  refine ⟨by rw [h2]; exact h.len, ?_⟩
  have := h.bl.set (1026 + i) v
  have e : s.cells.setIfInBounds (1026 + i) v = s'.cells := by
    simp only [Sc.cells, List.setIfInBounds_toArray, h1, h2, h3]
    rw [show 1026 + i = (1025 + i) + 1 from by omega, List.set_cons_succ, List.set_append_right _ _ (by simp [h.len])]
    simp [h.len]
  rw [e] at this
  exact this

theorem ScAt.putByte {w : World} {S : Nat} {s : Sc} (h : ScAt w S s) (j : Nat) (hj : j < 1025) (c : UInt8) : ScAt (w.setCell ⟨S, 1 + j, none⟩ (byteV c)) S { s with buf := s.buf.set j c } := by
  refine ⟨by simpa using h.len, ?_⟩
  have := h.bl.set (1 + j) (byteV c)
  have e : s.cells.setIfInBounds (1 + j) (byteV c) = { s with buf := s.buf.set j c }.cells := by
    simp only [Sc.cells, List.setIfInBounds_toArray]
    rw [show 1 + j = j + 1 from by omega, List.set_cons_succ, List.set_append_left _ _ (by simp [h.len]; exact hj), List.map_set]
    rfl
  rw [e] at this
  exact this

theorem ScAt.drewN {w : World} {S : Nat} {s : Sc} (h : ScAt w S s) (n : Nat) : ScAt (w.drewN n) S s := ⟨h.len, h.bl⟩
theorem ScAt.drew {w : World} {S : Nat} {s : Sc} (h : ScAt w S s) : ScAt w.drew S s := ⟨h.len, h.bl⟩
theorem ScAt.alloc {w : World} {S : Nat} {s : Sc} (h : ScAt w S s) (o : Obj) : ScAt (w.alloc o) S s := ⟨h.len, h.bl.alloc o⟩

/-- the cells by name, as the walk reads them -/
structure ScCells (w : World) (S : Nat) (s : Sc) : Prop where
  src : w.cell? ⟨S, 0, none⟩ = some s.src
  pos : w.cell? ⟨S, 1026, none⟩ = some (.int .i64 s.pos)
  fin : w.cell? ⟨S, 1027, none⟩ = some (.int .i64 s.fin)
  off : w.cell? ⟨S, 1028, none⟩ = some (.int .i64 s.off)
  line : w.cell? ⟨S, 1029, none⟩ = some (.int .i64 s.line)
  col : w.cell? ⟨S, 1030, none⟩ = some (.int .i64 s.col)
  lll : w.cell? ⟨S, 1031, none⟩ = some (.int .i64 s.lll)
  lcl : w.cell? ⟨S, 1032, none⟩ = some (.int .i64 s.lcl)
  tb : w.cell? ⟨S, 1033, none⟩ = some s.tb
  tbo : w.cell? ⟨S, 1034, none⟩ = some (.int .i64 0)
  tbl : w.cell? ⟨S, 1035, none⟩ = some (.int .i8 s.tbl)
  tokPos : w.cell? ⟨S, 1036, none⟩ = some (.int .i64 s.tokPos)
  tokEnd : w.cell? ⟨S, 1037, none⟩ = some (.int .i64 s.tokEnd)
  ch : w.cell? ⟨S, 1038, none⟩ = some (.int .i32 s.ch)
  ec : w.cell? ⟨S, 1040, none⟩ = some (.int .i64 s.ec)
  mode : w.cell? ⟨S, 1041, none⟩ = some (.int .u64 1012)
  white : w.cell? ⟨S, 1042, none⟩ = some (.int .u64 4294977024)
  idr : w.cell? ⟨S, 1043, none⟩ = some .nilFunc
  offset : w.cell? ⟨S, 1045, none⟩ = some (.int .i64 s.offset)
  lineP : w.cell? ⟨S, 1046, none⟩ = some (.int .i64 s.lineP)
  colP : w.cell? ⟨S, 1047, none⟩ = some (.int .i64 s.colP)

theorem ScAt.named {w : World} {S : Nat} {s : Sc} (h : ScAt w S s) : ScCells w S s :=
  ⟨h.src_, h.at_ 0, h.at_ 1, h.at_ 2, h.at_ 3, h.at_ 4, h.at_ 5, h.at_ 6, h.at_ 7, h.at_ 8, h.at_ 9, h.at_ 10, h.at_ 11, h.at_ 12, h.at_ 14, h.at_ 15, h.at_ 16, h.at_ 17, h.at_ 19, h.at_ 20, h.at_ 21⟩

section
variable {w : World} {S : Nat} {s : Sc} (h : ScAt w S s)
include h
theorem ScAt.set_pos (n : Nat) : ScAt (w.setCell ⟨S, 1026, none⟩ (.int .i64 n)) S { s with pos := n } := h.put 0 _ rfl rfl rfl
theorem ScAt.set_fin (n : Nat) : ScAt (w.setCell ⟨S, 1027, none⟩ (.int .i64 n)) S { s with fin := n } := h.put 1 _ rfl rfl rfl
theorem ScAt.set_off (n : Int) : ScAt (w.setCell ⟨S, 1028, none⟩ (.int .i64 n)) S { s with off := n } := h.put 2 _ rfl rfl rfl
theorem ScAt.set_line (n : Int) : ScAt (w.setCell ⟨S, 1029, none⟩ (.int .i64 n)) S { s with line := n } := h.put 3 _ rfl rfl rfl
theorem ScAt.set_col (n : Int) : ScAt (w.setCell ⟨S, 1030, none⟩ (.int .i64 n)) S { s with col := n } := h.put 4 _ rfl rfl rfl
theorem ScAt.set_lll (n : Int) : ScAt (w.setCell ⟨S, 1031, none⟩ (.int .i64 n)) S { s with lll := n } := h.put 5 _ rfl rfl rfl
theorem ScAt.set_lcl (n : Nat) : ScAt (w.setCell ⟨S, 1032, none⟩ (.int .i64 n)) S { s with lcl := n } := h.put 6 _ rfl rfl rfl
theorem ScAt.set_tb (v : Value) : ScAt (w.setCell ⟨S, 1033, none⟩ v) S { s with tb := v } := h.put 7 _ rfl rfl rfl
theorem ScAt.set_tbo : ScAt (w.setCell ⟨S, 1034, none⟩ (.int .i64 0)) S s := h.put 8 _ rfl rfl rfl
theorem ScAt.set_tbl (n : Int) : ScAt (w.setCell ⟨S, 1035, none⟩ (.int .i8 n)) S { s with tbl := n } := h.put 9 _ rfl rfl rfl
theorem ScAt.set_tokPos (n : Int) : ScAt (w.setCell ⟨S, 1036, none⟩ (.int .i64 n)) S { s with tokPos := n } := h.put 10 _ rfl rfl rfl
theorem ScAt.set_tokEnd (n : Int) : ScAt (w.setCell ⟨S, 1037, none⟩ (.int .i64 n)) S { s with tokEnd := n } := h.put 11 _ rfl rfl rfl
theorem ScAt.set_ch (n : Int) : ScAt (w.setCell ⟨S, 1038, none⟩ (.int .i32 n)) S { s with ch := n } := h.put 12 _ rfl rfl rfl
theorem ScAt.set_offset (n : Int) : ScAt (w.setCell ⟨S, 1045, none⟩ (.int .i64 n)) S { s with offset := n } := h.put 19 _ rfl rfl rfl
theorem ScAt.set_lineP (n : Int) : ScAt (w.setCell ⟨S, 1046, none⟩ (.int .i64 n)) S { s with lineP := n } := h.put 20 _ rfl rfl rfl
theorem ScAt.set_colP (n : Int) : ScAt (w.setCell ⟨S, 1047, none⟩ (.int .i64 n)) S { s with colP := n } := h.put 21 _ rfl rfl rfl
end

end Go.Proofs.YtobiaaabikfglaaGreatDoor
