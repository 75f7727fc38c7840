/-
  The parser of values by a contract: numbers, names, variables, negative numbers; what is none. No conditions but lengths.
-/
import Derived.Test.YtobiaaabikfglaaGreatDoorR10
namespace Go.Proofs.YtobiaaabikfglaaGreatDoor
open Go.RowKit Go.Proofs.YtobiaaabikfglaaGreatDoor.Pq Go.Lib

theorem VAt.shape {B : Bk} {t : Val} {x : Value} (h : VAt B t x) : ∃ T b, x = .iface T (ptrV b) := by
  cases t with
  | null => obtain ⟨b, l, c, h1, _⟩ := h; exact ⟨_, b, h1⟩
  | prim k s => obtain ⟨b, l, c, h1, _⟩ := h; exact ⟨_, b, h1⟩
  | var s => obtain ⟨b, l, c, h1, _⟩ := h; exact ⟨_, b, h1⟩
  | list vs => obtain ⟨b, sl, xs, l, c, h1, _⟩ := h; exact ⟨_, b, h1⟩
  | obj fs => obtain ⟨b, sl, xs, l, c, h1, _⟩ := h; exact ⟨_, b, h1⟩

theorem str_cons (c : UInt8) (l : Bs) : ({ data := #[c] } ++ { data := List.toArray l } : ByteArray) = ⟨(c :: l).toArray⟩ := by
  apply ByteArray.ext
  simp

/-- the post of a panic, where nothing is deferred -/
def Plain (R : List PanicEntry → World → Prop) (Q : Exit → Act → World → Prop) : Exit → Act → World → Prop
  | .panic c, a, w => a.defers = [] ∧ R c w
  | e, a, w => Q e a w
theorem wp_plain {P : Program} {c : Code} {R : List PanicEntry → World → Prop} {Q : Exit → Act → World → Prop} {a : Act} {w : World} (hR : ∀ ch a w, a.defers = [] → R ch w → Q (.panic ch) a w) (h : c.wp P (Plain R Q) a w) : c.wp P Q a w :=
  Code.wp_mono (fun e a w h => by cases e <;> first | exact h | exact hR _ _ _ h.1 h.2) h

section
variable {P : Program} {ops : Array Oper} {Q : Exit → Act → World → Prop} {md : Region.Mode}
theorem wpAny_each {rs : List Nat} {fuel : Nat} {listed : Array Bool} {a : Act} {w : World} (hr : Region.ready md ops listed = rs) (hne : rs ≠ []) (h : ∀ i ∈ rs, wpOp P ops Q i (wpAny P md ops Q fuel (listed.setIfInBounds i true)) a w) : wpAny P md ops Q (fuel + 1) listed a w :=
  ⟨fun h0 => absurd (hr ▸ h0) hne, hr ▸ h⟩
theorem wpOp_val {i : Nat} {o : Oper} {v : Value} {a : Act} {w : World} {K : Act → World → Prop} (hi : ops[i]? = some o) (hg : o.guard = none) (hr : (execOp a.eval o).run P w = .ok (.value v) w) (h : K (a.put o.dst v) w) : wpOp P ops Q i K a w := by
  unfold wpOp
  simp only [hi]
  have hw : Region.wanted o (yielded ops a.tmps) = true := by simp [Region.wanted, hg]
  simp only [hw, if_true, Oper.wp, hr, Oper.upon]
  exact .inl h
theorem wpOp_panics {i : Nat} {o : Oper} {f : FuncId} {args : Array Value} {a : Act} {w : World} {K : Act → World → Prop} (hi : ops[i]? = some o) (hg : o.guard = none) (hr : (execOp a.eval o).run P w = .ok (.enter f args) w)
    (h : Calls P f args w fun e w' => ∃ ch, e = .panicked ch ∧ Q (.panic ch) a w') : wpOp P ops Q i K a w := by
  unfold wpOp
  simp only [hi]
  have hw : Region.wanted o (yielded ops a.tmps) = true := by simp [Region.wanted, hg]
  simp only [hw, if_true, Oper.wp, hr, Oper.upon]
  refine .inl (h.mono ?_)
  rintro e w' ⟨ch, rfl, hq⟩
  exact hq
end

/-- the parser gives up, by the panic alone -/
def ErrR (ad : Addr) (g : World) (L : Nat) (ms : List Nat) (w : World) (ch : List PanicEntry) (w' : World) : Prop := Errs ad g L ms w (.panicked ch) w'

abbrev ValPost (r : Res (Val × List Tok)) (ad : Addr) (g : World) (L : Nat) (ms : List Nat) (d : Nat) (w : World) := PRes VAt r ad g L ms d w

set_option maxRecDepth 100000 in
set_option maxHeartbeats 4000000 in
theorem val_num (ad : Addr) (g : World) (L : Nat) (c : Bool) (d : Nat) (ts : List Tok) (ms : List Nat) (w : World) (h : LexAt ad g w L ms d ts) (hk : (cur ts).kind = -3 ∨ (cur ts).kind = -4) :
    Calls Tryz.prog 83 #[.pointer (some ⟨L, 0, none⟩), .bool c] w (PRes VAt (.ok (.prim (cur ts).kind (cur ts).text, ts.tail)) ad g L ms d w) := by
  generalize hK : (cur ts).kind = k at *
  have d1 : (k == 36) = false := by rcases hk with rfl | rfl <;> rfl
  have d2 : (k == -2) = false := by rcases hk with rfl | rfl <;> rfl
  have HK : k ≠ -6 := by rcases hk with rfl | rfl <;> decide
  have H := Lib.hid (And.intro h (And.intro hK HK))
  clear h hK HK
  go_enter_defers Tryz.func83, Tryz.ntmps83
  go_wp2_with fail
  refine (lex_loc ad g L ms d ts _ H.out.1).mono ?_
  rintro e w1 ⟨⟨l0, c0, rfl⟩, hf⟩
  have h1 := H.out.1.quiet hf
  have H1 := Lib.hid (And.intro h1 hf)
  clear h1 hf
  go_wp2_with fail
  refine (lex_peek ad g L ms d ts _ (H1.out.1.alloc _)).mono ?_
  rintro e w' ⟨rfl, rfl⟩
  rw [H.out.2.1]
  rcases hk with rfl | rfl
  all_goals
    go_wp2_with fail
    refine (lex_lit ad g L ms d ts _ (H1.out.1.alloc _) (by rw [H.out.2.1]; decide)).mono ?_
    rintro e w2 ⟨b, ms2, rfl, k1, k2, k3, k4⟩
    rw [H.out.2.1] at k1
    have hb1 := (H1.out.1.keep (Bl.new w1 _ _) k4).1
    have e0 := hb1.cell 0
    have e1 := hb1.cell 1
    have g0 := k1.cell 0
    have g2 := k1.cell 2
    have g3 := k1.cell 3
    have f1 : ∀ o, w2.frozen? ⟨b, o, none⟩ = false := k1.free
    have H2 := Lib.hid (And.intro k1 (And.intro k2 (And.intro k3 k4)))
    clear k1 k2 k3 k4 hb1
    go_wp2_with fail
    refine ⟨_, results_tmp rfl _ _ _, ?_⟩
    obtain ⟨k1, k2, k3, k4⟩ := H2.out
    have hb : b ∉ ms2 := k3.out k1 (by decide)
    have z0 := H.out.1.base
    have z1 := H1.out.2.kept.size
    have z2 : w.heap.size ≤ b := by simp at k2; omega
    exact ⟨_, ms2, rfl, ⟨b, l0, c0, rfl, ⟨(k1.set 2 _).set 3 _, by decide, z2, by simp⟩⟩, (k3.poke hb (by omega) _ _).poke hb (by omega) _ _,
      (((((H1.out.2.wide (by simp)).alloc _).trans k4).set (.inr z2) _).set (.inr z2) _)⟩

set_option maxRecDepth 100000 in
set_option maxHeartbeats 4000000 in
theorem val_null (ad : Addr) (g : World) (L : Nat) (c : Bool) (d : Nat) (ts : List Tok) (ms : List Nat) (w : World) (h : LexAt ad g w L ms d ts) (hk : (cur ts).kind = -2) (ht : (cur ts).text = bNull) :
    Calls Tryz.prog 83 #[.pointer (some ⟨L, 0, none⟩), .bool c] w (PRes VAt (.ok (.null, ts.tail)) ad g L ms d w) := by
  have d1 : ((cur ts).text == [110, 117, 108, 108]) = true := by rw [ht]; rfl
  have H := Lib.hid (And.intro h (And.intro hk ht))
  clear h hk ht
  go_enter_defers Tryz.func83, Tryz.ntmps83
  go_wp2_with fail
  refine (lex_loc ad g L ms d ts _ H.out.1).mono ?_
  rintro e w1 ⟨⟨l0, c0, rfl⟩, hf⟩
  have h1 := H.out.1.quiet hf
  have H1 := Lib.hid (And.intro h1 hf)
  clear h1 hf
  go_wp2_with fail
  refine (lex_peek ad g L ms d ts _ (H1.out.1.alloc _)).mono ?_
  rintro e w' ⟨rfl, rfl⟩
  rw [H.out.2.1]
  go_wp2_with fail
  refine (lex_lit ad g L ms d ts _ (H1.out.1.alloc _) (by rw [H.out.2.1]; decide)).mono ?_
  rintro e w2 ⟨b, ms2, rfl, k1, k2, k3, k4⟩
  rw [H.out.2.1] at k1
  have hb1 := (H1.out.1.keep (Bl.new w1 _ _) k4).1
  have e0 := hb1.cell 0
  have e1 := hb1.cell 1
  have g0 := k1.cell 0
  have g1 := k1.cell 1
  have g2 := k1.cell 2
  have g3 := k1.cell 3
  have f1 : ∀ o, w2.frozen? ⟨b, o, none⟩ = false := k1.free
  have H2 := Lib.hid (And.intro k1 (And.intro k2 (And.intro k3 k4)))
  clear k1 k2 k3 k4 hb1
  go_wp2_with fail
  refine ⟨_, results_tmp rfl _ _ _, ?_⟩
  obtain ⟨k1, k2, k3, k4⟩ := H2.out
  have hb : b ∉ ms2 := k3.out k1 (by decide)
  have z0 := H.out.1.base
  have z1 := H1.out.2.kept.size
  have z3 := k4.kept.size
  have z2 : w.heap.size ≤ b := by simp at k2; omega
  exact ⟨_, ms2, rfl, ⟨w2.heap.size, l0, c0, rfl, ⟨Bl.new w2 _ _, by decide, by simp at z3; omega, by simp⟩⟩, k3.alloc _, (((H1.out.2.wide (by simp)).alloc _).trans k4).alloc _⟩

set_option maxRecDepth 100000 in
set_option maxHeartbeats 4000000 in
theorem val_name (ad : Addr) (g : World) (L : Nat) (c : Bool) (d : Nat) (ts : List Tok) (ms : List Nat) (w : World) (h : LexAt ad g w L ms d ts) (hk : (cur ts).kind = -2) (ht : (cur ts).text ≠ bNull) :
    Calls Tryz.prog 83 #[.pointer (some ⟨L, 0, none⟩), .bool c] w (PRes VAt (.ok (.prim (-2) (cur ts).text, ts.tail)) ad g L ms d w) := by
  have d1 : ((cur ts).text == [110, 117, 108, 108]) = false := by simpa [bNull] using ht
  have H := Lib.hid (And.intro h (And.intro hk ht))
  clear h hk ht
  go_enter_defers Tryz.func83, Tryz.ntmps83
  go_wp2_with fail
  refine (lex_loc ad g L ms d ts _ H.out.1).mono ?_
  rintro e w1 ⟨⟨l0, c0, rfl⟩, hf⟩
  have h1 := H.out.1.quiet hf
  have H1 := Lib.hid (And.intro h1 hf)
  clear h1 hf
  go_wp2_with fail
  refine (lex_peek ad g L ms d ts _ (H1.out.1.alloc _)).mono ?_
  rintro e w' ⟨rfl, rfl⟩
  rw [H.out.2.1]
  go_wp2_with fail
  refine (lex_lit ad g L ms d ts _ (H1.out.1.alloc _) (by rw [H.out.2.1]; decide)).mono ?_
  rintro e w2 ⟨b, ms2, rfl, k1, k2, k3, k4⟩
  rw [H.out.2.1] at k1
  have hb1 := (H1.out.1.keep (Bl.new w1 _ _) k4).1
  have e0 := hb1.cell 0
  have e1 := hb1.cell 1
  have g0 := k1.cell 0
  have g1 := k1.cell 1
  have g2 := k1.cell 2
  have g3 := k1.cell 3
  have f1 : ∀ o, w2.frozen? ⟨b, o, none⟩ = false := k1.free
  have H2 := Lib.hid (And.intro k1 (And.intro k2 (And.intro k3 k4)))
  clear k1 k2 k3 k4 hb1
  go_wp2_with fail
  refine ⟨_, results_tmp rfl _ _ _, ?_⟩
  obtain ⟨k1, k2, k3, k4⟩ := H2.out
  have hb : b ∉ ms2 := k3.out k1 (by decide)
  have z0 := H.out.1.base
  have z1 := H1.out.2.kept.size
  have z3 := k4.kept.size
  have z2 : w.heap.size ≤ b := by simp at k2; omega
  exact ⟨_, ms2, rfl, ⟨b, l0, c0, rfl, ⟨(k1.set 2 _).set 3 _, by decide, z2, by simp⟩⟩, (k3.poke hb (by omega) _ _).poke hb (by omega) _ _,
    (((((H1.out.2.wide (by simp)).alloc _).trans k4).set (.inr z2) _).set (.inr z2) _)⟩

set_option maxRecDepth 100000 in
set_option maxHeartbeats 4000000 in
theorem val_none (ad : Addr) (g : World) (L : Nat) (c : Bool) (d : Nat) (ts : List Tok) (ms : List Nat) (w : World) (h : LexAt ad g w L ms d ts) (hk : (cur ts).kind ≠ 36 ∧ (cur ts).kind ≠ -3 ∧ (cur ts).kind ≠ -4 ∧ (cur ts).kind ≠ -6 ∧ (cur ts).kind ≠ -2 ∧ (cur ts).kind ≠ 45 ∧ (cur ts).kind ≠ 91 ∧ (cur ts).kind ≠ 123) :
    Calls Tryz.prog 83 #[.pointer (some ⟨L, 0, none⟩), .bool c] w (PRes VAt .err ad g L ms d w) := by
  obtain ⟨k1, k2, k3, k4, k5, k6, k7, k8⟩ := hk
  have d1 : ((cur ts).kind == 36) = false := by simpa using k1
  have d2 : ((cur ts).kind == -3) = false := by simpa using k2
  have d3 : ((cur ts).kind == -4) = false := by simpa using k3
  have d4 : ((cur ts).kind == -6) = false := by simpa using k4
  have d5 : ((cur ts).kind == -2) = false := by simpa using k5
  have d6 : ((cur ts).kind == 45) = false := by simpa using k6
  have d7 : ((cur ts).kind == 91) = false := by simpa using k7
  have d8 : ((cur ts).kind == 123) = false := by simpa using k8
  have H := Lib.hid (And.intro h True.intro)
  clear k1 k2 k3 k4 k5 k6 k7 k8
  clear h
  go_enter_defers Tryz.func83, Tryz.ntmps83
  go_wp2_with fail
  refine (lex_loc ad g L ms d ts _ H.out.1).mono ?_
  rintro e w1 ⟨⟨l0, c0, rfl⟩, hf⟩
  have h1 := H.out.1.quiet hf
  have H1 := Lib.hid (And.intro h1 hf)
  clear h1 hf
  go_wp2_with fail
  refine (lex_peek ad g L ms d ts _ (H1.out.1.alloc _)).mono ?_
  rintro e w' ⟨rfl, rfl⟩
  go_wp2_with fail
  refine (lex_err L _ _).mono ?_
  rintro e w2 ⟨rfl, rfl⟩
  exact ⟨_, ms, d, ts, rfl, H1.out.1.alloc _, (H1.out.2.wide (by simp)).alloc _⟩

set_option maxRecDepth 100000 in
set_option maxHeartbeats 4000000 in
theorem val_neg (ad : Addr) (g : World) (L : Nat) (c : Bool) (d : Nat) (ts : List Tok) (ms : List Nat) (w : World) (h : LexAt ad g w L ms d ts) (hk : (cur ts).kind = 45) (ht : (cur ts.tail).kind ≠ -6) :
    Calls Tryz.prog 83 #[.pointer (some ⟨L, 0, none⟩), .bool c] w (PRes VAt (.ok (.prim (cur ts.tail).kind (45 :: (cur ts.tail).text), ts.tail.tail)) ad g L ms d w) := by
  have H := Lib.hid (And.intro h (And.intro hk ht))
  clear ht
  clear h hk
  go_enter_defers Tryz.func83, Tryz.ntmps83
  go_wp2_with fail
  refine (lex_loc ad g L ms d ts _ H.out.1).mono ?_
  rintro e w1 ⟨⟨l0, c0, rfl⟩, hf⟩
  have h1 := H.out.1.quiet hf
  have H1 := Lib.hid (And.intro h1 hf)
  clear h1 hf
  go_wp2_with fail
  refine (lex_peek ad g L ms d ts _ (H1.out.1.alloc _)).mono ?_
  rintro e w' ⟨rfl, rfl⟩
  rw [H.out.2.1]
  go_wp2_with fail
  refine (lex_tok ad g L ms _ ts 45 _ (H1.out.1.alloc _) H.out.2.1).mono ?_
  rintro e w2 ⟨rfl, ms2, k1, k2⟩
  have hb1 := H1.out.1.keep (Bl.new w1 _ _) k2
  have H2 := Lib.hid (And.intro k1 (And.intro k2 hb1))
  clear k1 k2 hb1
  go_wp2_with fail
  refine (lex_lit ad g L ms2 d ts.tail _ H2.out.1 H.out.2.2).mono ?_
  rintro e w3 ⟨b, ms3, rfl, k1, k2, k3, k4⟩
  have hb1 := (k4.bl H2.out.2.2.1 H2.out.2.2.2).1
  have e0 := hb1.cell 0
  have e1 := hb1.cell 1
  have g1 := k1.cell 1
  have g2 := k1.cell 2
  have g3 := k1.cell 3
  have f1 : ∀ o, w3.frozen? ⟨b, o, none⟩ = false := k1.free
  have hne : ¬ w1.heap.size = b := by have := H2.out.2.1.kept.size; simp at this; omega
  have h60 : (cur ts.tail).text.length ≤ 60 := by obtain ⟨_, _, _, _, _, _, _, _, h⟩ := H2.out.1; exact h
  have H3 := Lib.hid (And.intro k1 (And.intro k2 (And.intro k3 k4)))
  clear k1 k2 k3 k4 hb1
  go_wp2_with fail
  refine ⟨_, results_tmp rfl _ _ _, ?_⟩
  obtain ⟨k1, k2, k3, k4⟩ := H3.out
  have hb : b ∉ ms3 := k3.out k1 (by decide)
  have z0 := H.out.1.base
  have z1 := H1.out.2.kept.size
  have z3 := H2.out.2.1.kept.size
  have z2 : w.heap.size ≤ b := by simp at z3; omega
  refine ⟨_, ms3, rfl, ⟨b, l0, c0, rfl, ⟨?_, by decide, z2, by simp⟩⟩, ((k3.poke hb (by omega) _ _).poke hb (by omega) _ _).poke hb (by omega) _ _,
    (((((((H1.out.2.wide (by simp)).alloc _).trans H2.out.2.1).trans k4).set (.inr z2) _).set (.inr z2) _).set (.inr z2) _)⟩
  have := ((k1.set 1 (.string ({ data := #[45] } ++ { data := List.toArray (cur ts.tail).text }))).set 2 (numV l0)).set 3 (numV c0)
  rw [str_cons] at this
  exact this

set_option maxRecDepth 100000 in
set_option maxHeartbeats 4000000 in
theorem val_var_const (ad : Addr) (g : World) (L : Nat) (d : Nat) (ts : List Tok) (ms : List Nat) (w : World) (h : LexAt ad g w L ms d ts) (hk : (cur ts).kind = 36) :
    Calls Tryz.prog 83 #[.pointer (some ⟨L, 0, none⟩), .bool true] w (PRes VAt .err ad g L ms d w) := by
  have H := Lib.hid (And.intro h hk)
  clear h hk
  go_enter_defers Tryz.func83, Tryz.ntmps83
  go_wp2_with fail
  refine (lex_loc ad g L ms d ts _ H.out.1).mono ?_
  rintro e w1 ⟨⟨l0, c0, rfl⟩, hf⟩
  have h1 := H.out.1.quiet hf
  have H1 := Lib.hid (And.intro h1 hf)
  clear h1 hf
  go_wp2_with fail
  refine (lex_peek ad g L ms d ts _ (H1.out.1.alloc _)).mono ?_
  rintro e w' ⟨rfl, rfl⟩
  rw [H.out.2]
  go_wp2_with fail
  refine (lex_err L _ _).mono ?_
  rintro e w2 ⟨rfl, rfl⟩
  exact ⟨_, ms, d, ts, rfl, H1.out.1.alloc _, (H1.out.2.wide (by simp)).alloc _⟩

set_option maxRecDepth 100000 in
set_option maxHeartbeats 4000000 in
theorem val_var (ad : Addr) (g : World) (L : Nat) (d : Nat) (ts : List Tok) (ms : List Nat) (w : World) (h : LexAt ad g w L ms d ts) (hk : (cur ts).kind = 36) :
    Calls Tryz.prog 83 #[.pointer (some ⟨L, 0, none⟩), .bool false] w (PRes VAt ((ident ts.tail).bind fun p => .ok (.var p.1, p.2)) ad g L ms d w) := by
  have H := Lib.hid (And.intro h hk)
  clear h hk
  go_enter_defers Tryz.func83, Tryz.ntmps83
  go_wp2_with fail
  refine (lex_loc ad g L ms d ts _ H.out.1).mono ?_
  rintro e w1 ⟨⟨l0, c0, rfl⟩, hf⟩
  have h1 := H.out.1.quiet hf
  have H1 := Lib.hid (And.intro h1 hf)
  clear h1 hf
  go_wp2_with fail
  refine (lex_peek ad g L ms d ts _ (H1.out.1.alloc _)).mono ?_
  rintro e w' ⟨rfl, rfl⟩
  rw [H.out.2]
  go_wp2_with fail
  refine (lex_tok ad g L ms _ ts 36 _ (H1.out.1.alloc _) H.out.2).mono ?_
  rintro e w2 ⟨rfl, ms2, k1, k2⟩
  have hb1 := H1.out.1.keep (Bl.new w1 _ _) k2
  have e0 := hb1.1.cell 0
  have e1 := hb1.1.cell 1
  have e01 : w2.cell? ⟨w1.heap.size, 0, none⟩ = some (numV l0) ∧ w2.cell? ⟨w1.heap.size, 1, none⟩ = some (numV c0) := ⟨e0, e1⟩
  have H2 := Lib.hid (And.intro k1 (And.intro k2 hb1))
  clear k1 k2 hb1
  go_wp2_with fail
  by_cases hi : (cur ts.tail).kind = -2
  · have HI := Lib.hid hi
    clear hi
    go_region_held3 (fun w' => w'.cell? ⟨w1.heap.size, 0, none⟩ = some (numV l0) ∧ w'.cell? ⟨w1.heap.size, 1, none⟩ = some (numV c0)) (first | exact e01 | exact e31 | exact e31a _) ((
      go_at_call 40
      refine (lex_ident ad g L ms2 d ts.tail _ (H2.out.1.quiet (Fr.refl [] _).drew) HI.out).mono ?_
      rintro e w3 ⟨rfl, ms3, k1, k2⟩
      have hb1 := (((Fr.refl ms2 _).drew.trans k2).bl H2.out.2.2.1 H2.out.2.2.2).1
      have e31 : w3.cell? ⟨w1.heap.size, 0, none⟩ = some (numV l0) ∧ w3.cell? ⟨w1.heap.size, 1, none⟩ = some (numV c0) := ⟨hb1.cell 0, hb1.cell 1⟩
      have e31a := fun o => And.intro (cell_alloc e31.1 o) (cell_alloc e31.2 o)
      have H3 := Lib.hid (And.intro k1 k2)
      clear k1 k2 hb1))
    go_wp2_with fail
    refine ⟨_, results_tmp rfl _ _ _, ?_⟩
    have hid : ident ts.tail = .ok ((cur ts.tail).text, ts.tail.tail) := if_pos HI.out
    rw [hid]
    have z1 := H1.out.2.kept.size
    have z2 := H2.out.2.1.kept.size
    have z3 := H3.out.2.kept.size
    exact ⟨_, ms3, rfl, ⟨w3.heap.size, l0, c0, rfl, ⟨Bl.new w3 _ _, by decide, by simp at z2 z3; omega, by simp⟩⟩, H3.out.1.alloc _, (((((H1.out.2.wide (by simp)).alloc _).trans H2.out.2.1).drew.trans H3.out.2).alloc _)⟩
  · have HI := Lib.hid hi
    clear hi
    refine wp_plain (R := ErrR ad g L ms w) (fun ch a w' h1 h2 => ?_) ?_
    · have hid : ident ts.tail = .err := if_neg HI.out
      refine (?_ : bodyPostD Tryz.prog Tryz.f83 (PRes VAt ((ident ts.tail).bind fun p => .ok (.var p.1, p.2)) ad g L ms d w) (.panic ch) a w')
      rw [hid]
      simp only [bodyPostD, h1]
      exact h2
    have hC : Calls Tryz.prog 40 #[.pointer (some ⟨L, 0, none⟩)] w2.drew fun e w' => ∃ ch, e = .panicked ch ∧ ErrR ad g L ms w ch w' := by
      refine (lex_ident_err ad g L ms2 d ts.tail _ (H2.out.1.quiet (Fr.refl [] _).drew) HI.out).mono ?_
      rintro e w3 ⟨m, ms3, d3, ts3, rfl, k1, k2⟩
      exact ⟨_, rfl, m, ms3, d3, ts3, rfl, k1, (((H1.out.2.wide (by simp)).alloc _).trans H2.out.2.1).trans ((Fr.refl ms2 w2).drew.trans k2)⟩
    refine wp_region_any (by kernel_rfl) ?_
    change wpAny _ _ _ _ 7 _ _ w2.drew
    refine wpAny_each (rs := [0, 2]) (by kernel_rfl) (by simp) ?_
    intro i hi
    simp only [List.mem_cons, List.not_mem_nil, or_false] at hi
    rcases hi with rfl | rfl
    · refine wpOp_val rfl rfl (v := .pointer (some ⟨L, 0, none⟩)) (by simp [execOp, go_sem, Act.eval]) ?_
      refine wpAny_each (rs := [1, 2]) (by kernel_rfl) (by simp) ?_
      intro i hi
      simp only [List.mem_cons, List.not_mem_nil, or_false] at hi
      rcases hi with rfl | rfl
      · refine wpOp_panics rfl rfl (f := 40) (args := #[.pointer (some ⟨L, 0, none⟩)]) (by simp [execOp, go_sem, Act.eval, Act.put]) (hC.mono ?_); rintro e w' ⟨ch, h1, h2⟩; exact ⟨ch, h1, rfl, h2⟩
      · refine wpOp_val rfl rfl (v := .agg #[numV l0, numV c0]) (by simp [execOp, go_sem, Act.eval, Act.put, e0, e1]) ?_
        refine wpAny_each (rs := [1]) (by kernel_rfl) (by simp) ?_
        intro i hi
        simp only [List.mem_cons, List.not_mem_nil, or_false] at hi
        subst hi
        refine wpOp_panics rfl rfl (f := 40) (args := #[.pointer (some ⟨L, 0, none⟩)]) (by simp [execOp, go_sem, Act.eval, Act.put]) (hC.mono ?_); rintro e w' ⟨ch, h1, h2⟩; exact ⟨ch, h1, rfl, h2⟩
    · refine wpOp_val rfl rfl (v := .agg #[numV l0, numV c0]) (by simp [execOp, go_sem, Act.eval, e0, e1]) ?_
      refine wpAny_each (rs := [0]) (by kernel_rfl) (by simp) ?_
      intro i hi
      simp only [List.mem_cons, List.not_mem_nil, or_false] at hi
      subst hi
      refine wpOp_val rfl rfl (v := .pointer (some ⟨L, 0, none⟩)) (by simp [execOp, go_sem, Act.eval, Act.put]) ?_
      refine wpAny_each (rs := [1]) (by kernel_rfl) (by simp) ?_
      intro i hi
      simp only [List.mem_cons, List.not_mem_nil, or_false] at hi
      subst hi
      refine wpOp_panics rfl rfl (f := 40) (args := #[.pointer (some ⟨L, 0, none⟩)]) (by simp [execOp, go_sem, Act.eval, Act.put]) (hC.mono ?_); rintro e w' ⟨ch, h1, h2⟩; exact ⟨ch, h1, rfl, h2⟩

end Go.Proofs.YtobiaaabikfglaaGreatDoor
