/-
  The parser of fragments by a contract. No conditions but lengths.
-/
import Derived.Test.YtobiaaabikfglaaGreatDoorR16
namespace Go.Proofs.YtobiaaabikfglaaGreatDoor
open Go.RowKit Go.Proofs.YtobiaaabikfglaaGreatDoor.Pq Go.Lib

def FragCs (o : Frag) (l1 c1 : Int) (sl : Value) (l2 c2 : Int) (sd : Value) (l3 c3 : Int) : Array Value := #[str o.on, numV l1, numV c1, sl, str o.name, numV l2, numV c2, str [], sd, numV l3, numV c3]
/-- a new fragment: its parts do not reach it -/
def FragNew (B : Bk) (o : Frag) (x : Value) : Prop := ∃ b l1 c1 sl l2 c2 sd l3 c3, x = ptrV b ∧ B b (FragCs o l1 c1 sl l2 c2 sd l3 c3) 72 ∧ SLAt (But B b) o.sels sl ∧ DLAt (But B b) o.dirs sd

set_option maxRecDepth 100000 in
set_option maxHeartbeats 8000000 in
theorem frag_any (ad : Addr) (g : World) (L : Nat) (f : Nat) (ts : List Tok) (ms : List Nat) (w : World) (hf : f ≤ FMax) (h : LexAt ad g w L ms ((0 : Nat) : Int) ts) (hu : pFrag f ts ≠ .unk) :
    Calls Tryz.prog 42 #[.pointer (some ⟨L, 0, none⟩)] w (PRes FragNew (pFrag f ts) ad g L ms 0 w) := by
  have he : pFrag f ts = (ident ts).bind fun n =>
    (if (cur n.2).kind = -2 ∧ (cur n.2).text = bOn then Res.ok n.2.tail else Res.err).bind fun t1 =>
      (ident t1).bind fun o => (pDirs f 0 o.2 []).bind fun q => (pSet f 0 q.2).bind fun p => .ok (⟨n.1, o.1, q.1, p.1⟩, p.2) := rfl
  obtain ⟨r0, hr0⟩ : ∃ r0, pFrag f ts = r0 := ⟨_, rfl⟩
  rw [hr0] at he hu ⊢
  clear hr0
  have H := Lib.hid (And.intro h (And.intro he (And.intro hu hf)))
  clear h he hu hf
  go_enter Tryz.func42, Tryz.ntmps42
  go_wp2_with fail
  have hO := H.out.1.own (Fr.refl _ _) H.out.1.base #[str [], numV 0, numV 0, .slice none 0 0, str [], numV 0, numV 0, str [], .slice none 0 0, numV 0, numV 0] 72 (by decide)
  have H0 := Lib.hid hO
  clear hO
  by_cases hi : (cur ts).kind = -2
  · have hid : ident ts = .ok ((cur ts).text, ts.tail) := if_pos hi
    have hpu := H.out.2.1
    rw [hid] at hpu
    simp only [Res.bind] at hpu
    have HC := Lib.hid (And.intro hi hpu)
    clear hi hpu hid
    refine (lex_name ad g L ms _ ts _ H0.out.lex HC.out.1).mono ?_
    rintro e w5 ⟨⟨l1, c1, rfl⟩, ms5, k1, k2⟩
    have hO5 := H0.out.go k1 k2
    have g4 := hO5.box.cell 4
    have g5 := hO5.box.cell 5
    have g6 := hO5.box.cell 6
    have f1 : ∀ o, w5.frozen? ⟨w.heap.size, o, none⟩ = false := hO5.box.free
    obtain ⟨w6, hw6⟩ : ∃ w6, w6 = ((w5.setCell ⟨w.heap.size, 4, none⟩ (.string ⟨(cur ts).text.toArray⟩)).setCell ⟨w.heap.size, 5, none⟩ (.int .i64 l1)).setCell ⟨w.heap.size, 6, none⟩ (.int .i64 c1) := ⟨_, rfl⟩
    have hO6 := ((hO5.put 4 (str (cur ts).text)).put 5 (numV l1)).put 6 (numV c1)
    rw [← hw6] at hO6
    simp only [List.setIfInBounds_toArray, List.set_cons_succ, List.set_cons_zero] at hO6
    have H6 := Lib.hid hO6
    clear hO5 hO6 k1 k2 H0
    go_wp2_with fail
    rw [← hw6]
    clear hw6 g4 g5 g6 f1
    by_cases hc : (cur ts.tail).kind = -2 ∧ (cur ts.tail).text = bOn
    · have hpu := HC.out.2
      rw [if_pos hc] at hpu
      simp only at hpu
      have HC := Lib.hid (And.intro hc hpu)
      clear hc hpu
      refine (lex_word ad g L ms5 _ ts.tail bOn _ H6.out.lex HC.out.1.1 HC.out.1.2).mono ?_
      rintro e w7 ⟨rfl, ms7, k1, k2⟩
      have H7 := Lib.hid (H6.out.go k1 k2)
      clear k1 k2 H6
      go_wp2_with fail
      by_cases hi : (cur ts.tail.tail).kind = -2
      · have hid : ident ts.tail.tail = .ok ((cur ts.tail.tail).text, ts.tail.tail.tail) := if_pos hi
        have hpu := HC.out.2
        rw [hid] at hpu
        simp only at hpu
        have HC := Lib.hid (And.intro hi hpu)
        clear hi hpu hid
        refine (lex_name ad g L ms7 _ ts.tail.tail _ H7.out.lex HC.out.1).mono ?_
        rintro e w8 ⟨⟨l2, c2, rfl⟩, ms8, k1, k2⟩
        have hO8 := H7.out.go k1 k2
        have g0 := hO8.box.cell 0
        have g1 := hO8.box.cell 1
        have g2 := hO8.box.cell 2
        have f1 : ∀ o, w8.frozen? ⟨w.heap.size, o, none⟩ = false := hO8.box.free
        obtain ⟨w9, hw9⟩ : ∃ w9, w9 = ((w8.setCell ⟨w.heap.size, 0, none⟩ (.string ⟨(cur ts.tail.tail).text.toArray⟩)).setCell ⟨w.heap.size, 1, none⟩ (.int .i64 l2)).setCell ⟨w.heap.size, 2, none⟩ (.int .i64 c2) := ⟨_, rfl⟩
        have hO9 := ((hO8.put 0 (str (cur ts.tail.tail).text)).put 1 (numV l2)).put 2 (numV c2)
        rw [← hw9] at hO9
        simp only [List.setIfInBounds_toArray, List.set_cons_succ, List.set_cons_zero] at hO9
        have H9 := Lib.hid hO9
        clear hO8 hO9 k1 k2 H7
        go_wp2_with fail
        rw [← hw9]
        clear hw9 g0 g1 g2 f1
        obtain ⟨r, hr⟩ : ∃ r, pDirs f 0 ts.tail.tail.tail [] = r := ⟨_, rfl⟩
        have hpu := HC.out.2
        rw [hr] at hpu
        have hru : r ≠ .unk := fun e => by rw [hpu, e] at H; exact H.out.2.2.1 rfl
        have HP := Lib.hid hpu
        clear hpu
        refine (dgoal ad g L f 0 ts.tail.tail.tail ms8 _ (by decide) H.out.2.2.2 H9.out.lex (by rw [hr]; exact hru)).mono ?_
        intro e w3 h3
        rw [hr] at h3
        clear hr
        cases r with
        | unk => exact absurd rfl hru
        | err =>
          obtain ⟨m, ms4, d3, ts3, rfl, k1, k2⟩ := h3
          refine ⟨rfl, ?_⟩
          show PRes _ _ _ _ _ _ _ _ _ _
          rw [HP.out]
          exact ⟨m, ms4, _, ts3, rfl, k1, H9.out.fr.trans k2⟩
        | ok q =>
          obtain ⟨x, ms4, rfl, hD, k2, k3⟩ := h3
          obtain ⟨ao, sl, sc, rfl⟩ : ∃ ao l c, x = .slice ao l c := by obtain ⟨xd, q1, q2⟩ := hD; exact q1.shape
          have hO := H9.out.go k2 k3
          have hlt := H9.out.lt
          have g8 := hO.box.cell 8
          have f1 : ∀ o, w3.frozen? ⟨w.heap.size, o, none⟩ = false := hO.box.free
          obtain ⟨w4, hw4⟩ : ∃ w4, w4 = w3.setCell ⟨w.heap.size, 8, none⟩ (.slice ao sl sc) := ⟨_, rfl⟩
          have hO4 := hO.put 8 (.slice ao sl sc)
          simp only [List.setIfInBounds_toArray, List.set_cons_succ, List.set_cons_zero] at hO4
          have hnew : ∀ b cs t, Fm w3 w9.heap.size b cs t → Fm w4 (w.heap.size + 1) b cs t := fun b cs t k => by rw [hw4]; exact From.far b cs t (Fm.up (by omega) b cs t k) (by omega)
          rw [← hw4] at hO4
          have H4 := Lib.hid (And.intro hO4 (hD.mono hnew))
          clear k2 k3 hO hD hru hnew hO4
          go_wp2_with fail
          rw [← hw4]
          clear hw4 g8 f1
          obtain ⟨r, hr⟩ : ∃ r, pSet f 0 q.2 = r := ⟨_, rfl⟩
          have hpu := HP.out
          try simp only [Res.bind] at hpu
          rw [hr] at hpu
          have hru : r ≠ .unk := fun e => by rw [hpu, e] at H; exact H.out.2.2.1 rfl
          have HP := Lib.hid hpu
          clear hpu
          refine (sgoal ad g L f 0 q.2 ms4 _ (by decide) H.out.2.2.2 H4.out.1.lex (by rw [hr]; exact hru)).mono ?_
          intro e w7 h7
          rw [hr] at h7
          clear hr
          cases r with
          | unk => exact absurd rfl hru
          | err =>
            obtain ⟨m, ms7, d7, ts7, rfl, k1, k2⟩ := h7
            refine ⟨rfl, ?_⟩
            show PRes _ _ _ _ _ _ _ _ _ _
            rw [HP.out]
            exact ⟨m, ms7, _, ts7, rfl, k1, H4.out.1.fr.trans k2⟩
          | ok p =>
            obtain ⟨y, ms7, rfl, hS, k2, k3⟩ := h7
            obtain ⟨ao2, sl2, sc2, rfl⟩ : ∃ ao l c, y = .slice ao l c := by obtain ⟨xd, q1, q2⟩ := hS; exact q1.shape
            have hO := H4.out.1.go k2 k3
            have hlt4 := H4.out.1.lt
            have g3 := hO.box.cell 3
            have f1 : ∀ o, w7.frozen? ⟨w.heap.size, o, none⟩ = false := hO.box.free
            have H7 := Lib.hid (And.intro hO (And.intro hS k3))
            clear k2 k3 hO hS hru
            go_wp2_with fail
            go_ret
            rw [HP.out]
            obtain ⟨hO, hS, k3⟩ := H7.out
            have hO8 := hO.put 3 (.slice ao2 sl2 sc2)
            simp only [List.setIfInBounds_toArray, List.set_cons_succ, List.set_cons_zero] at hO8
            have hnew : ∀ b cs t, Fm w7 w4.heap.size b cs t → But (Fm (w7.setCell ⟨w.heap.size, 3, none⟩ (.slice ao2 sl2 sc2)) w.heap.size) w.heap.size b cs t := fun b cs t k => ⟨Fm.up (Nat.le_succ _) b cs t (From.far b cs t (Fm.up (base := w.heap.size + 1) (by omega) b cs t k) (by omega)), by have := k.2.2.1; omega⟩
            have hold : ∀ b cs t, Fm w4 (w.heap.size + 1) b cs t → But (Fm (w7.setCell ⟨w.heap.size, 3, none⟩ (.slice ao2 sl2 sc2)) w.heap.size) w.heap.size b cs t := fun b cs t k => ⟨Fm.up (Nat.le_succ _) b cs t (From.far b cs t (Fm.lex H4.out.1.lex k3 _ b cs t k) (by omega)), by have := k.2.2.1; omega⟩
            exact ⟨_, ms7, rfl, ⟨w.heap.size, l2, c2, .slice ao2 sl2 sc2, l1, c1, .slice ao sl sc, 0, 0, rfl, ⟨hO8.box, by decide, Nat.le_refl _, by simp⟩, hS.mono hnew, H4.out.2.mono hold⟩, hO8.lex, hO8.fr⟩
      · have hid : ident ts.tail.tail = .err := if_neg hi
        have hpu := HC.out.2
        rw [hid] at hpu
        have HC := Lib.hid (And.intro hi hpu)
        clear hi hpu hid
        refine (lex_name_err ad g L ms7 _ ts.tail.tail _ H7.out.lex HC.out.1).mono ?_
        rintro e w8 ⟨m, ms8, d8, ts8, rfl, k1, k2⟩
        refine ⟨rfl, ?_⟩
        show PRes _ _ _ _ _ _ _ _ _ _
        rw [HC.out.2]
        exact ⟨m, ms8, _, ts8, rfl, k1, H7.out.fr.trans k2⟩
    · have hpu := HC.out.2
      rw [if_neg hc] at hpu
      have HC := Lib.hid (And.intro hc hpu)
      clear hc hpu
      refine (lex_word_err ad g L ms5 _ ts.tail bOn _ H6.out.lex HC.out.1).mono ?_
      rintro e w8 ⟨m, ms8, d8, ts8, rfl, k1, k2⟩
      refine ⟨rfl, ?_⟩
      show PRes _ _ _ _ _ _ _ _ _ _
      rw [HC.out.2]
      exact ⟨m, ms8, _, ts8, rfl, k1, H6.out.fr.trans k2⟩
  · have hid : ident ts = .err := if_neg hi
    have hpu := H.out.2.1
    rw [hid] at hpu
    have HC := Lib.hid (And.intro hi hpu)
    clear hi hpu hid
    refine (lex_name_err ad g L ms _ ts _ H0.out.lex HC.out.1).mono ?_
    rintro e w7 ⟨m, ms7, d7, ts7, rfl, k1, k2⟩
    refine ⟨rfl, ?_⟩
    show PRes _ _ _ _ _ _ _ _ _ _
    rw [HC.out.2]
    exact ⟨m, ms7, _, ts7, rfl, k1, H0.out.fr.trans k2⟩

end Go.Proofs.YtobiaaabikfglaaGreatDoor

/-
  The memory of a document under way: two lists that grow. No conditions.
-/
namespace Go.Proofs.YtobiaaabikfglaaGreatDoor
open Go.RowKit Go.Proofs.YtobiaaabikfglaaGreatDoor.Pq Go.Lib

/-- the blocks from base on but two rows -/
def Two (w : World) (base : Nat) (x y : Option Nat) : Bk := fun b cs t => From w base x b cs t ∧ some b ≠ y

theorem Two.step1 {W w' : World} {base : Nat} {x x' y : Option Nat} (hg : W.grownBy w' x) (hf : ∀ k, x' = some k → x = some k ∨ W.heap.size ≤ k) : ∀ b cs t, Two W base x y b cs t → Two w' base x' y b cs t :=
  fun b cs t k => ⟨From.step hg hf b cs t k.1, k.2⟩
theorem Two.step2 {W w' : World} {base : Nat} {x y y' : Option Nat} (hg : W.grownBy w' y) (hf : ∀ k, y' = some k → y = some k ∨ W.heap.size ≤ k) : ∀ b cs t, Two W base x y b cs t → Two w' base x y' b cs t :=
  fun _ _ _ k => ⟨⟨k.1.1.grown hg k.2, k.1.2.1, k.1.2.2.1, k.1.2.2.2⟩, fun e => by rcases hf _ e.symm with h | h; exact k.2 h.symm; have := k.1.1.lt; omega⟩
theorem Two.put {w : World} {base D i : Nat} {x y : Option Nat} {v : Value} (h : D < base) : ∀ b cs t, Two w base x y b cs t → Two (w.setCell ⟨D, i, none⟩ v) base x y b cs t :=
  fun b cs t k => ⟨From.far2 b cs t k.1 h, k.2⟩
theorem Two.alloc {w : World} {base : Nat} {x y : Option Nat} (o : Obj) : ∀ b cs t, Two w base x y b cs t → Two (w.alloc o) base x y b cs t :=
  fun b cs t k => ⟨From.fr ((Fr.refl [] w).alloc o) b cs t k.1, k.2⟩
theorem Two.all {w : World} {base : Nat} {x y : Option Nat} : ∀ b cs t, Two w base x y b cs t → Fm w base b cs t := fun _ _ _ k => ⟨k.1.1, k.1.2.1, k.1.2.2.1, by simp⟩

structure DSt (ad : Addr) (g w : World) (L : Nat) (ms : List Nat) (wx : World) (ms' : List Nat) (ts : List Tok) (c0 c1 vo : Value) (no : Nat) (xo : List Value) (vf : Value) (nf : Nat) (xf : List Value) : Prop where
  own : Own ad g w L ms ((0 : Nat) : Int) wx ms' ts w.heap.size #[c0, c1] 43
  ro : Grows wx (w.heap.size + 1) 44 vo no xo
  rf : Grows wx (w.heap.size + 1) 66 vf nf xf

section
variable {ad : Addr} {g w wx w2 : World} {L : Nat} {ms ms' ms2 : List Nat} {ts ts2 : List Tok} {c0 c1 vo vf : Value} {no nf : Nat} {xo xf : List Value}

theorem DSt.go (h : DSt ad g w L ms wx ms' ts c0 c1 vo no xo vf nf xf) (k : LexAt ad g w2 L ms2 ((0 : Nat) : Int) ts2) (hf : Fr ms' wx ms2 w2) : DSt ad g w L ms w2 ms2 ts2 c0 c1 vo no xo vf nf xf :=
  ⟨h.own.go k hf, h.ro.lex (by decide) h.own.lex hf, h.rf.lex (by decide) h.own.lex hf⟩
theorem DSt.old (h : DSt ad g w L ms wx ms' ts c0 c1 vo no xo vf nf xf) (hf : Fr ms' wx ms2 w2) (base : Nat) (x y : Option Nat) : ∀ b cs t, Two wx base x y b cs t → Two w2 base x y b cs t :=
  fun b cs t k => ⟨h.own.lex.keeps hf _ _ b cs t k.1, k.2⟩
theorem DSt.new (h : DSt ad g w L ms wx ms' ts c0 c1 vo no xo vf nf xf) : ∀ b cs t, Fm w2 wx.heap.size b cs t → Two w2 (w.heap.size + 1) vo.ownBlock vf.ownBlock b cs t :=
  fun b _ _ k => ⟨⟨k.1, k.2.1, Nat.le_trans h.ro.le k.2.2.1, fun e => by have := (h.ro.row_lt b e.symm).1; have := k.2.2.1; omega⟩, fun e => by have := (h.rf.row_lt b e.symm).1; have := k.2.2.1; omega⟩
theorem DSt.alloc (h : DSt ad g w L ms wx ms' ts c0 c1 vo no xo vf nf xf) (o : Obj) : DSt ad g w L ms (wx.alloc o) ms' ts c0 c1 vo no xo vf nf xf :=
  ⟨h.own.alloc o, h.ro.fr (by decide) ((Fr.refl [] _).alloc o), h.rf.fr (by decide) ((Fr.refl [] _).alloc o)⟩
theorem DSt.calm (h : DSt ad g w L ms wx ms' ts c0 c1 vo no xo vf nf xf) (hf : Fr [] wx [] w2) : DSt ad g w L ms w2 ms' ts c0 c1 vo no xo vf nf xf :=
  ⟨h.own.calm hf, h.ro.fr (by decide) hf, h.rf.fr (by decide) hf⟩

theorem DSt.addo (h : DSt ad g w L ms wx ms' ts c0 c1 vo no xo vf nf xf) {v' : Value} {n' : Nat} {xs' : List Value} (ho : w2.ownsRow (w.heap.size + 1) 44 1 v' n' xs') (hg : wx.grownBy w2 vo.ownBlock) :
    DSt ad g w L ms w2 ms' ts c0 c1 v' n' xs' vf nf xf :=
  ⟨h.own.row h.ro (Nat.le_succ _) (by decide) (by decide) hg, Grows.step ho h.ro.le hg, h.rf.keep (by decide) (fun _ _ k => k.grown hg (k.off h.ro (by decide))) hg.size⟩
theorem DSt.addf (h : DSt ad g w L ms wx ms' ts c0 c1 vo no xo vf nf xf) {v' : Value} {n' : Nat} {xs' : List Value} (ho : w2.ownsRow (w.heap.size + 1) 66 1 v' n' xs') (hg : wx.grownBy w2 vf.ownBlock) :
    DSt ad g w L ms w2 ms' ts c0 c1 vo no xo v' n' xs' :=
  ⟨h.own.row h.rf (Nat.le_succ _) (by decide) (by decide) hg, h.ro.keep (by decide) (fun _ _ k => k.grown hg (k.off h.rf (by decide))) hg.size, Grows.step ho h.rf.le hg⟩
theorem DSt.put0 (h : DSt ad g w L ms wx ms' ts c0 c1 vo no xo vf nf xf) (v : Value) : DSt ad g w L ms (wx.setCell ⟨w.heap.size, 0, none⟩ v) ms' ts v c1 vo no xo vf nf xf :=
  ⟨by have := h.own.put 0 v; simpa only [List.setIfInBounds_toArray, List.set_cons_succ, List.set_cons_zero] using this, h.own.rowput h.ro (by decide) (by decide) 0 v, h.own.rowput h.rf (by decide) (by decide) 0 v⟩
theorem DSt.put1 (h : DSt ad g w L ms wx ms' ts c0 c1 vo no xo vf nf xf) (v : Value) : DSt ad g w L ms (wx.setCell ⟨w.heap.size, 1, none⟩ v) ms' ts c0 v vo no xo vf nf xf :=
  ⟨by have := h.own.put 1 v; simpa only [List.setIfInBounds_toArray, List.set_cons_succ, List.set_cons_zero] using this, h.own.rowput h.ro (by decide) (by decide) 1 v, h.own.rowput h.rf (by decide) (by decide) 1 v⟩
end

theorem OpsAt.snoc {B : Bk} {d : Pq.Op} {y : Value} (hv : OpAt B d y) : ∀ (vs : List Pq.Op) (xs : List Value), OpsAt B vs xs → OpsAt B (vs ++ [d]) (xs ++ [y])
  | [], xs => fun h => by
    have h : xs = [] := h
    subst h
    exact ⟨y, [], rfl, hv, rfl⟩
  | u :: us, xs => fun ⟨z, zs, h1, h2, h3⟩ => ⟨z, zs ++ [y], by rw [h1]; rfl, h2, OpsAt.snoc hv us zs h3⟩
theorem FragsAt.snoc {B : Bk} {d : Frag} {y : Value} (hv : FragAt B d y) : ∀ (vs : List Frag) (xs : List Value), FragsAt B vs xs → FragsAt B (vs ++ [d]) (xs ++ [y])
  | [], xs => fun h => by
    have h : xs = [] := h
    subst h
    exact ⟨y, [], rfl, hv, rfl⟩
  | u :: us, xs => fun ⟨z, zs, h1, h2, h3⟩ => ⟨z, zs ++ [y], by rw [h1]; rfl, h2, FragsAt.snoc hv us zs h3⟩

theorem opAt_of {B : Bk} {o : Pq.Op} {b : Nat} {l1 c1 : Int} {sv sl sd : Value} {l2 c2 : Int} (h : B b (OpCs o l1 c1 sv sl sd l2 c2) 57) (h1 : VLAt B o.vars sv) (h2 : SLAt B o.sels sl) (h3 : DLAt B o.dirs sd) : OpAt B o (ptrV b) := by
  obtain ⟨xv, a1, a2⟩ := h1
  obtain ⟨xs, b1, b2⟩ := h2
  obtain ⟨xd, c1, c2⟩ := h3
  exact ⟨b, _, _, sv, xv, sl, xs, sd, xd, _, _, rfl, h, a1, a2, b1, b2, c1, c2⟩
theorem fragAt_of {B : Bk} {o : Frag} {b : Nat} {l1 c1 : Int} {sl : Value} {l2 c2 : Int} {sd : Value} {l3 c3 : Int} (h : B b (FragCs o l1 c1 sl l2 c2 sd l3 c3) 72) (h2 : SLAt B o.sels sl) (h3 : DLAt B o.dirs sd) : FragAt B o (ptrV b) := by
  obtain ⟨xs, b1, b2⟩ := h2
  obtain ⟨xd, c1, c2⟩ := h3
  exact ⟨b, _, _, sl, xs, _, _, sd, xd, _, _, rfl, h, b1, b2, c1, c2⟩

/-- the document -/
def DocAt (B : Bk) (p : Doc) (x : Value) : Prop := ∃ b so xo sf xf, x = ptrV b ∧ B b #[so, sf] 43 ∧ SlAt B 44 so xo ∧ OpsAt B p.ops xo ∧ SlAt B 66 sf xf ∧ FragsAt B p.frags xf

def DocRes (r : Res Doc) (ad : Addr) (g : World) (L : Nat) (ms : List Nat) (w : World) (e : Ending) (w' : World) : Prop :=
  match r with
  | .ok p => ∃ x ms' ts', e = .returned x ∧ DocAt (Fm w' w.heap.size) p x ∧ LexAt ad g w' L ms' ((0 : Nat) : Int) ts' ∧ Fr ms w ms' w'
  | .err => Errs ad g L ms w e w'
  | .unk => True

structure DocRel (ad : Addr) (g w : World) (L : Nat) (ms : List Nat) (f : Nat) (r : Res Doc) (k : Nat) (wr : World) (ms2 : List Nat) (ts : List Tok) (acc : Doc) (vo : Value) (xo : List Value) (vf : Value) (xf : List Value) : Prop where
  pure : r = pDoc k ts acc
  st : DSt ad g w L ms wr ms2 ts vo vf vo acc.ops.length xo vf acc.frags.length xf
  eo : OpsAt (Two wr (w.heap.size + 1) vo.ownBlock vf.ownBlock) acc.ops xo
  ef : FragsAt (Two wr (w.heap.size + 1) vo.ownBlock vf.ownBlock) acc.frags xf
  leo : acc.ops.length + k ≤ f
  lef : acc.frags.length + k ≤ f

end Go.Proofs.YtobiaaabikfglaaGreatDoor
