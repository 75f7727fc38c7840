/-
  The parser of fields by a contract. No conditions but lengths.
-/
import Derived.Test.YtobiaaabikfglaaGreatDoorR13
namespace Go.Proofs.YtobiaaabikfglaaGreatDoor
open Go.RowKit Go.Proofs.YtobiaaabikfglaaGreatDoor.Pq Go.Lib

def SLAt (B : Bk) (ss : List Sel) (x : Value) : Prop := ∃ xs, SlAt B 119 x xs ∧ SelsAt B ss xs
def FieldAt (B : Bk) (s : Sel) (x : Value) : Prop := ∃ b, x = ptrV b ∧ SelAt B s (.iface 120 (ptrV b))

def SetGoal (ad : Addr) (g : World) (L : Nat) (f : Nat) : Prop := ∀ (d : Nat) (ts : List Tok) (ms : List Nat) (w : World), d ≤ 1000 → f ≤ FMax → LexAt ad g w L ms d ts → pSet f d ts ≠ .unk →
  Calls Tryz.prog 39 #[.pointer (some ⟨L, 0, none⟩)] w (PRes SLAt (pSet f d ts) ad g L ms d w)
def SelGoal (ad : Addr) (g : World) (L : Nat) (f : Nat) : Prop := ∀ (d : Nat) (ts : List Tok) (ms : List Nat) (w : World), d ≤ 1000 → f ≤ FMax → LexAt ad g w L ms d ts → pSel f d ts ≠ .unk →
  Calls Tryz.prog 54 #[.pointer (some ⟨L, 0, none⟩)] w (PRes SelAt (pSel f d ts) ad g L ms d w)

/-- the blocks from `base` on -/
abbrev Fm (w : World) (base : Nat) : Bk := From w base none
theorem Fm.up {w : World} {base base' : Nat} (h : base ≤ base') : ∀ b cs t, Fm w base' b cs t → Fm w base b cs t := fun _ _ _ k => ⟨k.1, k.2.1, Nat.le_trans h k.2.2.1, k.2.2.2⟩
theorem Fm.lex {ad : Addr} {g w w' : World} {L : Nat} {ms ms' : List Nat} {d : Int} {ts : List Tok} (h : LexAt ad g w L ms d ts) (hf : Fr ms w ms' w') (base : Nat) : ∀ b cs t, Fm w base b cs t → Fm w' base b cs t := fun b cs t k => h.keeps hf _ _ b cs t k

/-- the parser at work on a block B of its own -/
structure Own (ad : Addr) (g w : World) (L : Nat) (ms : List Nat) (d : Int) (wx : World) (ms' : List Nat) (ts : List Tok) (B : Nat) (cs : Array Value) (t : TypeId) : Prop where
  lex : LexAt ad g wx L ms' d ts
  box : Bl wx B cs t
  fr : Fr ms w ms' wx
  ge : w.heap.size ≤ B
  lt : B < wx.heap.size
  base : g.heap.size ≤ w.heap.size
  ast : AstT t

theorem Own.put {ad : Addr} {g w : World} {L : Nat} {ms : List Nat} {d : Int} {wx : World} {ms' : List Nat} {ts : List Tok} {B : Nat} {cs : Array Value} {t : TypeId} (h : Own ad g w L ms d wx ms' ts B cs t) (i : Nat) (v : Value) :
    Own ad g w L ms d (wx.setCell ⟨B, i, none⟩ v) ms' ts B (cs.setIfInBounds i v) t :=
  ⟨h.lex.poke (h.lex.out h.box h.ast) (Nat.le_trans h.base h.ge) i v, h.box.set i v, h.fr.set (.inr h.ge) v, h.ge, by simpa [World.setCell] using h.lt, h.base, h.ast⟩

theorem Own.go {ad : Addr} {g w : World} {L : Nat} {ms : List Nat} {d d2 : Int} {wx w2 : World} {ms' ms2 : List Nat} {ts ts2 : List Tok} {B : Nat} {cs : Array Value} {t : TypeId} (h : Own ad g w L ms d wx ms' ts B cs t) (k : LexAt ad g w2 L ms2 d2 ts2) (hf : Fr ms' wx ms2 w2) :
    Own ad g w L ms d2 w2 ms2 ts2 B cs t :=
  ⟨k, (hf.bl h.box (h.lex.out h.box h.ast)).1, h.fr.trans hf, h.ge, Nat.lt_of_lt_of_le h.lt hf.kept.size, h.base, h.ast⟩

theorem Own.alloc {ad : Addr} {g w : World} {L : Nat} {ms : List Nat} {d : Int} {wx : World} {ms' : List Nat} {ts : List Tok} {B : Nat} {cs : Array Value} {t : TypeId} (h : Own ad g w L ms d wx ms' ts B cs t) (o : Obj) : Own ad g w L ms d (wx.alloc o) ms' ts B cs t :=
  h.go (h.lex.alloc o) ((Fr.refl _ _).alloc o)

/-- a block is made -/
theorem LexAt.own {ad : Addr} {g w w0 : World} {L : Nat} {ms ms0 : List Nat} {d : Int} {ts : List Tok} (h : LexAt ad g w L ms d ts) (hf : Fr ms0 w0 ms w) (hb : g.heap.size ≤ w0.heap.size) (cs : Array Value) (t : TypeId) (ht : AstT t) : Own ad g w0 L ms0 d (w.alloc (.cells cs t)) ms ts w.heap.size cs t :=
  ⟨h.alloc _, Bl.new w cs t, hf.alloc _, hf.kept.size, by simp, hb, ht⟩

/-- a field, behind its name -/
structure FieldName (ad : Addr) (g w : World) (L : Nat) (ms : List Nat) (d f : Nat) (r : Res (Sel × List Tok)) (al : Bs) (l1 c1 : Int) (wx : World) (ms' : List Nat) (ts1 : List Tok) (nm : Bs) (l2 c2 : Int) : Prop where
  own : Own ad g w L ms d wx ms' ts1 w.heap.size #[str al, numV l1, numV c1, str nm, numV l2, numV c2, .slice none 0 0, .slice none 0 0, .slice none 0 0, numV 0, numV 0] 122
  pure : r = (pArgsOpt f d ts1).bind fun g => (pDirs f d g.2 []).bind fun q => if (cur q.2).kind = 123 then (pSet f d q.2).bind fun p => .ok (.field al nm g.1 q.1 p.1, p.2) else .ok (.field al nm g.1 q.1 [], q.2)

/-- .. behind its arguments -/
structure FieldArgs (ad : Addr) (g w : World) (L : Nat) (ms : List Nat) (d f : Nat) (r : Res (Sel × List Tok)) (al : Bs) (l1 c1 : Int) (wx : World) (ms' : List Nat) (ts2 : List Tok) (nm : Bs) (l2 c2 : Int) (sa : Value) (gs : List Arg) : Prop where
  own : Own ad g w L ms d wx ms' ts2 w.heap.size #[str al, numV l1, numV c1, str nm, numV l2, numV c2, sa, .slice none 0 0, .slice none 0 0, numV 0, numV 0] 122
  at_ : ALAt (Fm wx (w.heap.size + 1)) gs sa
  pure : r = (pDirs f d ts2 []).bind fun q => if (cur q.2).kind = 123 then (pSet f d q.2).bind fun p => .ok (.field al nm gs q.1 p.1, p.2) else .ok (.field al nm gs q.1 [], q.2)

set_option maxRecDepth 100000 in
set_option maxHeartbeats 8000000 in
theorem field_any (ad : Addr) (g : World) (L : Nat) (f : Nat) (ih : SetGoal ad g L f) (d : Nat) (ts : List Tok) (ms : List Nat) (w : World) (hd : d ≤ 1000) (hf : f ≤ FMax) (h : LexAt ad g w L ms d ts) (hk : (cur ts).kind ≠ 46) (hu : pSel (f + 1) d ts ≠ .unk) :
    Calls Tryz.prog 78 #[.pointer (some ⟨L, 0, none⟩)] w (PRes FieldAt (pSel (f + 1) d ts) ad g L ms d w) := by
  have he : pSel (f + 1) d ts = (ident ts).bind fun a => (if (cur a.2).kind = 58 then ident a.2.tail else .ok a).bind fun n =>
      (pArgsOpt f d n.2).bind fun g => (pDirs f d g.2 []).bind fun q => if (cur q.2).kind = 123 then (pSet f d q.2).bind fun p => .ok (.field a.1 n.1 g.1 q.1 p.1, p.2) else .ok (.field a.1 n.1 g.1 q.1 [], q.2) := by
    rw [pSel]; exact if_neg hk
  obtain ⟨r0, hr0⟩ : ∃ r0, pSel (f + 1) d ts = r0 := ⟨_, rfl⟩
  rw [hr0] at he hu ⊢
  clear hr0
  by_cases hi : (cur ts).kind = -2
  · have hid : ident ts = .ok ((cur ts).text, ts.tail) := if_pos hi
    rw [hid] at he
    simp only [Res.bind] at he
    have H := Lib.hid (And.intro h (And.intro hi (And.intro he (And.intro hu hf))))
    clear h hi he hu hf hid hk
    go_enter Tryz.func78, Tryz.ntmps78
    go_wp2_with fail
    refine (lex_name ad g L ms d ts _ (H.out.1.alloc _) H.out.2.1).mono ?_
    rintro e w1 ⟨⟨l1, c1, rfl⟩, ms1, k1, k2⟩
    have hO := (H.out.1.own (Fr.refl _ _) H.out.1.base #[str [], numV 0, numV 0, str [], numV 0, numV 0, .slice none 0 0, .slice none 0 0, .slice none 0 0, numV 0, numV 0] 122 (by decide)).go k1 k2
    have g0 := hO.box.cell 0
    have g1 := hO.box.cell 1
    have g2 := hO.box.cell 2
    have g3 := hO.box.cell 3
    have g4 := hO.box.cell 4
    have g5 := hO.box.cell 5
    have f1 : ∀ o, w1.frozen? ⟨w.heap.size, o, none⟩ = false := hO.box.free
    have H1 := Lib.hid hO
    clear k1 k2 hO
    go_wp2_with fail
    obtain ⟨w2, hw2⟩ : ∃ w2, w2 = (((((w1.setCell ⟨w.heap.size, 0, none⟩ (.string ⟨(cur ts).text.toArray⟩)).setCell ⟨w.heap.size, 1, none⟩ (.int .i64 l1)).setCell ⟨w.heap.size, 2, none⟩ (.int .i64 c1)).setCell ⟨w.heap.size, 3, none⟩ (.string ⟨(cur ts).text.toArray⟩)).setCell ⟨w.heap.size, 4, none⟩ (.int .i64 l1)).setCell ⟨w.heap.size, 5, none⟩ (.int .i64 c1) := ⟨_, rfl⟩
    rw [← hw2]
    have hO2 := (((((H1.out.put 0 (str (cur ts).text)).put 1 (numV l1)).put 2 (numV c1)).put 3 (str (cur ts).text)).put 4 (numV l1)).put 5 (numV c1)
    rw [← hw2] at hO2
    simp only [List.setIfInBounds_toArray, List.set_cons_succ, List.set_cons_zero] at hO2
    have H2 := Lib.hid hO2
    clear hO2
    clear hw2 H1 g0 g1 g2 g3 g4 g5 f1
    refine (lex_peek ad g L ms1 d ts.tail _ H2.out.lex).mono ?_
    rintro e w' ⟨rfl, rfl⟩
    go_upto_if 20 with (fail)
    go_cut [] (fun wx => ∃ ms' ts1 nm l2 c2, FieldName ad g w L ms d f r0 (cur ts).text l1 c1 wx ms' ts1 nm l2 c2)
    case first =>
      by_cases hc : (cur ts.tail).kind = 58
      · have d1 : ((cur ts.tail).kind == 58) = true := by rw [hc]; rfl
        have hpu := H.out.2.2.1
        rw [if_pos hc] at hpu
        have HC := Lib.hid (And.intro hc hpu)
        clear hc hpu
        go_wp2_with fail
        refine (lex_tok ad g L ms1 d ts.tail 58 _ H2.out.lex HC.out.1).mono ?_
        rintro e w3 ⟨rfl, ms3, k1, k2⟩
        have H3 := Lib.hid (H2.out.go k1 k2)
        clear k1 k2
        go_wp2_with fail
        by_cases hi2 : (cur ts.tail.tail).kind = -2
        · have hid : ident ts.tail.tail = .ok ((cur ts.tail.tail).text, ts.tail.tail.tail) := if_pos hi2
          have hpu := HC.out.2
          rw [hid] at hpu
          have HC := Lib.hid (And.intro hi2 hpu)
          clear hi2 hid hpu
          refine (lex_name ad g L ms3 d ts.tail.tail _ H3.out.lex HC.out.1).mono ?_
          rintro e w4 ⟨⟨l2, c2, rfl⟩, ms4, k1, k2⟩
          have hO := H3.out.go k1 k2
          have g3 := hO.box.cell 3
          have g4 := hO.box.cell 4
          have g5 := hO.box.cell 5
          have f1 : ∀ o, w4.frozen? ⟨w.heap.size, o, none⟩ = false := hO.box.free
          have H4 := Lib.hid hO
          clear k1 k2 hO
          go_wp2_with fail
          go_meet
          have hO := ((H4.out.put 3 (str (cur ts.tail.tail).text)).put 4 (numV l2)).put 5 (numV c2)
          simp only [List.setIfInBounds_toArray, List.set_cons_succ, List.set_cons_zero] at hO
          exact ⟨ms4, ts.tail.tail.tail, (cur ts.tail.tail).text, l2, c2, hO, HC.out.2⟩
        · have hid : ident ts.tail.tail = .err := if_neg hi2
          have hpu := HC.out.2
          rw [hid] at hpu
          have HC := Lib.hid (And.intro hi2 hpu)
          clear hi2 hid hpu
          refine (lex_name_err ad g L ms3 d ts.tail.tail _ H3.out.lex HC.out.1).mono ?_
          rintro e w4 ⟨m, ms4, d4, ts4, rfl, k1, k2⟩
          refine ⟨rfl, ?_⟩
          show PRes _ _ _ _ _ _ _ _ _ _
          rw [HC.out.2]
          exact ⟨m, ms4, _, ts4, rfl, k1, H3.out.fr.trans k2⟩
      · have d1 : ((cur ts.tail).kind == 58) = false := by simpa using hc
        have hpu := H.out.2.2.1
        rw [if_neg hc] at hpu
        have HC := Lib.hid hpu
        clear hc hpu
        go_wp2_with fail
        go_meet
        exact ⟨ms1, ts.tail, (cur ts).text, l1, c1, H2.out, HC.out⟩
    case rest =>
      clear H2
      obtain ⟨ms2, ts1, nm, l2, c2, hN⟩ := hcut
      have HN := Lib.hid hN
      clear hN
      go_wp2_with fail
      refine (lex_peek ad g L ms2 d ts1 _ HN.out.own.lex).mono ?_
      rintro e w' ⟨rfl, rfl⟩
      go_upto_if 30 with (fail)
      go_cut [] (fun wx => ∃ ms' ts2 sa gs, FieldArgs ad g w L ms d f r0 (cur ts).text l1 c1 wx ms' ts2 nm l2 c2 sa gs)
      case first =>
        by_cases hc : (cur ts1).kind = 40
        · have d1 : ((cur ts1).kind == 40) = true := by rw [hc]; rfl
          have hpu := HN.out.pure
          rw [pArgsOpt, if_pos hc] at hpu
          have HC := Lib.hid (And.intro hc hpu)
          clear hc hpu
          go_wp2_with fail
          obtain ⟨r, hr⟩ : ∃ r, pArgs f d ts1.tail [] = r := ⟨_, rfl⟩
          have hpu := HC.out.2
          rw [hr] at hpu
          have hru : r ≠ .unk := fun e => by rw [hpu, e] at H; exact H.out.2.2.2.1 rfl
          have HP := Lib.hid (And.intro hpu hr)
          clear hpu
          refine (agoal ad g L f d ts1 ms2 _ hd H.out.2.2.2.2 HN.out.own.lex HC.out.1 (by rw [hr]; exact hru)).mono ?_
          intro e w3 h3
          rw [hr] at h3
          clear hr
          cases r with
          | unk => exact absurd rfl hru
          | err =>
            obtain ⟨m, ms3, d3, ts3, rfl, k1, k2⟩ := h3
            refine ⟨rfl, ?_⟩
            show PRes _ _ _ _ _ _ _ _ _ _
            rw [HP.out.1]
            exact ⟨m, ms3, _, ts3, rfl, k1, HN.out.own.fr.trans k2⟩
          | ok p =>
            obtain ⟨x, ms3, rfl, ⟨xa, q1, q2⟩, k2, k3⟩ := h3
            obtain ⟨ao, sl, sc, rfl⟩ := q1.shape
            have hO := HN.out.own.go k2 k3
            have g6 := hO.box.cell 6
            have f1 : ∀ o, w3.frozen? ⟨w.heap.size, o, none⟩ = false := hO.box.free
            have hlt := HN.out.own.lt
            have H3 := Lib.hid (And.intro hO (And.intro q1 q2))
            clear k2 k3 hO q1 q2 hru
            go_wp2_with fail
            go_meet
            obtain ⟨hO, q1, q2⟩ := H3.out
            have hnew : ∀ b cs t, Fm w3 wc.heap.size b cs t → Fm (w3.setCell ⟨w.heap.size, 6, none⟩ (.slice ao sl sc)) (w.heap.size + 1) b cs t := fun b cs t k => From.far b cs t (Fm.up (by omega) b cs t k) (by omega)
            have hO := hO.put 6 (.slice ao sl sc)
            simp only [List.setIfInBounds_toArray, List.set_cons_succ, List.set_cons_zero] at hO
            exact ⟨ms3, p.2, .slice ao sl sc, p.1, hO, ⟨xa, q1.mono hnew, AsAt.mono hnew _ _ q2⟩, HP.out.1⟩
        · have d1 : ((cur ts1).kind == 40) = false := by simpa using hc
          have hpu := HN.out.pure
          rw [pArgsOpt, if_neg hc] at hpu
          have HC := Lib.hid hpu
          clear hc hpu
          go_wp2_with fail
          go_meet
          exact ⟨ms2, ts1, .slice none 0 0, [], HN.out.own, ⟨[], .inl ⟨rfl, rfl⟩, rfl⟩, HC.out⟩
      case rest =>
        clear HN
        obtain ⟨ms3, ts2, sa, gs, hA⟩ := hcut
        have HA := Lib.hid hA
        clear hA
        obtain ⟨r, hr⟩ : ∃ r, pDirs f d ts2 [] = r := ⟨_, rfl⟩
        have hpu := HA.out.pure
        rw [hr] at hpu
        have hru : r ≠ .unk := fun e => by rw [hpu, e] at H; exact H.out.2.2.2.1 rfl
        have HP := Lib.hid (And.intro hpu hr)
        clear hpu
        go_wp2_with fail
        refine (dgoal ad g L f d ts2 ms3 _ hd H.out.2.2.2.2 HA.out.own.lex (by rw [hr]; exact hru)).mono ?_
        intro e w3 h3
        rw [hr] at h3
        clear hr
        cases r with
        | unk => exact absurd rfl hru
        | err =>
          obtain ⟨m, ms4, d3, ts3, rfl, k1, k2⟩ := h3
          refine ⟨rfl, ?_⟩
          show PRes _ _ _ _ _ _ _ _ _ _
          rw [HP.out.1]
          exact ⟨m, ms4, _, ts3, rfl, k1, HA.out.own.fr.trans k2⟩
        | ok q =>
          obtain ⟨x, ms4, rfl, ⟨xd, q1, q2⟩, k2, k3⟩ := h3
          obtain ⟨ao, sl, sc, rfl⟩ := q1.shape
          have hO := HA.out.own.go k2 k3
          have hlt := HA.out.own.lt
          have g7 := hO.box.cell 7
          have f1 : ∀ o, w3.frozen? ⟨w.heap.size, o, none⟩ = false := hO.box.free
          obtain ⟨w4, hw4⟩ : ∃ w4, w4 = w3.setCell ⟨w.heap.size, 7, none⟩ (.slice ao sl sc) := ⟨_, rfl⟩
          have hO4 := hO.put 7 (.slice ao sl sc)
          simp only [List.setIfInBounds_toArray, List.set_cons_succ, List.set_cons_zero] at hO4
          have hnew : ∀ b cs t, Fm w3 wc.heap.size b cs t → Fm w4 (w.heap.size + 1) b cs t := fun b cs t k => by rw [hw4]; exact From.far b cs t (Fm.up (by omega) b cs t k) (by omega)
          have hold : ∀ b cs t, Fm wc (w.heap.size + 1) b cs t → Fm w4 (w.heap.size + 1) b cs t := fun b cs t k => by rw [hw4]; exact From.far b cs t (Fm.lex HA.out.own.lex k3 _ b cs t k) (by omega)
          rw [← hw4] at hO4
          have hD4 : DLAt (Fm w4 (w.heap.size + 1)) q.1 (.slice ao sl sc) := ⟨xd, q1.mono hnew, DsAt.mono hnew _ _ q2⟩
          have hA4 : ALAt (Fm w4 (w.heap.size + 1)) gs sa := by
            obtain ⟨xa, a1, a2⟩ := HA.out.at_
            exact ⟨xa, a1.mono hold, AsAt.mono hold _ _ a2⟩
          have H4 := Lib.hid (And.intro hO4 (And.intro hD4 hA4))
          clear k2 k3 hO q1 q2 hru hnew hold hO4 hD4 hA4
          go_wp2_with fail
          rw [← hw4]
          clear hw4 g7 f1
          refine (lex_peek ad g L ms4 d q.2 _ H4.out.1.lex).mono ?_
          rintro e w' ⟨rfl, rfl⟩
          have hpu := HP.out.1
          simp only [Res.bind] at hpu
          by_cases hc : (cur q.2).kind = 123
          · have d1 : ((cur q.2).kind == 123) = true := by rw [hc]; rfl
            rw [if_pos hc] at hpu
            obtain ⟨r2, hr2⟩ : ∃ r2, pSet f d q.2 = r2 := ⟨_, rfl⟩
            rw [hr2] at hpu
            have hru : r2 ≠ .unk := fun e => by rw [hpu, e] at H; exact H.out.2.2.2.1 rfl
            have HP := Lib.hid (And.intro hpu hr2)
            clear hpu hc hr2
            go_wp2_with fail
            refine (lex_loc ad g L ms4 d q.2 _ H4.out.1.lex).mono ?_
            rintro e w5 ⟨⟨l3, c3, rfl⟩, hf⟩
            have hO := H4.out.1.go (H4.out.1.lex.quiet hf) (hf.wide (by simp))
            have g9 := hO.box.cell 9
            have g10 := hO.box.cell 10
            have f1 : ∀ o, w5.frozen? ⟨w.heap.size, o, none⟩ = false := hO.box.free
            obtain ⟨w6, hw6⟩ : ∃ w6, w6 = (w5.setCell ⟨w.heap.size, 9, none⟩ (.int .i64 l3)).setCell ⟨w.heap.size, 10, none⟩ (.int .i64 c3) := ⟨_, rfl⟩
            have hO6 := (hO.put 9 (numV l3)).put 10 (numV c3)
            simp only [List.setIfInBounds_toArray, List.set_cons_succ, List.set_cons_zero] at hO6
            have hold : ∀ b cs t, Fm w4 (w.heap.size + 1) b cs t → Fm w6 (w.heap.size + 1) b cs t := fun b cs t k => by rw [hw6]; exact From.far b cs t (From.far b cs t (From.fr hf b cs t k) (by omega)) (by omega)
            rw [← hw6] at hO6
            have hD6 : DLAt (Fm w6 (w.heap.size + 1)) q.1 (.slice ao sl sc) := by obtain ⟨xd, a1, a2⟩ := H4.out.2.1; exact ⟨xd, a1.mono hold, DsAt.mono hold _ _ a2⟩
            have hA6 : ALAt (Fm w6 (w.heap.size + 1)) gs sa := by obtain ⟨xa, a1, a2⟩ := H4.out.2.2; exact ⟨xa, a1.mono hold, AsAt.mono hold _ _ a2⟩
            have H6 := Lib.hid (And.intro hO6 (And.intro hD6 hA6))
            clear hO hold hO6 hD6 hA6 hf
            go_wp2_with fail
            rw [← hw6]
            clear hw6 g9 g10 f1
            refine (ih d q.2 ms4 _ hd H.out.2.2.2.2 H6.out.1.lex (by rw [HP.out.2]; exact hru)).mono ?_
            intro e w7 h7
            rw [HP.out.2] at h7
            cases r2 with
            | unk => exact absurd rfl hru
            | err =>
              obtain ⟨m, ms7, d7, ts7, rfl, k1, k2⟩ := h7
              refine ⟨rfl, ?_⟩
              show PRes _ _ _ _ _ _ _ _ _ _
              rw [HP.out.1]
              exact ⟨m, ms7, _, ts7, rfl, k1, H6.out.1.fr.trans k2⟩
            | ok p =>
              obtain ⟨y, ms7, rfl, ⟨ys, q1, q2⟩, k2, k3⟩ := h7
              obtain ⟨ao2, sl2, sc2, rfl⟩ := q1.shape
              have hO := H6.out.1.go k2 k3
              have hlt6 := H6.out.1.lt
              have g8 := hO.box.cell 8
              have f1 : ∀ o, w7.frozen? ⟨w.heap.size, o, none⟩ = false := hO.box.free
              have H7 := Lib.hid (And.intro hO (And.intro q1 (And.intro q2 k3)))
              clear k2 k3 hO q1 q2 hru
              go_wp2_with fail
              go_ret
              rw [HP.out.1]
              obtain ⟨hO, q1, q2, k3⟩ := H7.out
              have hO8 := hO.put 8 (.slice ao2 sl2 sc2)
              simp only [List.setIfInBounds_toArray, List.set_cons_succ, List.set_cons_zero] at hO8
              have hnew : ∀ b cs t, Fm w7 w6.heap.size b cs t → Fm (w7.setCell ⟨w.heap.size, 8, none⟩ (.slice ao2 sl2 sc2)) w.heap.size b cs t := fun b cs t k => From.far b cs t (Fm.up (base := w.heap.size + 1) (by omega) b cs t k) (by omega) |> Fm.up (by omega) b cs t
              have hold : ∀ b cs t, Fm w6 (w.heap.size + 1) b cs t → Fm (w7.setCell ⟨w.heap.size, 8, none⟩ (.slice ao2 sl2 sc2)) w.heap.size b cs t := fun b cs t k => From.far b cs t (Fm.lex H6.out.1.lex k3 _ b cs t k) (by omega) |> Fm.up (by omega) b cs t
              obtain ⟨xd, a1, a2⟩ := H6.out.2.1
              obtain ⟨xa, b1, b2⟩ := H6.out.2.2
              exact ⟨_, ms7, rfl, ⟨w.heap.size, rfl, w.heap.size, l1, c1, l2, c2, sa, xa, .slice ao sl sc, xd, .slice ao2 sl2 sc2, ys, l3, c3, rfl, ⟨hO8.box, by decide, Nat.le_refl _, by simp⟩, b1.mono hold, AsAt.mono hold _ _ b2, a1.mono hold, DsAt.mono hold _ _ a2, q1.mono hnew, SelsAt.mono hnew _ _ q2⟩, hO8.lex, hO8.fr⟩
          · have d1 : ((cur q.2).kind == 123) = false := by simpa using hc
            rw [if_neg hc] at hpu
            have HP := Lib.hid hpu
            clear hpu hc
            go_wp2_with fail
            go_ret
            rw [HP.out]
            obtain ⟨hO, ⟨xd, a1, a2⟩, ⟨xa, b1, b2⟩⟩ := H4.out
            have hold := Fm.up (w := w4) (base := w.heap.size) (base' := w.heap.size + 1) (by omega)
            exact ⟨_, ms4, rfl, ⟨w.heap.size, rfl, w.heap.size, l1, c1, l2, c2, sa, xa, .slice ao sl sc, xd, .slice none 0 0, [], 0, 0, rfl, ⟨hO.box, by decide, Nat.le_refl _, by simp⟩, b1.mono hold, AsAt.mono hold _ _ b2, a1.mono hold, DsAt.mono hold _ _ a2, .inl ⟨rfl, rfl⟩, rfl⟩, hO.lex, hO.fr⟩
  · have hid : ident ts = .err := if_neg hi
    rw [hid] at he
    have H := Lib.hid (And.intro h (And.intro hi he))
    clear h hi he hu hf hid hk
    go_enter Tryz.func78, Tryz.ntmps78
    go_wp2_with fail
    refine (lex_name_err ad g L ms d ts _ (H.out.1.alloc _) H.out.2.1).mono ?_
    rintro e w1 ⟨m, ms1, d1, ts1, rfl, k1, k2⟩
    refine ⟨rfl, ?_⟩
    show PRes _ _ _ _ _ _ _ _ _ _
    rw [H.out.2.2]
    exact ⟨m, ms1, _, ts1, rfl, k1, ((Fr.refl _ _).alloc _).trans k2⟩

end Go.Proofs.YtobiaaabikfglaaGreatDoor

/-
  The parser of spreads and inline fragments by a contract. No conditions but lengths.
-/
namespace Go.Proofs.YtobiaaabikfglaaGreatDoor
open Go.RowKit Go.Proofs.YtobiaaabikfglaaGreatDoor.Pq Go.Lib

structure InlSt (ad : Addr) (g w : World) (L : Nat) (ms : List Nat) (d f : Nat) (r : Res (Sel × List Tok)) (F : Nat) (l0 c0 : Int) (wx : World) (ms' : List Nat) (ts3 : List Tok) (on : Option Bs) (l1 c1 : Int) : Prop where
  own : Own ad g w L ms d wx ms' ts3 F #[str (on.getD []), numV l1, numV c1, .slice none 0 0, .slice none 0 0, numV l0, numV c0] 128
  pure : r = (pDirs f d ts3 []).bind fun q => (pSet f d q.2).bind fun p => .ok (.inline on q.1 p.1, p.2)

set_option maxRecDepth 100000 in
set_option maxHeartbeats 8000000 in
theorem spread_any (ad : Addr) (g : World) (L : Nat) (f : Nat) (ih : SetGoal ad g L f) (d : Nat) (ts : List Tok) (ms : List Nat) (w : World) (hd : d ≤ 1000) (hf : f ≤ FMax) (h : LexAt ad g w L ms d ts) (hk : (cur ts).kind = 46) (hu : pSel (f + 1) d ts ≠ .unk) :
    Calls Tryz.prog 77 #[.pointer (some ⟨L, 0, none⟩)] w (PRes SelAt (pSel (f + 1) d ts) ad g L ms d w) := by
  have he : pSel (f + 1) d ts = (want 46 ts.tail).bind fun t1 => (want 46 t1).bind fun t2 =>
        if (cur t2).kind = -2 then
          if (cur t2).text = bOn then
            (ident t2.tail).bind fun n => (pDirs f d n.2 []).bind fun q => (pSet f d q.2).bind fun p => .ok (.inline (some n.1) q.1 p.1, p.2)
          else (pDirs f d t2.tail []).bind fun q => .ok (.spread (cur t2).text q.1, q.2)
        else (pDirs f d t2 []).bind fun q => (pSet f d q.2).bind fun p => .ok (.inline none q.1 p.1, p.2) := by
    rw [pSel]; exact if_pos hk
  obtain ⟨r0, hr0⟩ : ∃ r0, pSel (f + 1) d ts = r0 := ⟨_, rfl⟩
  rw [hr0] at he hu ⊢
  clear hr0
  have H := Lib.hid (And.intro h (And.intro hk (And.intro he (And.intro hu hf))))
  clear h hk he hu hf
  go_enter Tryz.func77, Tryz.ntmps77
  go_wp2_with fail
  refine (lex_loc ad g L ms d ts _ H.out.1).mono ?_
  rintro e w1 ⟨⟨l0, c0, rfl⟩, hf⟩
  have hO := (H.out.1.quiet hf).own (hf.wide (by simp)) H.out.1.base #[numV l0, numV c0] 47 (by decide)
  have H1 := Lib.hid hO
  clear hf hO
  go_wp2_with fail
  refine (lex_tok ad g L ms _ ts 46 _ H1.out.lex H.out.2.1).mono ?_
  rintro e w2 ⟨rfl, ms2, k1, k2⟩
  have H2 := Lib.hid (H1.out.go k1 k2)
  clear k1 k2
  go_wp2_with fail
  by_cases ha : (cur ts.tail).kind = 46
  · have hpu := H.out.2.2.1
    rw [want, if_pos ha] at hpu
    simp only [Res.bind] at hpu
    have HC := Lib.hid (And.intro ha hpu)
    clear ha hpu
    refine (lex_tok ad g L ms2 _ ts.tail 46 _ H2.out.lex HC.out.1).mono ?_
    rintro e w3 ⟨rfl, ms3, k1, k2⟩
    have H3 := Lib.hid (H2.out.go k1 k2)
    clear k1 k2
    go_wp2_with fail
    by_cases hb : (cur ts.tail.tail).kind = 46
    · have hpu := HC.out.2
      rw [want, if_pos hb] at hpu
      simp only at hpu
      have HC := Lib.hid (And.intro hb hpu)
      clear hb hpu
      refine (lex_tok ad g L ms3 _ ts.tail.tail 46 _ H3.out.lex HC.out.1).mono ?_
      rintro e w4 ⟨rfl, ms4, k1, k2⟩
      generalize ts.tail.tail.tail = t2 at *
      have hO := H3.out.go k1 k2
      have e0 := hO.box.cell 0
      have e1 := hO.box.cell 1
      have H4 := Lib.hid hO
      clear k1 k2 hO
      go_wp2_with fail
      have hF := H4.out.lex.own H4.out.fr H.out.1.base #[str [], numV 0, numV 0, .slice none 0 0, .slice none 0 0, numV l0, numV c0] 128 (by decide)
      have H5 := Lib.hid hF
      clear hF
      refine (lex_peek ad g L ms4 d t2 _ H5.out.lex).mono ?_
      rintro e w' ⟨rfl, rfl⟩
      go_upto_if 20 with (fail)
      go_cut [] (fun wx => ∃ ms' ts3 on l1 c1, InlSt ad g w L ms d f r0 w4.heap.size l0 c0 wx ms' ts3 on l1 c1)
      case first =>
        by_cases hc : (cur t2).kind = -2
        · have d1 : ((cur t2).kind == -2) = true := by rw [hc]; rfl
          have hpu := HC.out.2
          rw [if_pos hc] at hpu
          have HC := Lib.hid (And.intro hc hpu)
          clear hc hpu
          go_wp2_with fail
          refine (lex_name ad g L ms4 d t2 _ H5.out.lex HC.out.1).mono ?_
          rintro e w6 ⟨⟨l1, c1, rfl⟩, ms6, k1, k2⟩
          have hO := H5.out.go k1 k2
          have hB := ((H4.out.alloc _).go k1 k2)
          have H6 := Lib.hid (And.intro hO hB)
          have e0 := hB.box.cell 0
          have e1 := hB.box.cell 1
          clear k1 k2 hO hB
          by_cases ht : (cur t2).text = bOn
          · have d2 : ((cur t2).text == [111, 110]) = true := by rw [ht]; rfl
            have d3 : ((cur t2).text != [111, 110]) = false := by rw [ht]; rfl
            have hpu := HC.out.2
            rw [if_pos ht] at hpu
            have HC := Lib.hid hpu
            clear ht hpu
            go_wp2_with fail
            by_cases hi : (cur t2.tail).kind = -2
            · have hid : ident t2.tail = .ok ((cur t2.tail).text, t2.tail.tail) := if_pos hi
              have hpu := HC.out
              rw [hid] at hpu
              simp only at hpu
              have HC := Lib.hid (And.intro hi hpu)
              clear hi hid hpu
              refine (lex_name ad g L ms6 d t2.tail _ (H6.out.1.lex.alloc _) HC.out.1).mono ?_
              rintro e w7 ⟨⟨l2, c2, rfl⟩, ms7, k1, k2⟩
              have hO := (H6.out.1.alloc _).go k1 k2
              have g0 := hO.box.cell 0
              have g1 := hO.box.cell 1
              have g2 := hO.box.cell 2
              have f1 : ∀ o, w7.frozen? ⟨w4.heap.size, o, none⟩ = false := hO.box.free
              have H7 := Lib.hid hO
              clear k1 k2 hO
              go_wp2_with fail
              go_meet
              have hO := ((H7.out.put 0 (str (cur t2.tail).text)).put 1 (numV l2)).put 2 (numV c2)
              simp only [List.setIfInBounds_toArray, List.set_cons_succ, List.set_cons_zero] at hO
              exact ⟨ms7, t2.tail.tail, some (cur t2.tail).text, l2, c2, hO, HC.out.2⟩
            · have hid : ident t2.tail = .err := if_neg hi
              have hpu := HC.out
              rw [hid] at hpu
              have HC := Lib.hid (And.intro hi hpu)
              clear hi hid hpu
              refine (lex_name_err ad g L ms6 d t2.tail _ (H6.out.1.lex.alloc _) HC.out.1).mono ?_
              rintro e w7 ⟨m, ms7, d7, ts7, rfl, k1, k2⟩
              refine ⟨rfl, ?_⟩
              show PRes _ _ _ _ _ _ _ _ _ _
              rw [HC.out.2]
              exact ⟨m, ms7, _, ts7, rfl, k1, (H6.out.1.fr.alloc _).trans k2⟩
          · have d2 : ((cur t2).text == [111, 110]) = false := by simpa [bOn] using ht
            have d3 : ((cur t2).text != [111, 110]) = true := by simpa [bOn] using ht
            have hpu := HC.out.2
            rw [if_neg ht] at hpu
            obtain ⟨r, hr⟩ : ∃ r, pDirs f d t2.tail [] = r := ⟨_, rfl⟩
            rw [hr] at hpu
            have hru : r ≠ .unk := fun e => by rw [hpu, e] at H; exact H.out.2.2.2.1 rfl
            have HP := Lib.hid (And.intro hpu hr)
            clear hpu hr ht
            have hS := (H6.out.1.lex.alloc (.cells #[str (cur t2).text, numV l1, numV c1] 49)).own (H6.out.1.fr.alloc _) H.out.1.base #[str (cur t2).text, numV l1, numV c1, .slice none 0 0, numV l0, numV c0] 125 (by decide)
            have eS : (w6.alloc (.cells #[str (cur t2).text, numV l1, numV c1] 49)).heap.size = w6.heap.size + 1 := by simp
            rw [eS] at hS
            have HS := Lib.hid hS
            clear hS eS
            have e0a := fun o => cell_alloc e0 o
            have e1a := fun o => cell_alloc e1 o
            go_wp2_with fail
            refine (dgoal ad g L f d t2.tail ms6 _ hd H.out.2.2.2.2 HS.out.lex (by rw [HP.out.2]; exact hru)).mono ?_
            intro e w7 h7
            rw [HP.out.2] at h7
            cases r with
            | unk => exact absurd rfl hru
            | err =>
              obtain ⟨m, ms7, d7, ts7, rfl, k1, k2⟩ := h7
              refine ⟨rfl, ?_⟩
              show PRes _ _ _ _ _ _ _ _ _ _
              rw [HP.out.1]
              exact ⟨m, ms7, _, ts7, rfl, k1, HS.out.fr.trans k2⟩
            | ok q =>
              obtain ⟨x, ms7, rfl, ⟨xd, q1, q2⟩, k2, k3⟩ := h7
              obtain ⟨ao, sl, sc, rfl⟩ := q1.shape
              have hO := HS.out.go k2 k3
              have hlt := HS.out.lt
              have g3 := hO.box.cell 3
              have f1 : ∀ o, w7.frozen? ⟨w6.heap.size + 1, o, none⟩ = false := hO.box.free
              have H7 := Lib.hid (And.intro hO (And.intro q1 q2))
              clear k2 k3 hO q1 q2 hru
              go_wp2_with fail
              go_ret
              rw [HP.out.1]
              obtain ⟨hO, q1, q2⟩ := H7.out
              have hO8 := hO.put 3 (.slice ao sl sc)
              simp only [List.setIfInBounds_toArray, List.set_cons_succ, List.set_cons_zero] at hO8
              have hge := hO.ge
              have hnew : ∀ b cs t, Fm w7 ((w6.alloc (.cells #[str (cur t2).text, numV l1, numV c1] 49)).alloc (.cells #[str (cur t2).text, numV l1, numV c1, .slice none 0 0, numV l0, numV c0] 125)).heap.size b cs t → Fm (w7.setCell ⟨w6.heap.size + 1, 3, none⟩ (.slice ao sl sc)) w.heap.size b cs t := fun b cs t k => Fm.up (by omega) b cs t (From.far (base := w6.heap.size + 2) b cs t (Fm.up (by simp) b cs t k) (by omega))
              exact ⟨_, ms7, rfl, ⟨w6.heap.size + 1, l1, c1, .slice ao sl sc, xd, l0, c0, rfl, ⟨hO8.box, by decide, hge, by simp⟩, q1.mono hnew, DsAt.mono hnew _ _ q2⟩, hO8.lex, hO8.fr⟩
        · have d1 : ((cur t2).kind == -2) = false := by simpa using hc
          have hpu := HC.out.2
          rw [if_neg hc] at hpu
          have HC := Lib.hid hpu
          clear hc hpu
          go_wp2_with fail
          go_meet
          exact ⟨ms4, t2, none, 0, 0, H5.out, HC.out⟩
      case rest =>
        clear H5 H4 H3 H2
        obtain ⟨ms5, ts3, on, l1, c1, hI⟩ := hcut
        have HI := Lib.hid hI
        clear hI
        obtain ⟨r, hr⟩ : ∃ r, pDirs f d ts3 [] = r := ⟨_, rfl⟩
        have hpu := HI.out.pure
        rw [hr] at hpu
        have hru : r ≠ .unk := fun e => by rw [hpu, e] at H; exact H.out.2.2.2.1 rfl
        have HP := Lib.hid (And.intro hpu hr)
        clear hpu hr
        go_wp2_with fail
        refine (dgoal ad g L f d ts3 ms5 _ hd H.out.2.2.2.2 HI.out.own.lex (by rw [HP.out.2]; exact hru)).mono ?_
        intro e w7 h7
        rw [HP.out.2] at h7
        cases r with
        | unk => exact absurd rfl hru
        | err =>
          obtain ⟨m, ms7, d7, ts7, rfl, k1, k2⟩ := h7
          refine ⟨rfl, ?_⟩
          show PRes _ _ _ _ _ _ _ _ _ _
          rw [HP.out.1]
          exact ⟨m, ms7, _, ts7, rfl, k1, HI.out.own.fr.trans k2⟩
        | ok q =>
          obtain ⟨x, ms7, rfl, ⟨xd, q1, q2⟩, k2, k3⟩ := h7
          obtain ⟨ao, sl, sc, rfl⟩ := q1.shape
          have hO := HI.out.own.go k2 k3
          have hlt := HI.out.own.lt
          have hge := HI.out.own.ge
          have g4 := hO.box.cell 4
          have f1 : ∀ o, w7.frozen? ⟨w4.heap.size, o, none⟩ = false := hO.box.free
          obtain ⟨w8, hw8⟩ : ∃ w8, w8 = w7.setCell ⟨w4.heap.size, 4, none⟩ (.slice ao sl sc) := ⟨_, rfl⟩
          have hO8 := hO.put 4 (.slice ao sl sc)
          simp only [List.setIfInBounds_toArray, List.set_cons_succ, List.set_cons_zero] at hO8
          have hnew : ∀ b cs t, Fm w7 wc.heap.size b cs t → Fm w8 (w4.heap.size + 1) b cs t := fun b cs t k => by rw [hw8]; exact From.far b cs t (Fm.up (by omega) b cs t k) (by omega)
          rw [← hw8] at hO8
          have hD8 : DLAt (Fm w8 (w4.heap.size + 1)) q.1 (.slice ao sl sc) := ⟨xd, q1.mono hnew, DsAt.mono hnew _ _ q2⟩
          have H8 := Lib.hid (And.intro hO8 hD8)
          clear k2 k3 hO q1 q2 hru hnew hO8 hD8
          have hpu := HP.out.1
          simp only [Res.bind] at hpu
          obtain ⟨r2, hr2⟩ : ∃ r2, pSet f d q.2 = r2 := ⟨_, rfl⟩
          rw [hr2] at hpu
          have hru : r2 ≠ .unk := fun e => by rw [hpu, e] at H; exact H.out.2.2.2.1 rfl
          have HP := Lib.hid (And.intro hpu hr2)
          clear hpu hr2
          go_wp2_with fail
          rw [← hw8]
          clear hw8 g4 f1
          refine (ih d q.2 ms7 _ hd H.out.2.2.2.2 H8.out.1.lex (by rw [HP.out.2]; exact hru)).mono ?_
          intro e w9 h9
          rw [HP.out.2] at h9
          cases r2 with
          | unk => exact absurd rfl hru
          | err =>
            obtain ⟨m, ms9, d9, ts9, rfl, k1, k2⟩ := h9
            refine ⟨rfl, ?_⟩
            show PRes _ _ _ _ _ _ _ _ _ _
            rw [HP.out.1]
            exact ⟨m, ms9, _, ts9, rfl, k1, H8.out.1.fr.trans k2⟩
          | ok p =>
            obtain ⟨y, ms9, rfl, ⟨ys, q1, q2⟩, k2, k3⟩ := h9
            obtain ⟨ao2, sl2, sc2, rfl⟩ := q1.shape
            have hO := H8.out.1.go k2 k3
            have hlt8 := H8.out.1.lt
            have g3 := hO.box.cell 3
            have f1 : ∀ o, w9.frozen? ⟨w4.heap.size, o, none⟩ = false := hO.box.free
            have H9 := Lib.hid (And.intro hO (And.intro q1 (And.intro q2 k3)))
            clear k2 k3 hO q1 q2 hru
            go_wp2_with fail
            go_ret
            rw [HP.out.1]
            obtain ⟨hO, q1, q2, k3⟩ := H9.out
            have hO10 := hO.put 3 (.slice ao2 sl2 sc2)
            simp only [List.setIfInBounds_toArray, List.set_cons_succ, List.set_cons_zero] at hO10
            have hnew : ∀ b cs t, Fm w9 w8.heap.size b cs t → Fm (w9.setCell ⟨w4.heap.size, 3, none⟩ (.slice ao2 sl2 sc2)) w.heap.size b cs t := fun b cs t k => Fm.up (by omega) b cs t (From.far (base := w4.heap.size + 1) b cs t (Fm.up (by omega) b cs t k) (by omega))
            have hold : ∀ b cs t, Fm w8 (w4.heap.size + 1) b cs t → Fm (w9.setCell ⟨w4.heap.size, 3, none⟩ (.slice ao2 sl2 sc2)) w.heap.size b cs t := fun b cs t k => Fm.up (by omega) b cs t (From.far b cs t (Fm.lex H8.out.1.lex k3 _ b cs t k) (by omega))
            obtain ⟨xd, a1, a2⟩ := H8.out.2
            exact ⟨_, ms9, rfl, ⟨w4.heap.size, l1, c1, .slice ao2 sl2 sc2, ys, .slice ao sl sc, xd, l0, c0, rfl, ⟨hO10.box, by decide, hge, by simp⟩, a1.mono hold, DsAt.mono hold _ _ a2, q1.mono hnew, SelsAt.mono hnew _ _ q2⟩, hO10.lex, hO10.fr⟩
    · have hpu := HC.out.2
      rw [want, if_neg hb] at hpu
      have HC := Lib.hid (And.intro hb hpu)
      clear hb hpu
      refine (lex_tok_err ad g L ms3 _ ts.tail.tail 46 _ H3.out.lex HC.out.1).mono ?_
      rintro e w4 ⟨m, ms4, d4, ts4, rfl, k1, k2⟩
      refine ⟨rfl, ?_⟩
      show PRes _ _ _ _ _ _ _ _ _ _
      rw [HC.out.2]
      exact ⟨m, ms4, _, ts4, rfl, k1, H3.out.fr.trans k2⟩
  · have hpu := H.out.2.2.1
    rw [want, if_neg ha] at hpu
    have HC := Lib.hid (And.intro ha hpu)
    clear ha hpu
    refine (lex_tok_err ad g L ms2 _ ts.tail 46 _ H2.out.lex HC.out.1).mono ?_
    rintro e w4 ⟨m, ms4, d4, ts4, rfl, k1, k2⟩
    refine ⟨rfl, ?_⟩
    show PRes _ _ _ _ _ _ _ _ _ _
    rw [HC.out.2]
    exact ⟨m, ms4, _, ts4, rfl, k1, H2.out.fr.trans k2⟩

end Go.Proofs.YtobiaaabikfglaaGreatDoor
