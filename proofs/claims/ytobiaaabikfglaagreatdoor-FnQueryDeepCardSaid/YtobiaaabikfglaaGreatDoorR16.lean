/-
  The parser of variables' definitions by a contract. No conditions but lengths.
-/
import Derived.Test.YtobiaaabikfglaaGreatDoorR15
namespace Go.Proofs.YtobiaaabikfglaaGreatDoor
open Go.RowKit Go.Proofs.YtobiaaabikfglaaGreatDoor.Pq Go.Lib

theorem Own.calm {ad : Addr} {g w : World} {L : Nat} {ms : List Nat} {d : Int} {wx w2 : World} {ms' : List Nat} {ts : List Tok} {B : Nat} {cs : Array Value} {t : TypeId} (h : Own ad g w L ms d wx ms' ts B cs t) (hf : Fr [] wx [] w2) : Own ad g w L ms d w2 ms' ts B cs t :=
  h.go (h.lex.quiet hf) (hf.wide (by simp))

def DfAt (B : Bk) (dv : Option Val) (z : Value) : Prop := match dv with | none => z = .nilIface | some v => VAt B v z
theorem DfAt.mono {B B' : Bk} (h : ∀ b cs t, B b cs t → B' b cs t) (dv : Option Val) (z : Value) (k : DfAt B dv z) : DfAt B' dv z := by
  cases dv with
  | none => exact k
  | some v => exact VAt.mono h v z k

/-- all blocks but one -/
def But (B : Bk) (b : Nat) : Bk := fun b' cs t => B b' cs t ∧ b' ≠ b
theorem But.mono {B B' : Bk} (h : ∀ b cs t, B b cs t → B' b cs t) (b : Nat) : ∀ b' cs t, But B b b' cs t → But B' b b' cs t := fun _ _ _ k => ⟨h _ _ _ k.1, k.2⟩
theorem But.all (B : Bk) (b : Nat) : ∀ b' cs t, But B b b' cs t → B b' cs t := fun _ _ _ k => k.1

def InpCs (i : Inp) (l1 c1 : Int) (y z sd : Value) (l2 c2 l3 c3 : Int) : Array Value := #[str i.name, numV l1, numV c1, y, z, str [], sd, numV l2, numV c2, numV l3, numV c3]
def InpIn (B : Bk) (i : Inp) (y z sd : Value) (xd : List Value) : Prop := TyAt B i.ty y ∧ DfAt B i.dflt z ∧ SlAt B 110 sd xd ∧ DsAt B i.dirs xd
theorem InpIn.mono {B B' : Bk} (h : ∀ b cs t, B b cs t → B' b cs t) {i : Inp} {y z sd : Value} {xd : List Value} (k : InpIn B i y z sd xd) : InpIn B' i y z sd xd :=
  ⟨TyAt.mono h _ _ k.1, DfAt.mono h _ _ k.2.1, k.2.2.1.mono h, DsAt.mono h _ _ k.2.2.2⟩

/-- a new variable's definition: its parts do not reach it -/
def InpNew (B : Bk) (i : Inp) (x : Value) : Prop := ∃ b l1 c1 y z sd xd l2 c2 l3 c3, x = ptrV b ∧ B b (InpCs i l1 c1 y z sd l2 c2 l3 c3) 102 ∧ InpIn (But B b) i y z sd xd

theorem InpIn.at_ {B : Bk} {i : Inp} {b : Nat} {l1 c1 : Int} {y z sd : Value} {xd : List Value} {l2 c2 l3 c3 : Int} (h : InpIn B i y z sd xd) (hb : B b (InpCs i l1 c1 y z sd l2 c2 l3 c3) 102) : InpAt B i (ptrV b) :=
  ⟨b, l1, c1, y, z, sd, xd, l2, c2, l3, c3, rfl, hb, h.1, h.2.1, h.2.2.1, h.2.2.2⟩

structure InpSt (ad : Addr) (g w : World) (L : Nat) (ms : List Nat) (d f : Nat) (r : Res (Inp × List Tok)) (nm : Bs) (l1 c1 l2 c2 l3 c3 : Int) (ty : Ty) (y : Value) (wx : World) (ms' : List Nat) (ts' : List Tok) (dv : Option Val) (z : Value) : Prop where
  own : Own ad g w L ms d wx ms' ts' w.heap.size #[str nm, numV l1, numV c1, y, z, str [], .slice none 0 0, numV l2, numV c2, numV l3, numV c3] 102
  ty_ : TyAt (Fm wx (w.heap.size + 1)) ty y
  dv_ : DfAt (Fm wx (w.heap.size + 1)) dv z
  pure : r = (pDirs f d ts' []).bind fun q => .ok (⟨nm, ty, dv, q.1⟩, q.2)

set_option maxRecDepth 100000 in
set_option maxHeartbeats 8000000 in
theorem inp_any (ad : Addr) (g : World) (L : Nat) (f : Nat) (d : Nat) (ts : List Tok) (ms : List Nat) (w : World) (hd : d ≤ 1000) (hf : f ≤ FMax) (h : LexAt ad g w L ms d ts) (hu : pInp f d ts ≠ .unk) :
    Calls Tryz.prog 57 #[.pointer (some ⟨L, 0, none⟩)] w (PRes InpNew (pInp f d ts) ad g L ms d w) := by
  have he : pInp f d ts = (if (cur ts).kind = -6 then .unk else ident ts).bind fun n => (want 58 n.2).bind fun t1 => (pTy f d t1).bind fun t =>
    (if (cur t.2).kind = 61 then (pVal f true d t.2.tail).bind fun p => .ok (some p.1, p.2) else .ok (none, t.2)).bind fun v =>
      (pDirs f d v.2 []).bind fun q => .ok (⟨n.1, t.1, v.1, q.1⟩, q.2) := rfl
  obtain ⟨r0, hr0⟩ : ∃ r0, pInp f d ts = r0 := ⟨_, rfl⟩
  rw [hr0] at he hu ⊢
  clear hr0
  have hk6 : (cur ts).kind ≠ -6 := by
    intro e
    rw [if_pos e] at he
    exact hu he
  rw [if_neg hk6] at he
  have H := Lib.hid (And.intro h (And.intro hk6 (And.intro he (And.intro hu hf))))
  clear h hk6 he hu hf
  go_enter Tryz.func57, Tryz.ntmps57
  go_wp2_with fail
  have hO := H.out.1.own (Fr.refl _ _) H.out.1.base #[str [], numV 0, numV 0, .nilIface, .nilIface, str [], .slice none 0 0, numV 0, numV 0, numV 0, numV 0] 102 (by decide)
  refine (lex_loc ad g L ms d ts _ hO.lex).mono ?_
  rintro e w1 ⟨⟨l2, c2, rfl⟩, hf⟩
  have hO1 := hO.calm hf
  have g7 := hO1.box.cell 7
  have g8 := hO1.box.cell 8
  have f1 : ∀ o, w1.frozen? ⟨w.heap.size, o, none⟩ = false := hO1.box.free
  obtain ⟨w2, hw2⟩ : ∃ w2, w2 = (w1.setCell ⟨w.heap.size, 7, none⟩ (.int .i64 l2)).setCell ⟨w.heap.size, 8, none⟩ (.int .i64 c2) := ⟨_, rfl⟩
  have hO2 := (hO1.put 7 (numV l2)).put 8 (numV c2)
  rw [← hw2] at hO2
  simp only [List.setIfInBounds_toArray, List.set_cons_succ, List.set_cons_zero] at hO2
  have H2 := Lib.hid hO2
  clear hO hO1 hO2 hf
  go_wp2_with fail
  rw [← hw2]
  clear hw2 g7 g8 f1
  refine (lex_comment ad g L ms d ts _ H2.out.lex H.out.2.1).mono ?_
  rintro e w3 ⟨rfl, k1, k2⟩
  have hO3 := H2.out.go k1 k2
  have g5 := hO3.box.cell 5
  have f1 : ∀ o, w3.frozen? ⟨w.heap.size, o, none⟩ = false := hO3.box.free
  obtain ⟨w4, hw4⟩ : ∃ w4, w4 = w3.setCell ⟨w.heap.size, 5, none⟩ (str []) := ⟨_, rfl⟩
  have hO4 := hO3.put 5 (str [])
  rw [← hw4] at hO4
  simp only [List.setIfInBounds_toArray, List.set_cons_succ, List.set_cons_zero] at hO4
  have H4 := Lib.hid hO4
  clear hO3 hO4 k1 k2 H2
  go_wp2_with fail
  rw [← hw4]
  clear hw4 g5 f1
  by_cases hi : (cur ts).kind = -2
  · have hid : ident ts = .ok ((cur ts).text, ts.tail) := if_pos hi
    have hpu := H.out.2.2.1
    rw [hid] at hpu
    simp only [Res.bind] at hpu
    have HC := Lib.hid (And.intro hi hpu)
    clear hi hpu hid
    refine (lex_name ad g L ms d ts _ H4.out.lex HC.out.1).mono ?_
    rintro e w5 ⟨⟨l1, c1, rfl⟩, ms5, k1, k2⟩
    have hO5 := H4.out.go k1 k2
    have g0 := hO5.box.cell 0
    have g1 := hO5.box.cell 1
    have g2 := hO5.box.cell 2
    have f1 : ∀ o, w5.frozen? ⟨w.heap.size, o, none⟩ = false := hO5.box.free
    obtain ⟨w6, hw6⟩ : ∃ w6, w6 = ((w5.setCell ⟨w.heap.size, 0, none⟩ (.string ⟨(cur ts).text.toArray⟩)).setCell ⟨w.heap.size, 1, none⟩ (.int .i64 l1)).setCell ⟨w.heap.size, 2, none⟩ (.int .i64 c1) := ⟨_, rfl⟩
    have hO6 := ((hO5.put 0 (str (cur ts).text)).put 1 (numV l1)).put 2 (numV c1)
    rw [← hw6] at hO6
    simp only [List.setIfInBounds_toArray, List.set_cons_succ, List.set_cons_zero] at hO6
    have H6 := Lib.hid hO6
    clear hO5 hO6 k1 k2 H4
    go_wp2_with fail
    rw [← hw6]
    clear hw6 g0 g1 g2 f1
    by_cases hc : (cur ts.tail).kind = 58
    · have hpu := HC.out.2
      rw [want, if_pos hc] at hpu
      simp only at hpu
      have HC := Lib.hid (And.intro hc hpu)
      clear hc hpu
      refine (lex_tok ad g L ms5 d ts.tail 58 _ H6.out.lex HC.out.1).mono ?_
      rintro e w7 ⟨rfl, ms7, k1, k2⟩
      have H7 := Lib.hid (H6.out.go k1 k2)
      clear k1 k2 H6
      go_wp2_with fail
      refine (lex_loc ad g L ms7 d ts.tail.tail _ H7.out.lex).mono ?_
      rintro e w8 ⟨⟨l3, c3, rfl⟩, hf⟩
      have hO8 := H7.out.calm hf
      have g9 := hO8.box.cell 9
      have g10 := hO8.box.cell 10
      have f1 : ∀ o, w8.frozen? ⟨w.heap.size, o, none⟩ = false := hO8.box.free
      obtain ⟨w9, hw9⟩ : ∃ w9, w9 = (w8.setCell ⟨w.heap.size, 9, none⟩ (.int .i64 l3)).setCell ⟨w.heap.size, 10, none⟩ (.int .i64 c3) := ⟨_, rfl⟩
      have hO9 := (hO8.put 9 (numV l3)).put 10 (numV c3)
      rw [← hw9] at hO9
      simp only [List.setIfInBounds_toArray, List.set_cons_succ, List.set_cons_zero] at hO9
      have H9 := Lib.hid hO9
      clear hO8 hO9 hf H7
      go_wp2_with fail
      rw [← hw9]
      clear hw9 g9 g10 f1
      obtain ⟨r, hr⟩ : ∃ r, pTy f d ts.tail.tail = r := ⟨_, rfl⟩
      have hpu := HC.out.2
      rw [hr] at hpu
      have hru : r ≠ .unk := fun e => by rw [hpu, e] at H; exact H.out.2.2.2.1 rfl
      have HP := Lib.hid hpu
      clear hpu
      refine ((ty_all ad g L f).1 d ts.tail.tail ms7 _ hd H9.out.lex (by rw [hr]; exact hru)).mono ?_
      intro e w10 h10
      rw [hr] at h10
      clear hr
      cases r with
      | unk => exact absurd rfl hru
      | err =>
        obtain ⟨m, ms10, d10, ts10, rfl, k1, k2⟩ := h10
        refine ⟨rfl, ?_⟩
        show PRes _ _ _ _ _ _ _ _ _ _
        rw [HP.out]
        exact ⟨m, ms10, _, ts10, rfl, k1, H9.out.fr.trans k2⟩
      | ok t =>
      obtain ⟨y, ms10, rfl, q1, k2, k3⟩ := h10
      obtain ⟨T, b, rfl⟩ := q1.shape
      have hO10 := H9.out.go k2 k3
      have hlt := H9.out.lt
      have g3 := hO10.box.cell 3
      have f1 : ∀ o, w10.frozen? ⟨w.heap.size, o, none⟩ = false := hO10.box.free
      obtain ⟨w11, hw11⟩ : ∃ w11, w11 = w10.setCell ⟨w.heap.size, 3, none⟩ (.iface T (ptrV b)) := ⟨_, rfl⟩
      have hO11 := hO10.put 3 (.iface T (ptrV b))
      rw [← hw11] at hO11
      simp only [List.setIfInBounds_toArray, List.set_cons_succ, List.set_cons_zero] at hO11
      have hT : TyAt (Fm w11 (w.heap.size + 1)) t.1 (.iface T (ptrV b)) := TyAt.mono (fun b cs t k => by rw [hw11]; exact From.far b cs t (Fm.up (by omega) b cs t k) (by omega)) _ _ q1
      have H11 := Lib.hid (And.intro hO11 hT)
      clear hO10 hO11 hT k2 k3 q1 hru H9
      go_wp2_with fail
      rw [← hw11]
      clear hw11 g3 f1
      refine (lex_peek ad g L ms10 d t.2 _ H11.out.1.lex).mono ?_
      rintro e w' ⟨rfl, rfl⟩
      go_upto_if 35 with (fail)
      go_cut [] (fun wx => ∃ ms' ts' dv z, InpSt ad g w L ms d f r0 (cur ts).text l1 c1 l2 c2 l3 c3 t.1 (.iface T (ptrV b)) wx ms' ts' dv z)
      case first =>
        by_cases hc : (cur t.2).kind = 61
        · have d1 : ((cur t.2).kind == 61) = true := by rw [hc]; rfl
          have hpu := HP.out
          try simp only [Res.bind] at hpu
          rw [if_pos hc] at hpu
          have HC := Lib.hid (And.intro hc hpu)
          clear hc hpu
          go_wp2_with fail
          refine (lex_tok ad g L ms10 d t.2 61 _ H11.out.1.lex HC.out.1).mono ?_
          rintro e w12 ⟨rfl, ms12, k1, k2⟩
          have hT : TyAt (Fm w12 (w.heap.size + 1)) t.1 (.iface T (ptrV b)) := TyAt.mono (Fm.lex H11.out.1.lex k2 _) _ _ H11.out.2
          have H12 := Lib.hid (And.intro (H11.out.1.go k1 k2) hT)
          clear k1 k2 hT
          go_wp2_with fail
          obtain ⟨r, hr⟩ : ∃ r, pVal f true d t.2.tail = r := ⟨_, rfl⟩
          have hpu := HC.out.2
          rw [hr] at hpu
          have hru : r ≠ .unk := fun e => by rw [hpu, e] at H; exact H.out.2.2.2.1 rfl
          have HP := Lib.hid hpu
          clear hpu
          refine (vgoal ad g L f true d t.2.tail ms12 _ hd H.out.2.2.2.2 H12.out.1.lex (by rw [hr]; exact hru)).mono ?_
          intro e w13 h13
          rw [hr] at h13
          clear hr
          cases r with
          | unk => exact absurd rfl hru
          | err =>
            obtain ⟨m, ms13, d13, ts13, rfl, k1, k2⟩ := h13
            refine ⟨rfl, ?_⟩
            show PRes _ _ _ _ _ _ _ _ _ _
            rw [HP.out]
            exact ⟨m, ms13, _, ts13, rfl, k1, H12.out.1.fr.trans k2⟩
          | ok p =>
            obtain ⟨z, ms13, rfl, q1, k2, k3⟩ := h13
            obtain ⟨T2, b2, rfl⟩ := q1.shape
            have hO := H12.out.1.go k2 k3
            have hlt := H12.out.1.lt
            have g4 := hO.box.cell 4
            have f1 : ∀ o, w13.frozen? ⟨w.heap.size, o, none⟩ = false := hO.box.free
            have H13 := Lib.hid (And.intro hO (And.intro q1 k3))
            clear hO q1 k2 k3 hru
            go_wp2_with fail
            go_meet
            obtain ⟨hO, q1, k3⟩ := H13.out
            have hO := hO.put 4 (.iface T2 (ptrV b2))
            simp only [List.setIfInBounds_toArray, List.set_cons_succ, List.set_cons_zero] at hO
            refine ⟨ms13, p.2, some p.1, .iface T2 (ptrV b2), hO, ?_, ?_, by have := HP.out; simpa only [Res.bind] using this⟩
            · exact TyAt.mono (fun b cs t k => From.far b cs t (Fm.lex H12.out.1.lex k3 _ b cs t k) (by omega)) _ _ H12.out.2
            · exact VAt.mono (fun b cs t k => From.far b cs t (Fm.up (by omega) b cs t k) (by omega)) _ _ q1
        · have d1 : ((cur t.2).kind == 61) = false := by simpa using hc
          have hpu := HP.out
          try simp only [Res.bind] at hpu
          rw [if_neg hc] at hpu
          have HC := Lib.hid hpu
          clear hc hpu
          go_wp2_with fail
          go_meet
          exact ⟨ms10, t.2, none, .nilIface, H11.out.1, H11.out.2, rfl, HC.out⟩
      case rest =>
        clear H11
        obtain ⟨ms3, ts2, dv, z, hA⟩ := hcut
        have HA := Lib.hid hA
        clear hA
        obtain ⟨r, hr⟩ : ∃ r, pDirs f d ts2 [] = r := ⟨_, rfl⟩
        have hpu := HA.out.pure
        rw [hr] at hpu
        have hru : r ≠ .unk := fun e => by rw [hpu, e] at H; exact H.out.2.2.2.1 rfl
        have HP := Lib.hid hpu
        clear hpu
        go_wp2_with fail
        refine (dgoal ad g L f d ts2 ms3 _ hd H.out.2.2.2.2 HA.out.own.lex (by rw [hr]; exact hru)).mono ?_
        intro e w3 h3
        rw [hr] at h3
        clear hr
        cases r with
        | unk => exact absurd rfl hru
        | err =>
          obtain ⟨m, ms4, d3, ts3, rfl, k1, k2⟩ := h3
          refine ⟨rfl, ?_⟩
          show PRes _ _ _ _ _ _ _ _ _ _
          rw [HP.out]
          exact ⟨m, ms4, _, ts3, rfl, k1, HA.out.own.fr.trans k2⟩
        | ok q =>
          obtain ⟨x, ms4, rfl, ⟨xd, q1, q2⟩, k2, k3⟩ := h3
          obtain ⟨ao, sl, sc, rfl⟩ := q1.shape
          have hO := HA.out.own.go k2 k3
          have hlt := HA.out.own.lt
          have g6 := hO.box.cell 6
          have f1 : ∀ o, w3.frozen? ⟨w.heap.size, o, none⟩ = false := hO.box.free
          have H4 := Lib.hid (And.intro hO (And.intro q1 (And.intro q2 k3)))
          clear k2 k3 hO q1 q2 hru
          go_wp2_with fail
          go_ret
          rw [HP.out]
          obtain ⟨hO, q1, q2, k3⟩ := H4.out
          have hO := hO.put 6 (.slice ao sl sc)
          simp only [List.setIfInBounds_toArray, List.set_cons_succ, List.set_cons_zero] at hO
          have hnew : ∀ b cs t, Fm w3 wc.heap.size b cs t → But (Fm (w3.setCell ⟨w.heap.size, 6, none⟩ (.slice ao sl sc)) w.heap.size) w.heap.size b cs t := fun b cs t k => ⟨Fm.up (Nat.le_succ _) b cs t (From.far b cs t (Fm.up (base := w.heap.size + 1) (by omega) b cs t k) (by omega)), by have := k.2.2.1; omega⟩
          have hold : ∀ b cs t, Fm wc (w.heap.size + 1) b cs t → But (Fm (w3.setCell ⟨w.heap.size, 6, none⟩ (.slice ao sl sc)) w.heap.size) w.heap.size b cs t := fun b cs t k => ⟨Fm.up (Nat.le_succ _) b cs t (From.far b cs t (Fm.lex HA.out.own.lex k3 _ b cs t k) (by omega)), by have := k.2.2.1; omega⟩
          exact ⟨_, ms4, rfl, ⟨w.heap.size, l1, c1, .iface T (ptrV b), z, .slice ao sl sc, xd, l2, c2, l3, c3, rfl, ⟨hO.box, by decide, Nat.le_refl _, by simp⟩, TyAt.mono hold _ _ HA.out.ty_, DfAt.mono hold _ _ HA.out.dv_, q1.mono hnew, DsAt.mono hnew _ _ q2⟩, hO.lex, hO.fr⟩
    · have hpu := HC.out.2
      rw [want, if_neg hc] at hpu
      have HC := Lib.hid (And.intro hc hpu)
      clear hc hpu
      refine (lex_tok_err ad g L ms5 d ts.tail 58 _ H6.out.lex HC.out.1).mono ?_
      rintro e w7 ⟨m, ms7, d7, ts7, rfl, k1, k2⟩
      refine ⟨rfl, ?_⟩
      show PRes _ _ _ _ _ _ _ _ _ _
      rw [HC.out.2]
      exact ⟨m, ms7, _, ts7, rfl, k1, H6.out.fr.trans k2⟩
  · have hid : ident ts = .err := if_neg hi
    have hpu := H.out.2.2.1
    rw [hid] at hpu
    have HC := Lib.hid (And.intro hi hpu)
    clear hi hpu hid
    refine (lex_name_err ad g L ms d ts _ H4.out.lex HC.out.1).mono ?_
    rintro e w7 ⟨m, ms7, d7, ts7, rfl, k1, k2⟩
    refine ⟨rfl, ?_⟩
    show PRes _ _ _ _ _ _ _ _ _ _
    rw [HC.out.2]
    exact ⟨m, ms7, _, ts7, rfl, k1, H4.out.fr.trans k2⟩

end Go.Proofs.YtobiaaabikfglaaGreatDoor

/-
  The parser of operations by a contract. No conditions but lengths.
-/
namespace Go.Proofs.YtobiaaabikfglaaGreatDoor
open Go.RowKit Go.Proofs.YtobiaaabikfglaaGreatDoor.Pq Go.Lib

def VLAt (B : Bk) (is : List Inp) (x : Value) : Prop := ∃ xs, SlAt B 96 x xs ∧ InpsAt B is xs
def SnAt (B : Bk) (ss : List Sel) (x : Value) : Prop := SLAt B ss x
theorem VLAt.mono {B B' : Bk} (h : ∀ b cs t, B b cs t → B' b cs t) {is : List Inp} {x : Value} (k : VLAt B is x) : VLAt B' is x := by
  obtain ⟨xs, a, b⟩ := k; exact ⟨xs, a.mono h, InpsAt.mono h _ _ b⟩
theorem DLAt.mono {B B' : Bk} (h : ∀ b cs t, B b cs t → B' b cs t) {is : List Dir} {x : Value} (k : DLAt B is x) : DLAt B' is x := by
  obtain ⟨xs, a, b⟩ := k; exact ⟨xs, a.mono h, DsAt.mono h _ _ b⟩
theorem SLAt.mono {B B' : Bk} (h : ∀ b cs t, B b cs t → B' b cs t) {is : List Sel} {x : Value} (k : SLAt B is x) : SLAt B' is x := by
  obtain ⟨xs, a, b⟩ := k; exact ⟨xs, a.mono h, SelsAt.mono h _ _ b⟩

theorem InpsAt.snoc {B : Bk} {d : Inp} {y : Value} (hv : InpAt B d y) : ∀ (vs : List Inp) (xs : List Value), InpsAt B vs xs → InpsAt B (vs ++ [d]) (xs ++ [y])
  | [], xs => fun h => by
    have h : xs = [] := h
    subst h
    exact ⟨y, [], rfl, hv, rfl⟩
  | u :: us, xs => fun ⟨z, zs, h1, h2, h3⟩ => ⟨z, zs ++ [y], by rw [h1]; rfl, h2, InpsAt.snoc hv us zs h3⟩

def OpCs (o : Pq.Op) (l1 c1 : Int) (sv sl sd : Value) (l2 c2 : Int) : Array Value := #[str (opType o.kind), str o.name, numV l1, numV c1, str [], sv, sl, sd, numV l2, numV c2]
/-- a new operation: its parts do not reach it -/
def OpNew (B : Bk) (o : Pq.Op) (x : Value) : Prop := ∃ b l1 c1 sv sl sd l2 c2, x = ptrV b ∧ B b (OpCs o l1 c1 sv sl sd l2 c2) 57 ∧ VLAt (But B b) o.vars sv ∧ SLAt (But B b) o.sels sl ∧ DLAt (But B b) o.dirs sd

theorem Own.row {ad : Addr} {g w : World} {L : Nat} {ms : List Nat} {d : Int} {W w6 : World} {ms' : List Nat} {ts : List Tok} {B : Nat} {cs : Array Value} {t t2 : TypeId} {base : Nat} {v : Value} {n : Nat} {xs : List Value}
    (h : Own ad g w L ms d W ms' ts B cs t) (hr : Grows W base t2 v n xs) (hb : w.heap.size ≤ base) (ht2 : AstT t2) (hne : t ≠ t2) (hg : W.grownBy w6 v.ownBlock) : Own ad g w L ms d w6 ms' ts B cs t :=
  ⟨h.lex.row hr ht2 (Nat.le_trans h.base hb) hg, h.box.grown hg (h.box.off hr hne), h.fr.grownOut hg (fun k hk => Nat.le_trans hb (hr.row_lt k hk).2.1), h.ge, Nat.lt_of_lt_of_le h.lt hg.size, h.base, h.ast⟩

theorem Own.rowput {ad : Addr} {g w : World} {L : Nat} {ms : List Nat} {d : Int} {W : World} {ms' : List Nat} {ts : List Tok} {B : Nat} {cs : Array Value} {t t2 : TypeId} {base : Nat} {v : Value} {n : Nat} {xs : List Value}
    (h : Own ad g w L ms d W ms' ts B cs t) (hr : Grows W base t2 v n xs) (ht2 : AstT t2) (hne : t ≠ t2) (i : Nat) (x : Value) : Grows (W.setCell ⟨B, i, none⟩ x) base t2 v n xs :=
  hr.keep ht2 (fun b cs k => k.far (fun e => by simp at e; subst e; exact hne (h.box.eq k).2) x) (by simp [World.setCell])

theorem From.far2 {w : World} {base D i : Nat} {x : Option Nat} {v : Value} : ∀ b cs t, From w base x b cs t → D < base → From (w.setCell ⟨D, i, none⟩ v) base x b cs t :=
  fun b _ _ k h => ⟨k.1.far (by have := k.2.2.1; exact fun e => by simp at e; omega) v, k.2⟩

structure OpN (ad : Addr) (g w : World) (L : Nat) (ms : List Nat) (f kind : Nat) (r : Res (Pq.Op × List Tok)) (wx : World) (ms' : List Nat) (ts1 : List Tok) (nm : Bs) (l1 c1 : Int) : Prop where
  own : Own ad g w L ms ((0 : Nat) : Int) wx ms' ts1 w.heap.size #[str (opType kind), str nm, numV l1, numV c1, str [], .slice none 0 0, .slice none 0 0, .slice none 0 0, numV 0, numV 0] 57
  pure : r = (if (cur ts1).kind = 40 then pInps f 0 ts1.tail [] else .ok ([], ts1)).bind fun v => (pDirs f 0 v.2 []).bind fun q => (pSet f 0 q.2).bind fun p => .ok (⟨kind, nm, v.1, q.1, p.1⟩, p.2)

structure OpV (ad : Addr) (g w : World) (L : Nat) (ms : List Nat) (f kind : Nat) (r : Res (Pq.Op × List Tok)) (wx : World) (ms' : List Nat) (ts2 : List Tok) (nm : Bs) (l1 c1 : Int) (sv : Value) (is : List Inp) : Prop where
  own : Own ad g w L ms ((0 : Nat) : Int) wx ms' ts2 w.heap.size #[str (opType kind), str nm, numV l1, numV c1, str [], sv, .slice none 0 0, .slice none 0 0, numV 0, numV 0] 57
  at_ : VLAt (Fm wx (w.heap.size + 1)) is sv
  pure : r = (pDirs f 0 ts2 []).bind fun q => (pSet f 0 q.2).bind fun p => .ok (⟨kind, nm, is, q.1, p.1⟩, p.2)

structure OpvRel (ad : Addr) (g w : World) (L : Nat) (ms : List Nat) (f kind : Nat) (r : Res (Pq.Op × List Tok)) (nm : Bs) (l1 c1 : Int) (k : Nat) (wr : World) (ts : List Tok) (acc : List Inp) (xs : List Value) (v : Value) (ms2 : List Nat) : Prop where
  pure : r = (pInps k 0 ts acc).bind fun v => (pDirs f 0 v.2 []).bind fun q => (pSet f 0 q.2).bind fun p => .ok (⟨kind, nm, v.1, q.1, p.1⟩, p.2)
  own : Own ad g w L ms ((0 : Nat) : Int) wr ms2 ts w.heap.size #[str (opType kind), str nm, numV l1, numV c1, str [], v, .slice none 0 0, .slice none 0 0, numV 0, numV 0] 57
  row : Grows wr (w.heap.size + 1) 96 v acc.length xs
  el : InpsAt (From wr (w.heap.size + 1) v.ownBlock) acc xs
  le : acc.length + k ≤ f

set_option maxRecDepth 100000 in
set_option maxHeartbeats 8000000 in
theorem op_any (ad : Addr) (g : World) (L : Nat) (f kind : Nat) (ts : List Tok) (ms : List Nat) (w : World) (hf : f ≤ FMax) (h : LexAt ad g w L ms ((0 : Nat) : Int) ts) (hu : pOp f kind ts ≠ .unk) :
    Calls Tryz.prog 41 #[.pointer (some ⟨L, 0, none⟩), str (opType kind)] w (PRes OpNew (pOp f kind ts) ad g L ms 0 w) := by
  obtain ⟨i0, hi, hz0, hz1, hz2⟩ := info_parts (by kernel_rfl : (Tryz.prog.info? 96).map (fun i => (i.zero, i.size, i.bytes)) = some (some (.pointer none), 1, 8))
  have he : pOp f kind ts = (if (cur ts).kind = -2 then Res.ok ((cur ts).text, ts.tail) else Res.ok ([], ts)).bind fun n =>
    (if (cur n.2).kind = 40 then pInps f 0 n.2.tail [] else Res.ok ([], n.2)).bind fun v =>
      (pDirs f 0 v.2 []).bind fun q => (pSet f 0 q.2).bind fun p => .ok (⟨kind, n.1, v.1, q.1, p.1⟩, p.2) := rfl
  obtain ⟨r0, hr0⟩ : ∃ r0, pOp f kind ts = r0 := ⟨_, rfl⟩
  rw [hr0] at he hu ⊢
  clear hr0
  have H := Lib.hid (And.intro h (And.intro he (And.intro hu hf)))
  clear h he hu hf
  go_enter Tryz.func41, Tryz.ntmps41
  go_wp2_with fail
  have hO := H.out.1.own (Fr.refl _ _) H.out.1.base #[str (opType kind), str [], numV 0, numV 0, str [], .slice none 0 0, .slice none 0 0, .slice none 0 0, numV 0, numV 0] 57 (by decide)
  refine (lex_loc ad g L ms _ ts _ hO.lex).mono ?_
  rintro e w1 ⟨⟨l2, c2, rfl⟩, hf⟩
  have hO1 := hO.calm hf
  have g2 := hO1.box.cell 2
  have g3 := hO1.box.cell 3
  have f1 : ∀ o, w1.frozen? ⟨w.heap.size, o, none⟩ = false := hO1.box.free
  obtain ⟨w2, hw2⟩ : ∃ w2, w2 = (w1.setCell ⟨w.heap.size, 2, none⟩ (.int .i64 l2)).setCell ⟨w.heap.size, 3, none⟩ (.int .i64 c2) := ⟨_, rfl⟩
  have hO2 := (hO1.put 2 (numV l2)).put 3 (numV c2)
  rw [← hw2] at hO2
  simp only [List.setIfInBounds_toArray, List.set_cons_succ, List.set_cons_zero] at hO2
  have H2 := Lib.hid hO2
  clear hO hO1 hO2 hf
  go_wp2_with fail
  rw [← hw2]
  clear hw2 g2 g3 f1
  refine (lex_peek ad g L ms _ ts _ H2.out.lex).mono ?_
  rintro e w' ⟨rfl, rfl⟩
  go_upto_if 20 with (fail)
  go_cut [] (fun wx => ∃ ms' ts1 nm l1 c1, OpN ad g w L ms f kind r0 wx ms' ts1 nm l1 c1)
  case first =>
    by_cases hi : (cur ts).kind = -2
    · have d1 : ((cur ts).kind == -2) = true := by rw [hi]; rfl
      have hpu := H.out.2.1
      rw [if_pos hi] at hpu
      have HC := Lib.hid (And.intro hi hpu)
      clear hi hpu
      go_wp2_with fail
      refine (lex_name ad g L ms _ ts _ H2.out.lex HC.out.1).mono ?_
      rintro e w5 ⟨⟨l1, c1, rfl⟩, ms5, k1, k2⟩
      have hO5 := H2.out.go k1 k2
      have g1 := hO5.box.cell 1
      have g2 := hO5.box.cell 2
      have g3 := hO5.box.cell 3
      have f1 : ∀ o, w5.frozen? ⟨w.heap.size, o, none⟩ = false := hO5.box.free
      have H5 := Lib.hid hO5
      clear k1 k2 hO5
      go_wp2_with fail
      go_meet
      have hO := ((H5.out.put 1 (str (cur ts).text)).put 2 (numV l1)).put 3 (numV c1)
      simp only [List.setIfInBounds_toArray, List.set_cons_succ, List.set_cons_zero] at hO
      exact ⟨ms5, ts.tail, (cur ts).text, l1, c1, hO, HC.out.2⟩
    · have d1 : ((cur ts).kind == -2) = false := by simpa using hi
      have hpu := H.out.2.1
      rw [if_neg hi] at hpu
      have HC := Lib.hid hpu
      clear hi hpu
      go_wp2_with fail
      go_meet
      exact ⟨ms, ts, [], l2, c2, H2.out, HC.out⟩
  case rest =>
    clear H2
    obtain ⟨ms1, ts1, nm, l1, c1, hN⟩ := hcut
    have HN := Lib.hid hN
    clear hN
    go_wp2_with fail
    refine (lex_peek ad g L ms1 _ ts1 _ HN.out.own.lex).mono ?_
    rintro e w' ⟨rfl, rfl⟩
    go_upto_if 28 with (fail)
    go_cut [] (fun wx => ∃ ms' ts2 sv is, OpV ad g w L ms f kind r0 wx ms' ts2 nm l1 c1 sv is)
    case first =>
      by_cases hc : (cur ts1).kind = 40
      · have d1 : ((cur ts1).kind == 40) = true := by rw [hc]; rfl
        have hpu := HN.out.pure
        rw [if_pos hc] at hpu
        have HC := Lib.hid (And.intro hc hpu)
        clear hc hpu
        go_wp2_with fail
        refine (lex_tok ad g L ms1 _ ts1 40 _ HN.out.own.lex HC.out.1).mono ?_
        rintro e w3 ⟨rfl, ms3, k1, k2⟩
        have H3 := Lib.hid (HN.out.own.go k1 k2)
        clear k1 k2
        go_wp2_with fail
        go_loopg [] f (fun k wr => ∃ ts' acc xs v ms', OpvRel ad g w L ms f kind r0 nm l1 c1 k wr ts' acc xs v ms')
        case atStart =>
          exact ⟨ts1.tail, [], [], .slice none 0 0, ms3, HC.out.2, H3.out, ⟨World.ownsRow_nil _ _ _ 1, H3.out.lt⟩, rfl, by simp⟩
        case round =>
          obtain ⟨ts', acc, xs, v, ms', hR⟩ := hrel
          have HR := Lib.hid hR
          clear hR H3 HC HN
          cases gk with
          | zero =>
            refine absurd ?_ H.out.2.2.1
            rw [HR.out.pure, pInps]; rfl
          | succ k =>
            have hstep : pInps (k + 1) 0 ts' acc = if (cur ts').kind = 41 then .ok (acc, ts'.tail) else if (cur ts').kind = -6 then .unk else (want 36 ts').bind fun t1 => (pInp k 0 t1).bind fun p => pInps k 0 p.2 (acc ++ [p.1]) := by rw [pInps]
            have hpure := HR.out.pure
            rw [hstep] at hpure
            have HS := Lib.hid hpure
            clear hstep hpure
            obtain ⟨ao, sl, sc, rfl⟩ := HR.out.row.shape
            go_wp2_with fail
            refine (lex_peek ad g L ms' _ ts' _ HR.out.own.lex).mono ?_
            rintro e w' ⟨rfl, rfl⟩
            by_cases hc : (cur ts').kind = 41
            · have d1 : ((cur ts').kind != 41) = false := by simpa using hc
              have hpu := HS.out
              rw [if_pos hc] at hpu
              have HC := Lib.hid (And.intro hc hpu)
              clear hc hpu HS
              go_wp2_with fail
              refine (lex_tok ad g L ms' _ ts' 41 _ HR.out.own.lex HC.out.1).mono ?_
              rintro e w5 ⟨rfl, ms5, k2, k3⟩
              have H5 := Lib.hid (And.intro k2 k3)
              clear k2 k3
              go_wp2_with fail
              go_meet
              have hrow := HR.out.row.lex (by decide) HR.out.own.lex H5.out.2
              exact ⟨ms5, ts'.tail, _, acc, HR.out.own.go H5.out.1 H5.out.2, ⟨xs, hrow.at_ (by decide), InpsAt.mono (fun b cs t k => by
                have k2 := HR.out.own.lex.keeps H5.out.2 _ _ _ _ _ k
                exact ⟨k2.1, k2.2.1, k2.2.2.1, by simp⟩) _ _ HR.out.el⟩, HC.out.2⟩
            · have d1 : ((cur ts').kind != 41) = true := by simpa using hc
              have hk6 : (cur ts').kind ≠ -6 := by
                intro e
                have := HS.out
                rw [if_neg hc, if_pos e] at this
                exact H.out.2.2.1 this
              have hpu := HS.out
              rw [if_neg hc, if_neg hk6] at hpu
              have HC := Lib.hid (And.intro hk6 hpu)
              clear hc hpu HS hk6
              go_wp2_with fail
              refine (lex_desc ad g L ms' _ ts' _ HR.out.own.lex HC.out.1).mono ?_
              rintro e w' ⟨rfl, rfl⟩
              go_wp2_with fail
              refine (lex_loc ad g L ms' _ ts' _ HR.out.own.lex).mono ?_
              rintro e w5 ⟨⟨l5, c5, rfl⟩, hf⟩
              have H5 := Lib.hid (And.intro (HR.out.own.calm hf) hf)
              clear hf
              go_wp2_with fail
              by_cases hc : (cur ts').kind = 36
              · have hpu := HC.out.2
                rw [want, if_pos hc] at hpu
                simp only [Res.bind] at hpu
                have HC := Lib.hid (And.intro hc hpu)
                clear hc hpu
                refine (lex_tok ad g L ms' _ ts' 36 _ (H5.out.1.lex.alloc _) HC.out.1).mono ?_
                rintro e w6 ⟨rfl, ms6, k1, k2⟩
                have hN := H5.out.1.lex.keep (Bl.new w5 _ _) k2
                have H6 := Lib.hid (And.intro ((H5.out.1.alloc _).go k1 k2) (And.intro hN (((H5.out.2.wide (by simp)).alloc _).trans k2)))
                clear k1 k2 hN
                go_wp2_with fail
                obtain ⟨r, hr⟩ : ∃ r, pInp k 0 ts'.tail = r := ⟨_, rfl⟩
                have hpu := HC.out.2
                rw [hr] at hpu
                have hru : r ≠ .unk := fun e => by rw [e] at hpu; exact H.out.2.2.1 hpu
                have HP := Lib.hid hpu
                clear hpu
                refine (inp_any ad g L k 0 ts'.tail ms6 _ (by decide) (by have := HR.out.le; have := H.out.2.2.2; omega) H6.out.1.lex (by rw [hr]; exact hru)).mono ?_
                intro e w7 h7
                rw [hr] at h7
                clear hr
                cases r with
                | unk => exact absurd rfl hru
                | err =>
                  obtain ⟨m, ms7, d7, ts7, rfl, k1, k2⟩ := h7
                  refine ⟨rfl, ?_⟩
                  show PRes _ _ _ _ _ _ _ _ _ _
                  rw [HP.out]
                  exact ⟨m, ms7, _, ts7, rfl, k1, H6.out.1.fr.trans k2⟩
                | ok p =>
                obtain ⟨x, ms7, rfl, ⟨b, li, ci, y, z, sd, xd, l3, c3, l4, c4, rfl, hB, hI⟩, k2, k3⟩ := h7
                have hB1 : Bl w7 b #[str p.1.name, numV li, numV ci, y, z, str [], sd, numV l3, numV c3, numV l4, numV c4] 102 := hB.1
                have hbge : w6.heap.size ≤ b := hB.2.2.1
                have hbms : b ∉ ms7 := k2.out hB1 (by decide)
                have hN7 := (k3.bl H6.out.2.1.1 H6.out.2.1.2).1
                have e0 := hN7.cell 0
                have e1 := hN7.cell 1
                have g7 := hB1.cell 7
                have g8 := hB1.cell 8
                have g5 := hB1.cell 5
                have f1 : ∀ o, w7.frozen? ⟨b, o, none⟩ = false := hB1.free
                have hz : w.heap.size < w6.heap.size := H6.out.1.lt
                have hz6 : wr.heap.size ≤ w6.heap.size := H6.out.2.2.kept.size
                obtain ⟨w8, hw8⟩ : ∃ w8, w8 = ((w7.setCell ⟨b, 7, none⟩ (.int .i64 l5)).setCell ⟨b, 8, none⟩ (.int .i64 c5)).setCell ⟨b, 5, none⟩ (str []) := ⟨_, rfl⟩
                have hB8 : Bl w8 b #[str p.1.name, numV li, numV ci, y, z, str [], sd, numV l5, numV c5, numV l4, numV c4] 102 := by
                  have := ((hB1.set 7 (numV l5)).set 8 (numV c5)).set 5 (str [])
                  rw [hw8]
                  simpa only [List.setIfInBounds_toArray, List.set_cons_succ, List.set_cons_zero] using this
                have hgb : g.heap.size ≤ b := Nat.le_trans (Nat.le_trans H6.out.1.base (Nat.le_of_lt hz)) hbge
                have hl8 : LexAt ad g w8 L ms7 ((0 : Nat) : Int) p.2 := by rw [hw8]; exact ((k2.poke hbms hgb _ _).poke hbms hgb _ _).poke hbms hgb _ _
                have hf8 : Fr ms6 w6 ms7 w8 := by rw [hw8]; exact ((k3.set (.inr hbge) _).set (.inr hbge) _).set (.inr hbge) _
                have hO8 := H6.out.1.go hl8 hf8
                have hnew : ∀ b' cs t, But (Fm w7 w6.heap.size) b b' cs t → Fm w8 wr.heap.size b' cs t := fun b' cs t k => by
                  rw [hw8]
                  exact ⟨((k.1.1.far k.2 _).far k.2 _).far k.2 _, k.1.2.1, Nat.le_trans hz6 k.1.2.2.1, by simp⟩
                have hW : Fr [] w8 [] (w8.alloc (.cells #[ptrV b] 96)) := (Fr.refl _ _).alloc _
                have hA := Lib.hid (next_v HR.out.own.lex HR.out.row (H6.out.2.2.trans hf8) (by decide) hW)
                have hE : Hid (InpsAt (From (w8.alloc (.cells #[ptrV b] 96)) (w.heap.size + 1) (Value.slice ao sl sc).ownBlock) (acc ++ [p.1]) (xs ++ [ptrV b])) :=
                  Lib.hid (InpsAt.snoc ((hI.mono (fun b' cs t k => hA.out.new b' cs t (hnew b' cs t k))).at_ (hA.out.new b _ _ ⟨hB8, by decide, Nat.le_trans hz6 hbge, by simp⟩)) _ _ (InpsAt.mono (fun b' cs t k => hA.out.old b' cs t k) _ _ HR.out.el))
                have hOW := hO8.alloc (.cells #[ptrV b] 96)
                have hcell : (w8.alloc (.cells #[ptrV b] 96)).cell? ⟨w8.heap.size, 0, none⟩ = some (ptrV b) := (Bl.new w8 _ _).cell 0
                have hc5 := hO8.box.cell 5
                have hlen : acc.length + 1 ≤ FMax := by have := HR.out.le; have := H.out.2.2.2; omega
                have hz8 : w8.heap.size = w7.heap.size := by rw [hw8]; simp [World.setCell]
                have HCe := Lib.hid (And.intro hcell hOW)
                rw [hz8] at HCe
                rw [hw8] at hA HCe hE hc5
                clear k2 k3 hB hI hru hcell hW hB1 hB8 hl8 hf8 hO8 hnew hOW hbms hN7 hz hz6 hz8
                go_wp2_with (
                  at_builtin
                  refine wpList_append_more _ rfl (.tmp 54) (.tmp 56) 51 rfl (w.heap.size + 1) 96 i0 (.pointer none) 8 Tryz.underlying50 hi hz0 hz1 hz2 rfl (.slice ao sl sc) acc.length xs rfl hA.out.row.own ⟨w7.heap.size, 0, none⟩ 1 (ptrV b) rfl HCe.out.1 rfl (by unfold FMax at hlen; unfold maxLen; omega) (by unfold FMax at hlen; omega) hA.out.row.le ?_
                  intro v' w9 ho hg hfr
                  have hO9 := HCe.out.2.row hA.out.row (Nat.le_succ _) (by decide) (by decide) hg
                  have hr9 := Grows.step ho hA.out.row.le hg
                  obtain ⟨ao9, sl9, sc9, rfl⟩ := hr9.shape
                  have h5 := hO9.box.cell 5
                  have f2 : ∀ o, w9.frozen? ⟨w.heap.size, o, none⟩ = false := hO9.box.free
                  have HG := Lib.hid (And.intro hr9 (And.intro hO9 (And.intro hg hfr)))
                  clear ho hg hfr hO9 hr9)
                go_roundg k
                case measure => omega
                case rel =>
                  obtain ⟨hr9, hO9, hg, hfr⟩ := HG.out
                  have hO10 := hO9.put 5 (.slice ao9 sl9 sc9)
                  simp only [List.setIfInBounds_toArray, List.set_cons_succ, List.set_cons_zero] at hO10
                  refine ⟨p.2, acc ++ [p.1], xs ++ [ptrV b], .slice ao9 sl9 sc9, ms7, HP.out, hO10, ?_, InpsAt.mono (fun b' cs t k => From.far2 b' cs t (From.step hg hfr b' cs t k) (Nat.lt_succ_self _)) _ _ hE.out, by have := HR.out.le; simp; omega⟩
                  have := hO9.rowput hr9 (by decide) (by decide) 5 (.slice ao9 sl9 sc9)
                  simpa using this
              · have hpu := HC.out.2
                rw [want, if_neg hc] at hpu
                have HC := Lib.hid (And.intro hc hpu)
                clear hc hpu
                refine (lex_tok_err ad g L ms' _ ts' 36 _ (H5.out.1.lex.alloc _) HC.out.1).mono ?_
                rintro e w6 ⟨m, ms6, d6, ts6, rfl, k1, k2⟩
                refine ⟨rfl, ?_⟩
                show PRes _ _ _ _ _ _ _ _ _ _
                rw [HC.out.2]
                exact ⟨m, ms6, _, ts6, rfl, k1, (H5.out.1.fr.alloc _).trans k2⟩
      · have d1 : ((cur ts1).kind == 40) = false := by simpa using hc
        have hpu := HN.out.pure
        rw [if_neg hc] at hpu
        have HC := Lib.hid hpu
        clear hc hpu
        go_wp2_with fail
        go_meet
        exact ⟨ms1, ts1, .slice none 0 0, [], HN.out.own, ⟨[], .inl ⟨rfl, rfl⟩, rfl⟩, HC.out⟩
    case rest =>
      clear HN
      obtain ⟨ms3, ts2, sv, is, hA⟩ := hcut
      have HA := Lib.hid hA
      clear hA
      obtain ⟨r, hr⟩ : ∃ r, pDirs f 0 ts2 [] = r := ⟨_, rfl⟩
      have hpu := HA.out.pure
      rw [hr] at hpu
      have hru : r ≠ .unk := fun e => by rw [hpu, e] at H; exact H.out.2.2.1 rfl
      have HP := Lib.hid hpu
      clear hpu
      go_wp2_with fail
      refine (dgoal ad g L f 0 ts2 ms3 _ (by decide) H.out.2.2.2 HA.out.own.lex (by rw [hr]; exact hru)).mono ?_
      intro e w3 h3
      rw [hr] at h3
      clear hr
      cases r with
      | unk => exact absurd rfl hru
      | err =>
        obtain ⟨m, ms4, d3, ts3, rfl, k1, k2⟩ := h3
        refine ⟨rfl, ?_⟩
        show PRes _ _ _ _ _ _ _ _ _ _
        rw [HP.out]
        exact ⟨m, ms4, _, ts3, rfl, k1, HA.out.own.fr.trans k2⟩
      | ok q =>
        obtain ⟨x, ms4, rfl, hD, k2, k3⟩ := h3
        obtain ⟨ao, sl, sc, rfl⟩ : ∃ ao l c, x = .slice ao l c := by obtain ⟨xd, q1, q2⟩ := hD; exact q1.shape
        have hO := HA.out.own.go k2 k3
        have hlt := HA.out.own.lt
        have g7 := hO.box.cell 7
        have f1 : ∀ o, w3.frozen? ⟨w.heap.size, o, none⟩ = false := hO.box.free
        obtain ⟨w4, hw4⟩ : ∃ w4, w4 = w3.setCell ⟨w.heap.size, 7, none⟩ (.slice ao sl sc) := ⟨_, rfl⟩
        have hO4 := hO.put 7 (.slice ao sl sc)
        simp only [List.setIfInBounds_toArray, List.set_cons_succ, List.set_cons_zero] at hO4
        have hnew : ∀ b cs t, Fm w3 wc.heap.size b cs t → Fm w4 (w.heap.size + 1) b cs t := fun b cs t k => by rw [hw4]; exact From.far b cs t (Fm.up (by omega) b cs t k) (by omega)
        have hold : ∀ b cs t, Fm wc (w.heap.size + 1) b cs t → Fm w4 (w.heap.size + 1) b cs t := fun b cs t k => by rw [hw4]; exact From.far b cs t (Fm.lex HA.out.own.lex k3 _ b cs t k) (by omega)
        rw [← hw4] at hO4
        have H4 := Lib.hid (And.intro hO4 (And.intro (hD.mono hnew) (HA.out.at_.mono hold)))
        clear k2 k3 hO hD hru hnew hold hO4
        go_wp2_with fail
        rw [← hw4]
        clear hw4 g7 f1
        obtain ⟨r, hr⟩ : ∃ r, pSet f 0 q.2 = r := ⟨_, rfl⟩
        have hpu := HP.out
        simp only [Res.bind] at hpu
        rw [hr] at hpu
        have hru : r ≠ .unk := fun e => by rw [hpu, e] at H; exact H.out.2.2.1 rfl
        have HP := Lib.hid hpu
        clear hpu
        refine (sgoal ad g L f 0 q.2 ms4 _ (by decide) H.out.2.2.2 H4.out.1.lex (by rw [hr]; exact hru)).mono ?_
        intro e w7 h7
        rw [hr] at h7
        clear hr
        cases r with
        | unk => exact absurd rfl hru
        | err =>
          obtain ⟨m, ms7, d7, ts7, rfl, k1, k2⟩ := h7
          refine ⟨rfl, ?_⟩
          show PRes _ _ _ _ _ _ _ _ _ _
          rw [HP.out]
          exact ⟨m, ms7, _, ts7, rfl, k1, H4.out.1.fr.trans k2⟩
        | ok p =>
          obtain ⟨y, ms7, rfl, hS, k2, k3⟩ := h7
          obtain ⟨ao2, sl2, sc2, rfl⟩ : ∃ ao l c, y = .slice ao l c := by obtain ⟨xd, q1, q2⟩ := hS; exact q1.shape
          have hO := H4.out.1.go k2 k3
          have hlt4 := H4.out.1.lt
          have g6 := hO.box.cell 6
          have f1 : ∀ o, w7.frozen? ⟨w.heap.size, o, none⟩ = false := hO.box.free
          have H7 := Lib.hid (And.intro hO (And.intro hS k3))
          clear k2 k3 hO hS hru
          go_wp2_with fail
          go_ret
          rw [HP.out]
          obtain ⟨hO, hS, k3⟩ := H7.out
          have hO8 := hO.put 6 (.slice ao2 sl2 sc2)
          simp only [List.setIfInBounds_toArray, List.set_cons_succ, List.set_cons_zero] at hO8
          have hnew : ∀ b cs t, Fm w7 w4.heap.size b cs t → But (Fm (w7.setCell ⟨w.heap.size, 6, none⟩ (.slice ao2 sl2 sc2)) w.heap.size) w.heap.size b cs t := fun b cs t k => ⟨Fm.up (Nat.le_succ _) b cs t (From.far b cs t (Fm.up (base := w.heap.size + 1) (by omega) b cs t k) (by omega)), by have := k.2.2.1; omega⟩
          have hold : ∀ b cs t, Fm w4 (w.heap.size + 1) b cs t → But (Fm (w7.setCell ⟨w.heap.size, 6, none⟩ (.slice ao2 sl2 sc2)) w.heap.size) w.heap.size b cs t := fun b cs t k => ⟨Fm.up (Nat.le_succ _) b cs t (From.far b cs t (Fm.lex H4.out.1.lex k3 _ b cs t k) (by omega)), by have := k.2.2.1; omega⟩
          exact ⟨_, ms7, rfl, ⟨w.heap.size, l1, c1, sv, .slice ao2 sl2 sc2, .slice ao sl sc, 0, 0, rfl, ⟨hO8.box, by decide, Nat.le_refl _, by simp⟩, H4.out.2.2.mono hold, hS.mono hnew, H4.out.2.1.mono hold⟩, hO8.lex, hO8.fr⟩

end Go.Proofs.YtobiaaabikfglaaGreatDoor
