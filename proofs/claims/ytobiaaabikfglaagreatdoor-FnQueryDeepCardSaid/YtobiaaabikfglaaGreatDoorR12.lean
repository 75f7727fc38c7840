/-
  The parser of values by a contract: lists. No conditions but lengths.
-/
import Derived.Test.YtobiaaabikfglaaGreatDoorR11
namespace Go.Proofs.YtobiaaabikfglaaGreatDoor
open Go.RowKit Go.Proofs.YtobiaaabikfglaaGreatDoor.Pq Go.Lib

def FMax : Nat := 1000000000

def VGoal (ad : Addr) (g : World) (L : Nat) (f : Nat) : Prop := ∀ (c : Bool) (d : Nat) (ts : List Tok) (ms : List Nat) (w : World), d ≤ 1000 → f ≤ FMax → LexAt ad g w L ms d ts → pVal f c d ts ≠ .unk →
  Calls Tryz.prog 83 #[.pointer (some ⟨L, 0, none⟩), .bool c] w (PRes VAt (pVal f c d ts) ad g L ms d w)

theorem VsAt.snoc {B : Bk} {v : Val} {y : Value} (hv : VAt B v y) : ∀ (vs : List Val) (xs : List Value), VsAt B vs xs → VsAt B (vs ++ [v]) (xs ++ [y])
  | [], xs => fun h => by
    have h : xs = [] := h
    subst h
    exact ⟨y, [], rfl, hv, rfl⟩
  | u :: us, xs => fun ⟨z, zs, h1, h2, h3⟩ => ⟨z, zs ++ [y], by rw [h1]; rfl, h2, VsAt.snoc hv us zs h3⟩

theorem From.step {W w4 : World} {base : Nat} {x x' : Option Nat} (hg : W.grownBy w4 x) (hf : ∀ k, x' = some k → x = some k ∨ W.heap.size ≤ k) : ∀ b cs t, From W base x b cs t → From w4 base x' b cs t :=
  fun _ _ _ ⟨h1, h2, h3, h4⟩ => ⟨h1.grown hg h4, h2, h3, fun e => by rcases hf _ e.symm with h | h; exact h4 h.symm; have := h1.lt; omega⟩

/-- behind one append -/
theorem Grows.step {W w4 : World} {base : Nat} {t : TypeId} {v' : Value} {n : Nat} {ys : List Value} {x : Option Nat} (ho : w4.ownsRow base t 1 v' n ys) (hb : base ≤ W.heap.size) (hg : W.grownBy w4 x) : Grows w4 base t v' n ys := ⟨ho, Nat.le_trans hb hg.size⟩

theorem Bl.off {w : World} {b : Nat} {cs : Array Value} {t t2 : TypeId} {v : Value} {base n : Nat} {xs : List Value} (h : Bl w b cs t) (hr : Grows w base t2 v n xs) (ht : t ≠ t2) : some b ≠ v.ownBlock := by
  intro e
  obtain ⟨_, _, cs2, h2⟩ := hr.row_lt b e.symm
  exact ht (h.eq h2).2

theorem LexAt.row {ad : Addr} {g w w' : World} {L : Nat} {ms : List Nat} {d : Int} {ts : List Tok} {base : Nat} {t : TypeId} {v : Value} {n : Nat} {xs : List Value} (h : LexAt ad g w L ms d ts) (hr : Grows w base t v n xs) (ht : AstT t) (hb : g.heap.size ≤ base) (hg : w.grownBy w' v.ownBlock) : LexAt ad g w' L ms d ts :=
  h.grown hg (fun k hk => by
    obtain ⟨_, h2, cs, h3⟩ := hr.row_lt k hk
    exact ⟨h.out h3 ht, Nat.le_trans hb h2⟩)

/-- behind a call for one element more, and the making of its block -/
structure ListNext (w3 : World) (o : Obj) (base B0 : Nat) (cs0 : Array Value) (t0 t : TypeId) (v : Value) (n : Nat) (xs : List Value) (wr : World) : Prop where
  row : Grows (w3.alloc o) base t v n xs
  old : ∀ b cs t, From wr base v.ownBlock b cs t → From (w3.alloc o) base v.ownBlock b cs t
  new : ∀ b cs t, From w3 wr.heap.size none b cs t → From (w3.alloc o) base v.ownBlock b cs t
  box : Bl (w3.alloc o) B0 cs0 t0

theorem list_next {ad : Addr} {g wr w3 : World} {L : Nat} {ms ms3 : List Nat} {d d' : Int} {ts ts' : List Tok} {base : Nat} {t : TypeId} {v : Value} {n : Nat} {xs : List Value} (hl : LexAt ad g wr L ms d ts) (hr : Grows wr base t v n xs) (_hl3 : LexAt ad g w3 L ms3 d' ts') (hf : Fr ms wr ms3 w3) (ht : AstT t) (o : Obj)
    {B0 : Nat} {cs0 : Array Value} {t0 : TypeId} (hb : Bl wr B0 cs0 t0) (ht0 : AstT t0) (_hne : t0 ≠ t) : ListNext w3 o base B0 cs0 t0 t v n xs wr :=
  ⟨(hr.lex ht hl hf).fr ht ((Fr.refl _ _).alloc o), fun _ _ _ k => From.fr ((Fr.refl [] w3).alloc o) _ _ _ (hl.keeps hf _ _ _ _ _ k),
   fun _ _ _ k => From.fr ((Fr.refl [] w3).alloc o) _ _ _ (From.new hr.le (fun k hk => (hr.row_lt k hk).1) _ _ _ k), (hf.bl hb (hl.out hb ht0)).1.alloc o⟩

theorem Grows.shape {w : World} {base : Nat} {t : TypeId} {v : Value} {n : Nat} {xs : List Value} (h : Grows w base t v n xs) : ∃ ao l c, v = .slice ao l c := by
  rcases h.own.2 with ⟨k1, _⟩ | ⟨g, cap, cur, h1, _⟩
  · exact ⟨_, _, _, k1⟩
  · exact ⟨_, _, _, h1⟩

structure ListRel (ad : Addr) (g w : World) (L : Nat) (ms : List Nat) (d : Nat) (c : Bool) (f : Nat) (ts0 : List Tok) (B0 : Nat) (l0 c0 : Int) (k : Nat) (v : Value) (wr : World) (ts : List Tok) (acc : List Val) (xs : List Value) (ms2 : List Nat) : Prop where
  pure : pVals f c (d + 1) ts0 [] = pVals k c (d + 1) ts acc
  lex : LexAt ad g wr L ms2 ((d + 1 : Nat) : Int) ts
  row : Grows wr w.heap.size 100 v acc.length xs
  el : VsAt (From wr w.heap.size v.ownBlock) acc xs
  fr : Fr ms w ms2 wr
  le : acc.length + k ≤ f
  box : Bl wr B0 #[numV l0, numV c0] 47

set_option maxRecDepth 100000 in
set_option maxHeartbeats 8000000 in
theorem val_list (ad : Addr) (g : World) (L : Nat) (c : Bool) (f d : Nat) (ts : List Tok) (ms : List Nat) (w : World) (ih : ∀ k, k ≤ f → VGoal ad g L k) (h : LexAt ad g w L ms d ts) (hk : (cur ts).kind = 91) (hd0 : d ≤ 1000) (hd : d + 1 ≤ 1000) (hf : f ≤ FMax)
    (hu : (pVals f c (d + 1) ts.tail []) ≠ .unk) :
    Calls Tryz.prog 83 #[.pointer (some ⟨L, 0, none⟩), .bool c] w (PRes VAt ((pVals f c (d + 1) ts.tail []).bind fun p => .ok (.list p.1, p.2)) ad g L ms d w) := by
  obtain ⟨i0, hi, hz0, hz1, hz2⟩ := info_parts (by kernel_rfl : (Tryz.prog.info? 100).map (fun i => (i.zero, i.size, i.bytes)) = some (some .nilIface, 1, 16))
  have H := Lib.hid (And.intro h (And.intro hk (And.intro hu hf)))
  clear h hk hu hf
  go_enter_defers Tryz.func83, Tryz.ntmps83
  go_wp2_with fail
  refine (lex_loc ad g L ms d ts _ H.out.1).mono ?_
  rintro e w1 ⟨⟨l0, c0, rfl⟩, hf⟩
  have h1 := H.out.1.quiet hf
  have H1 := Lib.hid (And.intro h1 hf)
  clear h1 hf
  go_wp2_with fail
  refine (lex_peek ad g L ms d ts _ (H1.out.1.alloc _)).mono ?_
  rintro e w' ⟨rfl, rfl⟩
  rw [H.out.2.1]
  go_wp2_with fail
  refine (lex_down ad g L ms d ts _ (H1.out.1.alloc _) hd).mono ?_
  rintro e w2 ⟨rfl, k1, k2⟩
  have hb1 := H1.out.1.keep (Bl.new w1 _ _) k2
  have H2 := Lib.hid (And.intro k1 (And.intro k2 hb1))
  clear k1 k2 hb1
  go_wp2_with fail
  refine (lex_tok ad g L ms _ ts 91 _ H2.out.1 H.out.2.1).mono ?_
  rintro e w3 ⟨rfl, ms3, k1, k2⟩
  have hb1 := k2.bl H2.out.2.2.1 H2.out.2.2.2
  have H3 := Lib.hid (And.intro k1 (And.intro k2 hb1))
  clear k1 k2 hb1
  go_wp2_with fail
  go_loopg [8] f (fun k v wr => ∃ ts' acc xs ms', ListRel ad g w L ms d c f ts.tail w1.heap.size l0 c0 k v wr ts' acc xs ms')
  case atStart =>
    have z1 := H1.out.2.kept.size
    have z2 := H2.out.2.1.kept.size
    have z3 := H3.out.2.1.kept.size
    exact ⟨ts.tail, [], [], ms3, rfl, H3.out.1, ⟨World.ownsRow_nil _ _ _ 1, by simp at z2; omega⟩, rfl, ((((H1.out.2.wide (by simp)).alloc _).trans H2.out.2.1).trans H3.out.2.1), by simp, H3.out.2.2.1⟩
  case round =>
    obtain ⟨ts', acc, xs, ms', hR⟩ := hrel
    have HR := Lib.hid hR
    clear hR H2 H3
    cases gk with
    | zero =>
      refine absurd ?_ H.out.2.2.1
      rw [HR.out.pure, pVals]
    | succ k =>
      have hstep : pVals (k + 1) c (d + 1) ts' acc = if (cur ts').kind = 93 then .ok (acc, ts'.tail) else (pVal k c (d + 1) ts').bind fun p => pVals k c (d + 1) p.2 (acc ++ [p.1]) := by rw [pVals]
      have HS := Lib.hid hstep
      clear hstep
      go_wp2_with fail
      refine (lex_peek ad g L ms' _ ts' _ HR.out.lex).mono ?_
      rintro e w' ⟨rfl, rfl⟩
      by_cases hc : (cur ts').kind = 93
      · have d1 : ((cur ts').kind != 93) = false := by simpa using hc
        have HC := Lib.hid hc
        clear hc
        go_wp2_with fail
        refine (lex_tok ad g L ms' _ ts' 93 _ HR.out.lex HC.out).mono ?_
        rintro e w3 ⟨rfl, ms3, k2, k3⟩
        have hb1 := (k3.bl HR.out.box (HR.out.lex.out HR.out.box (by decide))).1
        have e0 := hb1.cell 0
        have e1 := hb1.cell 1
        have H3 := Lib.hid (And.intro k2 k3)
        clear k2 k3 hb1
        obtain ⟨ao, sl, sc, rfl⟩ := HR.out.row.shape
        go_wp2_with fail
        refine door_ret (H3.out.1.alloc _) _ (fun _ => results_tmp rfl _ _ _) (fun w' a b => ?_)
        have hpu : pVals f c (d + 1) ts.tail [] = .ok (acc, ts'.tail) := by rw [HR.out.pure, HS.out, if_pos HC.out]
        rw [hpu]
        have z1 := HR.out.fr.kept.size
        have z3 := H3.out.2.kept.size
        have hrow := ((HR.out.row.lex (by decide) HR.out.lex H3.out.2).fr (by decide) ((Fr.refl [] w3).alloc (.cells #[.slice ao sl sc, numV l0, numV c0] 153))).lex (by decide) (H3.out.1.alloc _) b
        refine ⟨_, ms3, rfl, ⟨w3.heap.size, .slice ao sl sc, xs, l0, c0, rfl, ⟨(H3.out.1.keep (Bl.new w3 _ _) b).1, by decide, by omega, by simp⟩, hrow.at_ (by decide), ?_⟩, by rw [wrap_up d hd0] at a; exact a, ((HR.out.fr.trans H3.out.2).alloc _).trans b⟩
        refine VsAt.mono (fun b' cs t k => ?_) _ _ HR.out.el
        have k2 := (H3.out.1.alloc _).keeps b _ _ _ _ _ (From.fr ((Fr.refl [] w3).alloc (.cells #[.slice ao sl sc, numV l0, numV c0] 153)) _ _ _ (HR.out.lex.keeps H3.out.2 _ _ _ _ _ k))
        exact ⟨k2.1, k2.2.1, k2.2.2.1, by simp⟩
      · have d1 : ((cur ts').kind != 93) = true := by simpa using hc
        have HC := Lib.hid hc
        clear hc
        go_wp2_with fail
        obtain ⟨r, hr⟩ : ∃ r, pVal k c (d + 1) ts' = r := ⟨_, rfl⟩
        have hpu : pVals f c (d + 1) ts.tail [] = r.bind fun p => pVals k c (d + 1) p.2 (acc ++ [p.1]) := by rw [HR.out.pure, HS.out, if_neg HC.out, hr]
        have hru : r ≠ .unk := fun e => by rw [hpu, e] at H; exact H.out.2.2.1 rfl
        have HP := Lib.hid (And.intro hpu hr)
        clear hpu
        refine (ih k (by have := HR.out.le; omega) c (d + 1) ts' ms' _ hd (by have := HR.out.le; have := H.out.2.2.2; omega) HR.out.lex (by rw [hr]; exact hru)).mono ?_
        intro e w3 h3
        rw [hr] at h3
        clear hr
        cases r with
        | unk => exact absurd rfl hru
        | err =>
          obtain ⟨m, ms3, d3, ts3, rfl, k1, k2⟩ := h3
          refine door_panic k1 (fun w' a b => ?_)
          rw [HP.out.1]
          exact ⟨m, ms3, _, ts3, rfl, a, (HR.out.fr.trans k2).trans b⟩
        | ok p =>
          obtain ⟨x, ms3, rfl, k1, k2, k3⟩ := h3
          obtain ⟨T, b, rfl⟩ := k1.shape
          have hlen : acc.length + 1 ≤ FMax := by have := HR.out.le; have := H.out.2.2.2; omega
          have hA := Lib.hid (list_next HR.out.lex HR.out.row k2 k3 (by decide) (.cells #[.iface T (ptrV b)] 100) HR.out.box (by decide) (by decide))
          have hE : Hid (VsAt (From (w3.alloc (.cells #[.iface T (ptrV b)] 100)) w.heap.size u8.ownBlock) (acc ++ [p.1]) (xs ++ [.iface T (ptrV b)])) :=
            Lib.hid (VsAt.snoc (VAt.mono (fun b' cs t k => hA.out.new b' cs t k) _ _ k1) _ _ (VsAt.mono (fun b' cs t k => hA.out.old b' cs t k) _ _ HR.out.el))
          have H3 := Lib.hid (And.intro k2 k3)
          have hcell : (w3.alloc (.cells #[.iface T (ptrV b)] 100)).cell? ⟨w3.heap.size, 0, none⟩ = some (.iface T (ptrV b)) := (Bl.new w3 _ _).cell 0
          have HCe := Lib.hid hcell
          clear k1 k2 k3 hru hcell
          go_wp2_with (
            at_builtin
            refine wpList_append_more _ rfl (.tmp 92) (.tmp 96) 151 rfl w.heap.size 100 i0 .nilIface 16 Tryz.underlying151 hi hz0 hz1 hz2 rfl u8 acc.length xs rfl hA.out.row.own ⟨w3.heap.size, 0, none⟩ 1 (.iface T (ptrV b)) rfl HCe.out rfl (by unfold FMax at hlen; unfold maxLen; omega) (by unfold FMax at hlen; omega) hA.out.row.le ?_
            intro v' w4 ho hg hfr
            have HG := Lib.hid (And.intro ho (And.intro hg hfr))
            clear ho hg hfr)
          go_roundg k
          case measure => omega
          case rel =>
            obtain ⟨ho, hg, hfr⟩ := HG.out
            refine ⟨p.2, acc ++ [p.1], xs ++ [.iface T (ptrV b)], ms3, HP.out.1, ?_, ?_, VsAt.mono (From.step hg hfr) _ _ hE.out, ?_, by have := HR.out.le; simp; omega, ?_⟩
            · exact (H3.out.1.alloc _).row hA.out.row (by decide) H.out.1.base hg
            · have := Grows.step ho hA.out.row.le hg
              simpa using this
            · exact ((HR.out.fr.trans H3.out.2).alloc _).grownOut hg (fun k hk => (hA.out.row.row_lt k hk).2.1)
            · exact hA.out.box.grown hg (hA.out.box.off hA.out.row (by decide))

end Go.Proofs.YtobiaaabikfglaaGreatDoor

/-
  The parser of values by a contract: objects; all values. No conditions but lengths.
-/
namespace Go.Proofs.YtobiaaabikfglaaGreatDoor
open Go.RowKit Go.Proofs.YtobiaaabikfglaaGreatDoor.Pq Go.Lib

theorem FsAt.snoc {B : Bk} {n : Bs} {v : Val} {b : Nat} {l c : Int} {y : Value} (hb : B b #[str n, numV l, numV c, y] 160) (hv : VAt B v y) : ∀ (fs : List (Bs × Val)) (xs : List Value), FsAt B fs xs → FsAt B (fs ++ [(n, v)]) (xs ++ [ptrV b])
  | [], xs => fun h => by
    have h : xs = [] := h
    subst h
    exact ⟨b, l, c, y, [], rfl, hb, hv, rfl⟩
  | (m, u) :: us, xs => fun ⟨b2, l2, c2, z, zs, h1, h2, h3, h4⟩ => ⟨b2, l2, c2, z, zs ++ [ptrV b], by rw [h1]; rfl, h2, h3, FsAt.snoc hb hv us zs h4⟩

/-- behind the calls for one element more, and the making of its blocks -/
structure NextW (W w3 : World) (base B0 : Nat) (cs0 : Array Value) (t0 t : TypeId) (v : Value) (n : Nat) (xs : List Value) (wr : World) : Prop where
  row : Grows W base t v n xs
  old : ∀ b cs t, From wr base v.ownBlock b cs t → From W base v.ownBlock b cs t
  new : ∀ b cs t, From w3 wr.heap.size none b cs t → From W base v.ownBlock b cs t
  made : ∀ b cs t, Bl W b cs t → AstT t → w3.heap.size ≤ b → From W base v.ownBlock b cs t
  box : Bl W B0 cs0 t0

theorem next_w {ad : Addr} {g wr w3 W : World} {L : Nat} {ms ms3 : List Nat} {d : Int} {ts : List Tok} {base : Nat} {t : TypeId} {v : Value} {n : Nat} {xs : List Value} (hl : LexAt ad g wr L ms d ts) (hr : Grows wr base t v n xs) (hf : Fr ms wr ms3 w3) (ht : AstT t) (hW : Fr [] w3 [] W)
    {B0 : Nat} {cs0 : Array Value} {t0 : TypeId} (hb : Bl wr B0 cs0 t0) (ht0 : AstT t0) : NextW W w3 base B0 cs0 t0 t v n xs wr :=
  ⟨(hr.lex ht hl hf).fr ht hW, fun _ _ _ k => From.fr hW _ _ _ (hl.keeps hf _ _ _ _ _ k),
   fun _ _ _ k => From.fr hW _ _ _ (From.new hr.le (fun k hk => (hr.row_lt k hk).1) _ _ _ k),
   fun b _ _ k k2 k3 => ⟨k, k2, Nat.le_trans hr.le (Nat.le_trans hf.kept.size k3), fun e => by have := (hr.row_lt b e.symm).1; have := hf.kept.size; omega⟩,
   (hW.bl (hf.bl hb (hl.out hb ht0)).1 (by simp)).1⟩

set_option maxRecDepth 100000 in
set_option maxHeartbeats 4000000 in
theorem val_deep (ad : Addr) (g : World) (L : Nat) (c : Bool) (d : Nat) (ts : List Tok) (ms : List Nat) (w : World) (h : LexAt ad g w L ms d ts) (hk : (cur ts).kind = 91 ∨ (cur ts).kind = 123) (hd : ¬ d + 1 ≤ 1000) (hd0 : d ≤ 1000) :
    Calls Tryz.prog 83 #[.pointer (some ⟨L, 0, none⟩), .bool c] w (PRes VAt .err ad g L ms d w) := by
  have H := Lib.hid h
  clear h
  go_enter_defers Tryz.func83, Tryz.ntmps83
  go_wp2_with fail
  refine (lex_loc ad g L ms d ts _ H.out).mono ?_
  rintro e w1 ⟨⟨l0, c0, rfl⟩, hf⟩
  have h1 := H.out.quiet hf
  have H1 := Lib.hid (And.intro h1 hf)
  clear h1 hf
  go_wp2_with fail
  refine (lex_peek ad g L ms d ts _ (H1.out.1.alloc _)).mono ?_
  rintro e w' ⟨rfl, rfl⟩
  rcases hk with hk | hk
  all_goals
    rw [hk]
    clear hk
    go_wp2_with fail
    refine (lex_down_err ad g L ms d ts _ (H1.out.1.alloc _) hd (by omega)).mono ?_
    rintro e w2 ⟨m, ms2, d2, ts2, rfl, k1, k2⟩
    exact ⟨m, ms2, _, ts2, rfl, k1, ((H1.out.2.wide (by simp)).alloc _).trans k2⟩

structure ObjRel (ad : Addr) (g w : World) (L : Nat) (ms : List Nat) (d : Nat) (c : Bool) (f : Nat) (ts0 : List Tok) (B0 : Nat) (l0 c0 : Int) (k : Nat) (v : Value) (wr : World) (ts : List Tok) (acc : List (Bs × Val)) (xs : List Value) (ms2 : List Nat) : Prop where
  pure : pFields f c (d + 1) ts0 [] = pFields k c (d + 1) ts acc
  lex : LexAt ad g wr L ms2 ((d + 1 : Nat) : Int) ts
  row : Grows wr w.heap.size 158 v acc.length xs
  el : FsAt (From wr w.heap.size v.ownBlock) acc xs
  fr : Fr ms w ms2 wr
  le : acc.length + k ≤ f
  box : Bl wr B0 #[numV l0, numV c0] 47

set_option maxRecDepth 100000 in
set_option maxHeartbeats 8000000 in
theorem val_obj (ad : Addr) (g : World) (L : Nat) (c : Bool) (f d : Nat) (ts : List Tok) (ms : List Nat) (w : World) (ih : ∀ k, k ≤ f → VGoal ad g L k) (h : LexAt ad g w L ms d ts) (hk : (cur ts).kind = 123) (hd0 : d ≤ 1000) (hd : d + 1 ≤ 1000) (hf : f ≤ FMax)
    (hu : (pFields f c (d + 1) ts.tail []) ≠ .unk) :
    Calls Tryz.prog 83 #[.pointer (some ⟨L, 0, none⟩), .bool c] w (PRes VAt ((pFields f c (d + 1) ts.tail []).bind fun p => .ok (.obj p.1, p.2)) ad g L ms d w) := by
  obtain ⟨i0, hi, hz0, hz1, hz2⟩ := info_parts (by kernel_rfl : (Tryz.prog.info? 158).map (fun i => (i.zero, i.size, i.bytes)) = some (some (.pointer none), 1, 8))
  have H := Lib.hid (And.intro h (And.intro hk (And.intro hu hf)))
  clear h hk hu hf
  go_enter_defers Tryz.func83, Tryz.ntmps83
  go_wp2_with fail
  refine (lex_loc ad g L ms d ts _ H.out.1).mono ?_
  rintro e w1 ⟨⟨l0, c0, rfl⟩, hf⟩
  have h1 := H.out.1.quiet hf
  have H1 := Lib.hid (And.intro h1 hf)
  clear h1 hf
  go_wp2_with fail
  refine (lex_peek ad g L ms d ts _ (H1.out.1.alloc _)).mono ?_
  rintro e w' ⟨rfl, rfl⟩
  rw [H.out.2.1]
  go_wp2_with fail
  refine (lex_down ad g L ms d ts _ (H1.out.1.alloc _) hd).mono ?_
  rintro e w2 ⟨rfl, k1, k2⟩
  have hb1 := H1.out.1.keep (Bl.new w1 _ _) k2
  have H2 := Lib.hid (And.intro k1 (And.intro k2 hb1))
  clear k1 k2 hb1
  go_wp2_with fail
  refine (lex_tok ad g L ms _ ts 123 _ H2.out.1 H.out.2.1).mono ?_
  rintro e w3 ⟨rfl, ms3, k1, k2⟩
  have hb1 := k2.bl H2.out.2.2.1 H2.out.2.2.2
  have H3 := Lib.hid (And.intro k1 (And.intro k2 hb1))
  clear k1 k2 hb1
  go_wp2_with fail
  go_loopg [9] f (fun k v wr => ∃ ts' acc xs ms', ObjRel ad g w L ms d c f ts.tail w1.heap.size l0 c0 k v wr ts' acc xs ms')
  case atStart =>
    have z1 := H1.out.2.kept.size
    have z2 := H2.out.2.1.kept.size
    have z3 := H3.out.2.1.kept.size
    exact ⟨ts.tail, [], [], ms3, rfl, H3.out.1, ⟨World.ownsRow_nil _ _ _ 1, by simp at z2; omega⟩, rfl, ((((H1.out.2.wide (by simp)).alloc _).trans H2.out.2.1).trans H3.out.2.1), by simp, H3.out.2.2.1⟩
  case round =>
    obtain ⟨ts', acc, xs, ms', hR⟩ := hrel
    have HR := Lib.hid hR
    clear hR H2 H3
    cases gk with
    | zero =>
      refine absurd ?_ H.out.2.2.1
      rw [HR.out.pure, pFields]
    | succ k =>
      have hstep : pFields (k + 1) c (d + 1) ts' acc = if (cur ts').kind = 125 then .ok (acc, ts'.tail) else (ident ts').bind fun n => (want 58 n.2).bind fun t1 => (pVal k c (d + 1) t1).bind fun p => pFields k c (d + 1) p.2 (acc ++ [(n.1, p.1)]) := by rw [pFields]
      have HS := Lib.hid hstep
      clear hstep
      go_wp2_with fail
      refine (lex_peek ad g L ms' _ ts' _ HR.out.lex).mono ?_
      rintro e w' ⟨rfl, rfl⟩
      by_cases hc : (cur ts').kind = 125
      · have d1 : ((cur ts').kind != 125) = false := by simpa using hc
        have HC := Lib.hid hc
        clear hc
        go_wp2_with fail
        refine (lex_tok ad g L ms' _ ts' 125 _ HR.out.lex HC.out).mono ?_
        rintro e w3 ⟨rfl, ms3, k2, k3⟩
        have hb1 := (k3.bl HR.out.box (HR.out.lex.out HR.out.box (by decide))).1
        have e0 := hb1.cell 0
        have e1 := hb1.cell 1
        have H3 := Lib.hid (And.intro k2 k3)
        clear k2 k3 hb1
        obtain ⟨ao, sl, sc, rfl⟩ := HR.out.row.shape
        go_wp2_with fail
        refine door_ret (H3.out.1.alloc _) _ (fun _ => results_tmp rfl _ _ _) (fun w' a b => ?_)
        have hpu : pFields f c (d + 1) ts.tail [] = .ok (acc, ts'.tail) := by rw [HR.out.pure, HS.out, if_pos HC.out]
        rw [hpu]
        have z1 := HR.out.fr.kept.size
        have z3 := H3.out.2.kept.size
        have hrow := ((HR.out.row.lex (by decide) HR.out.lex H3.out.2).fr (by decide) ((Fr.refl [] w3).alloc (.cells #[.slice ao sl sc, numV l0, numV c0] 157))).lex (by decide) (H3.out.1.alloc _) b
        refine ⟨_, ms3, rfl, ⟨w3.heap.size, .slice ao sl sc, xs, l0, c0, rfl, ⟨(H3.out.1.keep (Bl.new w3 _ _) b).1, by decide, by omega, by simp⟩, hrow.at_ (by decide), ?_⟩, by rw [wrap_up d hd0] at a; exact a, ((HR.out.fr.trans H3.out.2).alloc _).trans b⟩
        refine FsAt.mono (fun b' cs t k => ?_) _ _ HR.out.el
        have k2 := (H3.out.1.alloc _).keeps b _ _ _ _ _ (From.fr ((Fr.refl [] w3).alloc (.cells #[.slice ao sl sc, numV l0, numV c0] 157)) _ _ _ (HR.out.lex.keeps H3.out.2 _ _ _ _ _ k))
        exact ⟨k2.1, k2.2.1, k2.2.2.1, by simp⟩
      · have d1 : ((cur ts').kind != 125) = true := by simpa using hc
        have hpu : pFields f c (d + 1) ts.tail [] = (ident ts').bind fun n => (want 58 n.2).bind fun t1 => (pVal k c (d + 1) t1).bind fun p => pFields k c (d + 1) p.2 (acc ++ [(n.1, p.1)]) := by rw [HR.out.pure, HS.out, if_neg hc]
        have HC := Lib.hid hpu
        clear hc hpu
        go_wp2_with fail
        by_cases hi1 : (cur ts').kind = -2
        · have hid : ident ts' = .ok ((cur ts').text, ts'.tail) := if_pos hi1
          have hpu := HC.out
          rw [hid] at hpu
          simp only [Res.bind] at hpu
          have HC := Lib.hid (And.intro hi1 hpu)
          clear hi1 hid hpu
          refine (lex_name ad g L ms' _ ts' _ HR.out.lex HC.out.1).mono ?_
          rintro e w3 ⟨⟨l1, c1, rfl⟩, ms3, k1, k2⟩
          have H3 := Lib.hid (And.intro k1 k2)
          clear k1 k2
          go_wp2_with fail
          by_cases hw : (cur ts'.tail).kind = 58
          · have hpu := HC.out.2
            rw [want, if_pos hw] at hpu
            simp only at hpu
            have HC := Lib.hid (And.intro hw hpu)
            clear hw hpu
            refine (lex_tok ad g L ms3 _ ts'.tail 58 _ (H3.out.1.alloc _) HC.out.1).mono ?_
            rintro e w4 ⟨rfl, ms4, k1, k2⟩
            have hb1 := H3.out.1.keep (Bl.new w3 _ _) k2
            have H4 := Lib.hid (And.intro k1 (And.intro k2 hb1))
            clear k1 k2 hb1
            go_wp2_with fail
            obtain ⟨r, hr⟩ : ∃ r, pVal k c (d + 1) ts'.tail.tail = r := ⟨_, rfl⟩
            have hpu := HC.out.2
            rw [hr] at hpu
            have hru : r ≠ .unk := fun e => by rw [hpu, e] at H; exact H.out.2.2.1 rfl
            have HP := Lib.hid (And.intro hpu hr)
            clear hpu
            refine (ih k (by have := HR.out.le; omega) c (d + 1) ts'.tail.tail ms4 _ hd (by have := HR.out.le; have := H.out.2.2.2; omega) H4.out.1 (by rw [hr]; exact hru)).mono ?_
            intro e w5 h5
            rw [hr] at h5
            clear hr
            have hF : Fr ms' wr ms4 w4 := (H3.out.2.alloc _).trans H4.out.2.1
            cases r with
            | unk => exact absurd rfl hru
            | err =>
              obtain ⟨m, ms5, d5, ts5, rfl, k1, k2⟩ := h5
              refine door_panic k1 (fun w' a b => ?_)
              rw [HP.out.1]
              exact ⟨m, ms5, _, ts5, rfl, a, ((HR.out.fr.trans hF).trans k2).trans b⟩
            | ok p =>
              obtain ⟨x, ms5, rfl, k1, k2, k3⟩ := h5
              obtain ⟨T, b, rfl⟩ := k1.shape
              have hlen : acc.length + 1 ≤ FMax := by have := HR.out.le; have := H.out.2.2.2; omega
              have hbx := (k3.bl H4.out.2.2.1 H4.out.2.2.2).1
              have e0 := hbx.cell 0
              have e1 := hbx.cell 1
              have e2 := hbx.cell 2
              have hW : Fr [] w5 [] ((w5.alloc (.cells #[str (cur ts').text, numV l1, numV c1, .iface T (ptrV b)] 160)).alloc (.cells #[ptrV w5.heap.size] 158)) := ((Fr.refl _ _).alloc _).alloc _
              have hA := Lib.hid (next_w HR.out.lex HR.out.row (hF.trans k3) (by decide) hW HR.out.box (by decide))
              have hE : Hid (FsAt (From ((w5.alloc (.cells #[str (cur ts').text, numV l1, numV c1, .iface T (ptrV b)] 160)).alloc (.cells #[ptrV w5.heap.size] 158)) w.heap.size u9.ownBlock) (acc ++ [((cur ts').text, p.1)]) (xs ++ [ptrV w5.heap.size])) := by
                have z4 := hF.kept.size
                exact Lib.hid (FsAt.snoc (hA.out.made _ _ _ ((Bl.new w5 _ _).alloc _) (by decide) (Nat.le_refl _)) (VAt.mono (fun b' cs t k => hA.out.new b' cs t ⟨k.1, k.2.1, Nat.le_trans z4 k.2.2.1, k.2.2.2⟩) _ _ k1) _ _ (FsAt.mono (fun b' cs t k => hA.out.old b' cs t k) _ _ HR.out.el))
              have H5 := Lib.hid (And.intro k2 (And.intro k3 (And.intro hF hW)))
              have hcell : ((w5.alloc (.cells #[str (cur ts').text, numV l1, numV c1, .iface T (ptrV b)] 160)).alloc (.cells #[ptrV w5.heap.size] 158)).cell? ⟨w5.heap.size + 1, 0, none⟩ = some (ptrV w5.heap.size) := by
                simp
              have HCe := Lib.hid hcell
              clear k1 k2 k3 hru hcell hF hW hbx
              go_wp2_with (
                at_builtin
                refine wpList_append_more _ rfl (.tmp 122) (.tmp 127) 155 rfl w.heap.size 158 i0 (.pointer none) 8 Tryz.underlying155 hi hz0 hz1 hz2 rfl u9 acc.length xs rfl hA.out.row.own ⟨w5.heap.size + 1, 0, none⟩ 1 (ptrV w5.heap.size) rfl HCe.out rfl (by unfold FMax at hlen; unfold maxLen; omega) (by unfold FMax at hlen; omega) hA.out.row.le ?_
                intro v' w6 ho hg hfr
                have HG := Lib.hid (And.intro ho (And.intro hg hfr))
                clear ho hg hfr)
              go_roundg k
              case measure => omega
              case rel =>
                obtain ⟨ho, hg, hfr⟩ := HG.out
                obtain ⟨k2, k3, hF, hW⟩ := H5.out
                refine ⟨p.2, acc ++ [((cur ts').text, p.1)], xs ++ [ptrV w5.heap.size], ms5, HP.out.1, ?_, ?_, FsAt.mono (From.step hg hfr) _ _ hE.out, ?_, by have := HR.out.le; simp; omega, ?_⟩
                · exact (k2.quiet hW).row hA.out.row (by decide) H.out.1.base hg
                · have := Grows.step ho hA.out.row.le hg
                  simpa using this
                · exact (((HR.out.fr.trans hF).trans k3).trans (hW.wide (by simp))).grownOut hg (fun k hk => (hA.out.row.row_lt k hk).2.1)
                · exact hA.out.box.grown hg (hA.out.box.off hA.out.row (by decide))
          · have hpu := HC.out.2
            rw [want, if_neg hw] at hpu
            have HC := Lib.hid (And.intro hw hpu)
            clear hw hpu
            refine (lex_tok_err ad g L ms3 _ ts'.tail 58 _ (H3.out.1.alloc _) HC.out.1).mono ?_
            rintro e w4 ⟨m, ms4, d4, ts4, rfl, k1, k2⟩
            refine door_panic k1 (fun w' a b => ?_)
            rw [HC.out.2]
            exact ⟨m, ms4, _, ts4, rfl, a, ((HR.out.fr.trans (H3.out.2.alloc _)).trans k2).trans b⟩
        · have hid : ident ts' = .err := if_neg hi1
          have hpu := HC.out
          rw [hid] at hpu
          have HC := Lib.hid (And.intro hi1 hpu)
          clear hi1 hid hpu
          refine (lex_name_err ad g L ms' _ ts' _ HR.out.lex HC.out.1).mono ?_
          rintro e w4 ⟨m, ms4, d4, ts4, rfl, k1, k2⟩
          refine door_panic k1 (fun w' a b => ?_)
          rw [HC.out.2]
          exact ⟨m, ms4, _, ts4, rfl, a, (HR.out.fr.trans k2).trans b⟩

theorem val_all (ad : Addr) (g : World) (L : Nat) : ∀ f, ∀ k, k ≤ f → VGoal ad g L k := by
  intro f
  induction f with
  | zero =>
    intro k hk c d ts ms w _ _ _ hu
    obtain rfl : k = 0 := by omega
    exact absurd (by rw [pVal]) hu
  | succ f ih =>
    intro k hk
    rcases Nat.lt_or_ge k (f + 1) with h | h
    · exact ih k (by omega)
    obtain rfl : k = f + 1 := by omega
    intro c d ts ms w hd hf hL hu
    have he : pVal (f + 1) c d ts =
      if (cur ts).kind = 36 then (if c then .err else (ident ts.tail).bind fun p => .ok (.var p.1, p.2))
      else if (cur ts).kind = -3 ∨ (cur ts).kind = -4 then .ok (.prim (cur ts).kind (cur ts).text, ts.tail)
      else if (cur ts).kind = -2 then .ok (if (cur ts).text = bNull then .null else .prim (cur ts).kind (cur ts).text, ts.tail)
      else if (cur ts).kind = -6 then .unk
      else if (cur ts).kind = 45 then (if (cur ts.tail).kind = -6 then .unk else .ok (.prim (cur ts.tail).kind (45 :: (cur ts.tail).text), ts.tail.tail))
      else if (cur ts).kind = 91 then (if d + 1 > maxDepth then .err else (pVals f c (d + 1) ts.tail []).bind fun p => .ok (.list p.1, p.2))
      else if (cur ts).kind = 123 then (if d + 1 > maxDepth then .err else (pFields f c (d + 1) ts.tail []).bind fun p => .ok (.obj p.1, p.2))
      else .err := by rw [pVal]
    rw [he] at hu ⊢
    by_cases h1 : (cur ts).kind = 36
    · rw [if_pos h1]
      cases c with
      | true => exact val_var_const ad g L d ts ms w hL h1
      | false => exact val_var ad g L d ts ms w hL h1
    rw [if_neg h1] at hu ⊢
    by_cases h2 : (cur ts).kind = -3 ∨ (cur ts).kind = -4
    · rw [if_pos h2]
      exact val_num ad g L c d ts ms w hL h2
    rw [if_neg h2] at hu ⊢
    by_cases h3 : (cur ts).kind = -2
    · rw [if_pos h3]
      by_cases hn : (cur ts).text = bNull
      · rw [if_pos hn]
        exact val_null ad g L c d ts ms w hL h3 hn
      · rw [if_neg hn, h3]
        exact val_name ad g L c d ts ms w hL h3 hn
    rw [if_neg h3] at hu ⊢
    by_cases h4 : (cur ts).kind = -6
    · rw [if_pos h4] at hu
      exact absurd rfl hu
    rw [if_neg h4] at hu ⊢
    by_cases h5 : (cur ts).kind = 45
    · rw [if_pos h5] at hu ⊢
      by_cases hn : (cur ts.tail).kind = -6
      · rw [if_pos hn] at hu
        exact absurd rfl hu
      · rw [if_neg hn]
        exact val_neg ad g L c d ts ms w hL h5 hn
    rw [if_neg h5] at hu ⊢
    by_cases h6 : (cur ts).kind = 91
    · rw [if_pos h6] at hu ⊢
      by_cases hn : d + 1 > maxDepth
      · rw [if_pos hn]
        exact val_deep ad g L c d ts ms w hL (.inl h6) (by unfold maxDepth at hn; omega) hd
      · rw [if_neg hn] at hu ⊢
        exact val_list ad g L c f d ts ms w ih hL h6 hd (by unfold maxDepth at hn; omega) (by omega) (fun e => hu (by rw [e]; rfl))
    rw [if_neg h6] at hu ⊢
    by_cases h7 : (cur ts).kind = 123
    · rw [if_pos h7] at hu ⊢
      by_cases hn : d + 1 > maxDepth
      · rw [if_pos hn]
        exact val_deep ad g L c d ts ms w hL (.inr h7) (by unfold maxDepth at hn; omega) hd
      · rw [if_neg hn] at hu ⊢
        exact val_obj ad g L c f d ts ms w ih hL h7 hd (by unfold maxDepth at hn; omega) (by omega) (fun e => hu (by rw [e]; rfl))
    rw [if_neg h7]
    exact val_none ad g L c d ts ms w hL ⟨h1, fun e => h2 (.inl e), fun e => h2 (.inr e), h4, h3, h5, h6, h7⟩

end Go.Proofs.YtobiaaabikfglaaGreatDoor
