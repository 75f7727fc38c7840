/-
  The parser of directives by a contract. No conditions but lengths.
-/
import Derived.Test.YtobiaaabikfglaaGreatDoorR12
namespace Go.Proofs.YtobiaaabikfglaaGreatDoor
open Go.RowKit Go.Proofs.YtobiaaabikfglaaGreatDoor.Pq Go.Lib

def DLAt (B : Bk) (ds : List Dir) (x : Value) : Prop := ∃ xs, SlAt B 110 x xs ∧ DsAt B ds xs
def ALAt (B : Bk) (gs : List Arg) (x : Value) : Prop := ∃ xs, SlAt B 161 x xs ∧ AsAt B gs xs

theorem SlAt.shape {B : Bk} {t : TypeId} {x : Value} {xs : List Value} (h : SlAt B t x xs) : ∃ ao l c, x = .slice ao l c := by
  rcases h with ⟨h, _⟩ | ⟨T, cs, cap, h, _⟩ <;> exact ⟨_, _, _, h⟩

def DGoal (ad : Addr) (g : World) (L : Nat) (f : Nat) : Prop := ∀ (d : Nat) (ts : List Tok) (ms : List Nat) (w : World), d ≤ 1000 → f ≤ FMax → LexAt ad g w L ms d ts → pDirs f d ts [] ≠ .unk →
  Calls Tryz.prog 58 #[.pointer (some ⟨L, 0, none⟩)] w (PRes DLAt (pDirs f d ts []) ad g L ms d w)
def AGoal (ad : Addr) (g : World) (L : Nat) (f : Nat) : Prop := ∀ (d : Nat) (ts : List Tok) (ms : List Nat) (w : World), d ≤ 1000 → f ≤ FMax → LexAt ad g w L ms d ts → (cur ts).kind = 40 → pArgs f d ts.tail [] ≠ .unk →
  Calls Tryz.prog 84 #[.pointer (some ⟨L, 0, none⟩)] w (PRes ALAt (pArgs f d ts.tail []) ad g L ms d w)

theorem DsAt.snoc {B : Bk} {d : Dir} {y : Value} (hv : DAt B d y) : ∀ (vs : List Dir) (xs : List Value), DsAt B vs xs → DsAt B (vs ++ [d]) (xs ++ [y])
  | [], xs => fun h => by
    have h : xs = [] := h
    subst h
    exact ⟨y, [], rfl, hv, rfl⟩
  | u :: us, xs => fun ⟨z, zs, h1, h2, h3⟩ => ⟨z, zs ++ [y], by rw [h1]; rfl, h2, DsAt.snoc hv us zs h3⟩

theorem next_made {W : World} {base : Nat} {t : TypeId} {v : Value} {n : Nat} {xs : List Value} {wr : World} (hr : Grows wr base t v n xs) : ∀ b cs t, Bl W b cs t → AstT t → wr.heap.size ≤ b → From W base v.ownBlock b cs t :=
  fun b _ _ k k2 k3 => ⟨k, k2, Nat.le_trans hr.le k3, fun e => by have := (hr.row_lt b e.symm).1; omega⟩

structure NextV (W w3 : World) (base : Nat) (t : TypeId) (v : Value) (n : Nat) (xs : List Value) (wr : World) : Prop where
  row : Grows W base t v n xs
  old : ∀ b cs t, From wr base v.ownBlock b cs t → From W base v.ownBlock b cs t
  new : ∀ b cs t, From w3 wr.heap.size none b cs t → From W base v.ownBlock b cs t

theorem next_v {ad : Addr} {g wr w3 W : World} {L : Nat} {ms ms3 : List Nat} {d : Int} {ts : List Tok} {base : Nat} {t : TypeId} {v : Value} {n : Nat} {xs : List Value} (hl : LexAt ad g wr L ms d ts) (hr : Grows wr base t v n xs) (hf : Fr ms wr ms3 w3) (ht : AstT t) (hW : Fr [] w3 [] W) : NextV W w3 base t v n xs wr :=
  ⟨(hr.lex ht hl hf).fr ht hW, fun _ _ _ k => From.fr hW _ _ _ (hl.keeps hf _ _ _ _ _ k), fun _ _ _ k => From.fr hW _ _ _ (From.new hr.le (fun k hk => (hr.row_lt k hk).1) _ _ _ k)⟩

/-- a store into a block of the parser's own turns no other one -/
theorem From.far {w : World} {base D i : Nat} {v : Value} : ∀ b cs t, From w base none b cs t → D < base → From (w.setCell ⟨D, i, none⟩ v) base none b cs t :=
  fun b _ _ k h => ⟨k.1.far (by have := k.2.2.1; exact fun e => by simp at e; omega) v, k.2⟩

structure DirRel (ad : Addr) (g w : World) (L : Nat) (ms : List Nat) (d : Nat) (f : Nat) (ts0 : List Tok) (k : Nat) (v : Value) (wr : World) (ts : List Tok) (acc : List Dir) (xs : List Value) (ms2 : List Nat) : Prop where
  pure : pDirs f d ts0 [] = pDirs k d ts acc
  lex : LexAt ad g wr L ms2 d ts
  row : Grows wr w.heap.size 110 v acc.length xs
  el : DsAt (From wr w.heap.size v.ownBlock) acc xs
  fr : Fr ms w ms2 wr
  le : acc.length + k ≤ f

set_option maxRecDepth 100000 in
set_option maxHeartbeats 8000000 in
theorem dirs_any (ad : Addr) (g : World) (L : Nat) (f : Nat) (ih : ∀ k, k < f → AGoal ad g L k) : DGoal ad g L f := by
  intro d ts ms w hd hf h hu
  obtain ⟨i0, hi, hz0, hz1, hz2⟩ := info_parts (by kernel_rfl : (Tryz.prog.info? 110).map (fun i => (i.zero, i.size, i.bytes)) = some (some (.pointer none), 1, 8))
  have H := Lib.hid (And.intro h (And.intro hu hf))
  clear h hu hf
  go_enter Tryz.func58, Tryz.ntmps58
  go_wp2_with fail
  go_loopg [3] f (fun k v wr => ∃ ts' acc xs ms', DirRel ad g w L ms d f ts k v wr ts' acc xs ms')
  case atStart => exact ⟨ts, [], [], ms, rfl, H.out.1, Grows.nil _ _, rfl, Fr.refl _ _, by simp⟩
  case round =>
    obtain ⟨ts', acc, xs, ms', hR⟩ := hrel
    have HR := Lib.hid hR
    clear hR
    cases gk with
    | zero =>
      refine absurd ?_ H.out.2.1
      rw [HR.out.pure, pDirs]
    | succ k =>
      have hstep : pDirs (k + 1) d ts' acc = if (cur ts').kind = 64 then
          (ident ts'.tail).bind fun n => if (cur n.2).kind = 40 then (pArgs k d n.2.tail []).bind fun p => pDirs k d p.2 (acc ++ [.mk n.1 p.1]) else pDirs k d n.2 (acc ++ [.mk n.1 []])
        else .ok (acc, ts') := by rw [pDirs]
      have HS := Lib.hid hstep
      clear hstep
      go_wp2_with fail
      refine (lex_peek ad g L ms' _ ts' _ HR.out.lex).mono ?_
      rintro e w' ⟨rfl, rfl⟩
      by_cases hc : (cur ts').kind = 64
      · have d1 : ((cur ts').kind == 64) = true := by rw [hc]; rfl
        have hpu : pDirs f d ts [] = _ := HR.out.pure.trans (HS.out.trans (if_pos hc))
        have HC := Lib.hid (And.intro hc hpu)
        clear hc hpu
        go_wp2_with fail
        refine (lex_tok ad g L ms' _ ts' 64 _ HR.out.lex HC.out.1).mono ?_
        rintro e w3 ⟨rfl, ms3, k1, k2⟩
        have H3 := Lib.hid (And.intro k1 k2)
        clear k1 k2
        go_wp2_with fail
        by_cases hi1 : (cur ts'.tail).kind = -2
        · have hid : ident ts'.tail = .ok ((cur ts'.tail).text, ts'.tail.tail) := if_pos hi1
          have hpu := HC.out.2
          rw [hid] at hpu
          simp only [Res.bind] at hpu
          have HC := Lib.hid (And.intro hi1 hpu)
          clear hi1 hid hpu
          refine (lex_name ad g L ms3 _ ts'.tail _ (H3.out.1.alloc _) HC.out.1).mono ?_
          rintro e w4 ⟨⟨l1, c1, rfl⟩, ms4, k1, k2⟩
          have hb1 := H3.out.1.keep (Bl.new w3 _ _) k2
          have g0 := hb1.1.cell 0
          have g1 := hb1.1.cell 1
          have g2 := hb1.1.cell 2
          have f1 : ∀ o, w4.frozen? ⟨w3.heap.size, o, none⟩ = false := hb1.1.free
          have H4 := Lib.hid (And.intro k1 (And.intro k2 hb1))
          clear k1 k2 hb1
          go_wp2_with fail
          obtain ⟨w5, hw5⟩ : ∃ w5, w5 = (((w4.setCell ⟨w3.heap.size, 0, none⟩ (.string ⟨(cur ts'.tail).text.toArray⟩)).setCell ⟨w3.heap.size, 1, none⟩ (.int .i64 l1)).setCell ⟨w3.heap.size, 2, none⟩ (.int .i64 c1)).setCell ⟨w3.heap.size, 2, none⟩ (.int .i64 (wrap64 (c1 - 1))) := ⟨_, rfl⟩
          rw [← hw5]
          have H5 : Hid (LexAt ad g w5 L ms4 d ts'.tail.tail ∧ Bl w5 w3.heap.size #[str (cur ts'.tail).text, numV l1, numV (wrap64 (c1 - 1)), .slice none 0 0] 114 ∧ Fr ms' wr ms4 w5 ∧ wr.heap.size ≤ w3.heap.size ∧ w3.heap.size < w5.heap.size) := by
            obtain ⟨k1, k2, k3⟩ := H4.out
            have z1 := HR.out.fr.kept.size
            have z2 := H3.out.2.kept.size
            have z3 := k2.kept.size
            have hg := H.out.1.base
            have hz : w5.heap.size = w4.heap.size := by rw [hw5]; simp [World.setCell]
            rw [hz]
            refine Lib.hid ⟨?_, ?_, ?_, z2, by simp at z3; omega⟩
            · rw [hw5]; exact (((k1.poke k3.2 (by omega) _ _).poke k3.2 (by omega) _ _).poke k3.2 (by omega) _ _).poke k3.2 (by omega) _ _
            · rw [hw5]; exact (((k3.1.set 0 _).set 1 _).set 2 _).set 2 _
            · rw [hw5]; exact (((((H3.out.2.alloc _).trans k2).set (.inr z2) _).set (.inr z2) _).set (.inr z2) _).set (.inr z2) _
          clear hw5 g0 g1 g2 f1 H4
          refine (lex_peek ad g L ms4 _ ts'.tail.tail _ H5.out.1).mono ?_
          rintro e w' ⟨rfl, rfl⟩
          by_cases hc : (cur ts'.tail.tail).kind = 40
          · have d1 : ((cur ts'.tail.tail).kind == 40) = true := by rw [hc]; rfl
            have hpu := HC.out.2
            rw [if_pos hc] at hpu
            have HC := Lib.hid (And.intro hc hpu)
            clear hc hpu
            go_wp2_with fail
            obtain ⟨r, hr⟩ : ∃ r, pArgs k d ts'.tail.tail.tail [] = r := ⟨_, rfl⟩
            have hpu := HC.out.2
            rw [hr] at hpu
            have hru : r ≠ .unk := fun e => by rw [hpu, e] at H; exact H.out.2.1 rfl
            have HP := Lib.hid (And.intro hpu hr)
            clear hpu
            refine (ih k (by have := HR.out.le; omega) d ts'.tail.tail ms4 _ hd (by have := HR.out.le; have := H.out.2.2; omega) H5.out.1 HC.out.1 (by rw [hr]; exact hru)).mono ?_
            intro e w6 h6
            rw [hr] at h6
            clear hr
            cases r with
            | unk => exact absurd rfl hru
            | err =>
              obtain ⟨m, ms6, d6, ts6, rfl, k1, k2⟩ := h6
              refine ⟨rfl, ?_⟩
              show PRes _ _ _ _ _ _ _ _ _ _
              rw [HP.out.1]
              exact ⟨m, ms6, _, ts6, rfl, k1, (HR.out.fr.trans H5.out.2.2.1).trans k2⟩
            | ok p =>
            obtain ⟨x, ms6, rfl, ⟨xa, q1, q2⟩, k2, k3⟩ := h6
            obtain ⟨ao, sl, sc, rfl⟩ := q1.shape
            have hD := k3.bl H5.out.2.1 (H5.out.1.out H5.out.2.1 (by decide))
            have g3 := hD.1.cell 3
            have f1 : ∀ o, w6.frozen? ⟨w3.heap.size, o, none⟩ = false := hD.1.free
            have hlen : acc.length + 1 ≤ FMax := by have := HR.out.le; have := H.out.2.2; omega
            have zD := H5.out.2.2.2
            have hF : Fr ms' wr ms6 (w6.setCell ⟨w3.heap.size, 3, none⟩ (.slice ao sl sc)) := (H5.out.2.2.1.trans k3).set (.inr zD.1) _
            obtain ⟨w7, hw7⟩ : ∃ w7, w7 = w6.setCell ⟨w3.heap.size, 3, none⟩ (.slice ao sl sc) := ⟨_, rfl⟩
            have hz7 : w7.heap.size = w6.heap.size := by rw [hw7]; simp [World.setCell]
            have hlex7 : LexAt ad g w7 L ms6 d p.2 := by rw [hw7]; exact k2.poke hD.2 (by have := H.out.1.base; have := HR.out.fr.kept.size; omega) _ _
            have hD7 : Bl w7 w3.heap.size #[str (cur ts'.tail).text, numV l1, numV (wrap64 (c1 - 1)), .slice ao sl sc] 114 := by rw [hw7]; exact hD.1.set 3 _
            rw [← hw7] at hF
            have hW : Fr [] w7 [] (w7.alloc (.cells #[ptrV w3.heap.size] 110)) := (Fr.refl _ _).alloc _
            have hA := Lib.hid (next_v HR.out.lex HR.out.row hF (by decide) hW)
            have hE : Hid (DsAt (From (w7.alloc (.cells #[ptrV w3.heap.size] 110)) w.heap.size u3.ownBlock) (acc ++ [.mk (cur ts'.tail).text p.1]) (xs ++ [ptrV w3.heap.size])) := by
              have hnew : ∀ b cs t, From w6 w5.heap.size none b cs t → From (w7.alloc (.cells #[ptrV w3.heap.size] 110)) w.heap.size u3.ownBlock b cs t := fun b cs t k => by
                have k7 : From w7 w5.heap.size none b cs t := by rw [hw7]; exact From.far b cs t k zD.2
                exact hA.out.new b cs t ⟨k7.1, k7.2.1, by have := k7.2.2.1; omega, k7.2.2.2⟩
              have hd : DAt (From (w7.alloc (.cells #[ptrV w3.heap.size] 110)) w.heap.size u3.ownBlock) (.mk (cur ts'.tail).text p.1) (ptrV w3.heap.size) :=
                ⟨w3.heap.size, _, xa, _, _, rfl, next_made HR.out.row _ _ _ (hD7.alloc _) (by decide) zD.1, q1.mono hnew, AsAt.mono hnew _ _ q2⟩
              exact Lib.hid (DsAt.snoc hd _ _ (DsAt.mono (fun b' cs t k => hA.out.old b' cs t k) _ _ HR.out.el))
            have H7 := Lib.hid (And.intro hlex7 hF)
            have hcell : (w7.alloc (.cells #[ptrV w3.heap.size] 110)).cell? ⟨w7.heap.size, 0, none⟩ = some (ptrV w3.heap.size) := (Bl.new w7 _ _).cell 0
            have HCe := Lib.hid hcell
            rw [hz7] at HCe
            rw [hw7] at hA HCe hE
            clear k2 k3 q1 q2 hru hcell hF hW hD hlex7 hD7 zD hz7
            go_wp2_with (
              at_builtin
              refine wpList_append_more _ rfl (.tmp 36) (.tmp 38) 55 rfl w.heap.size 110 i0 (.pointer none) 8 Tryz.underlying55 hi hz0 hz1 hz2 rfl u3 acc.length xs rfl hA.out.row.own ⟨w6.heap.size, 0, none⟩ 1 (ptrV w3.heap.size) rfl HCe.out rfl (by unfold FMax at hlen; unfold maxLen; omega) (by unfold FMax at hlen; omega) hA.out.row.le ?_
              intro v' w8 ho hg hfr
              have HG := Lib.hid (And.intro ho (And.intro hg hfr))
              clear ho hg hfr)
            go_roundg k
            case measure => omega
            case rel =>
              obtain ⟨ho, hg, hfr⟩ := HG.out
              obtain ⟨k2, hF⟩ := H7.out
              rw [hw7] at k2 hF
              have hW : Fr [] (w6.setCell ⟨w3.heap.size, 3, none⟩ (.slice ao sl sc)) [] ((w6.setCell ⟨w3.heap.size, 3, none⟩ (.slice ao sl sc)).alloc (.cells #[ptrV w3.heap.size] 110)) := (Fr.refl _ _).alloc _
              refine ⟨p.2, acc ++ [.mk (cur ts'.tail).text p.1], xs ++ [ptrV w3.heap.size], ms6, HP.out.1, ?_, ?_, DsAt.mono (From.step hg hfr) _ _ hE.out, ?_, by have := HR.out.le; simp; omega⟩
              · exact (k2.quiet hW).row hA.out.row (by decide) H.out.1.base hg
              · have := Grows.step ho hA.out.row.le hg
                simpa using this
              · exact ((HR.out.fr.trans hF).trans (hW.wide (by simp))).grownOut hg (fun k hk => (hA.out.row.row_lt k hk).2.1)
          · have d1 : ((cur ts'.tail.tail).kind == 40) = false := by simpa using hc
            have hpu := HC.out.2
            rw [if_neg hc] at hpu
            have HC := Lib.hid (And.intro hc hpu)
            clear hc hpu
            have hlen : acc.length + 1 ≤ FMax := by have := HR.out.le; have := H.out.2.2; omega
            have zD := H5.out.2.2.2
            have hW : Fr [] w5 [] (w5.alloc (.cells #[ptrV w3.heap.size] 110)) := (Fr.refl _ _).alloc _
            have hA := Lib.hid (next_v HR.out.lex HR.out.row H5.out.2.2.1 (by decide) hW)
            have hE : Hid (DsAt (From (w5.alloc (.cells #[ptrV w3.heap.size] 110)) w.heap.size u3.ownBlock) (acc ++ [.mk (cur ts'.tail).text []]) (xs ++ [ptrV w3.heap.size])) := by
              have hd : DAt (From (w5.alloc (.cells #[ptrV w3.heap.size] 110)) w.heap.size u3.ownBlock) (.mk (cur ts'.tail).text []) (ptrV w3.heap.size) :=
                ⟨w3.heap.size, _, [], _, _, rfl, next_made HR.out.row _ _ _ (H5.out.2.1.alloc _) (by decide) zD.1, .inl ⟨rfl, rfl⟩, rfl⟩
              exact Lib.hid (DsAt.snoc hd _ _ (DsAt.mono (fun b' cs t k => hA.out.old b' cs t k) _ _ HR.out.el))
            have hcell : (w5.alloc (.cells #[ptrV w3.heap.size] 110)).cell? ⟨w5.heap.size, 0, none⟩ = some (ptrV w3.heap.size) := (Bl.new w5 _ _).cell 0
            have HCe := Lib.hid hcell
            clear hcell hW zD
            go_wp2_with (
              at_builtin
              refine wpList_append_more _ rfl (.tmp 36) (.tmp 38) 55 rfl w.heap.size 110 i0 (.pointer none) 8 Tryz.underlying55 hi hz0 hz1 hz2 rfl u3 acc.length xs rfl hA.out.row.own ⟨w5.heap.size, 0, none⟩ 1 (ptrV w3.heap.size) rfl HCe.out rfl (by unfold FMax at hlen; unfold maxLen; omega) (by unfold FMax at hlen; omega) hA.out.row.le ?_
              intro v' w8 ho hg hfr
              have HG := Lib.hid (And.intro ho (And.intro hg hfr))
              clear ho hg hfr)
            go_roundg k
            case measure => omega
            case rel =>
              obtain ⟨ho, hg, hfr⟩ := HG.out
              have hW : Fr [] w5 [] (w5.alloc (.cells #[ptrV w3.heap.size] 110)) := (Fr.refl _ _).alloc _
              refine ⟨ts'.tail.tail, acc ++ [.mk (cur ts'.tail).text []], xs ++ [ptrV w3.heap.size], ms4, HC.out.2, ?_, ?_, DsAt.mono (From.step hg hfr) _ _ hE.out, ?_, by have := HR.out.le; simp; omega⟩
              · exact (H5.out.1.quiet hW).row hA.out.row (by decide) H.out.1.base hg
              · have := Grows.step ho hA.out.row.le hg
                simpa using this
              · exact ((HR.out.fr.trans H5.out.2.2.1).trans (hW.wide (by simp))).grownOut hg (fun k hk => (hA.out.row.row_lt k hk).2.1)
        · have hid : ident ts'.tail = .err := if_neg hi1
          have hpu := HC.out.2
          rw [hid] at hpu
          have HC := Lib.hid (And.intro hi1 hpu)
          clear hi1 hid hpu
          refine (lex_name_err ad g L ms3 _ ts'.tail _ (H3.out.1.alloc _) HC.out.1).mono ?_
          rintro e w4 ⟨m, ms4, d4, ts4, rfl, k1, k2⟩
          refine ⟨rfl, ?_⟩
          show PRes _ _ _ _ _ _ _ _ _ _
          rw [HC.out.2]
          exact ⟨m, ms4, _, ts4, rfl, k1, (HR.out.fr.trans (H3.out.2.alloc _)).trans k2⟩
      · have d1 : ((cur ts').kind == 64) = false := by simpa using hc
        have hpu : pDirs f d ts [] = _ := HR.out.pure.trans (HS.out.trans (if_neg hc))
        have HC := Lib.hid hpu
        clear hc hpu
        obtain ⟨ao, sl, sc, rfl⟩ := HR.out.row.shape
        go_wp2_with fail
        go_ret
        rw [HC.out]
        exact ⟨_, ms', rfl, ⟨xs, HR.out.row.at_ (by decide), DsAt.mono (fun _ _ _ k => ⟨k.1, k.2.1, k.2.2.1, by simp⟩) _ _ HR.out.el⟩, HR.out.lex, HR.out.fr⟩

end Go.Proofs.YtobiaaabikfglaaGreatDoor

/-
  The parser of arguments by a contract; directives and arguments together. No conditions but lengths.
-/
namespace Go.Proofs.YtobiaaabikfglaaGreatDoor
open Go.RowKit Go.Proofs.YtobiaaabikfglaaGreatDoor.Pq Go.Lib

theorem AsAt.snoc {B : Bk} {n : Bs} {v : Val} {ds : List Dir} {b : Nat} {l c : Int} {y sl : Value} {zs : List Value} (hb : B b #[str n, numV l, numV c, y, sl] 163) (hv : VAt B v y) (hs : SlAt B 110 sl zs) (hd : DsAt B ds zs) :
    ∀ (fs : List Arg) (xs : List Value), AsAt B fs xs → AsAt B (fs ++ [(n, v, ds)]) (xs ++ [ptrV b])
  | [], xs => fun h => by
    have h : xs = [] := h
    subst h
    exact ⟨b, l, c, y, sl, zs, [], rfl, hb, hv, hs, hd, rfl⟩
  | (m, u, es) :: us, xs => fun ⟨b2, l2, c2, z, s2, z2, zs2, h1, h2, h3, h4, h5, h6⟩ => ⟨b2, l2, c2, z, s2, z2, zs2 ++ [ptrV b], by rw [h1]; rfl, h2, h3, h4, h5, AsAt.snoc hb hv hs hd us zs2 h6⟩

structure ArgRel (ad : Addr) (g w : World) (L : Nat) (ms : List Nat) (d : Nat) (f : Nat) (ts0 : List Tok) (k : Nat) (v : Value) (wr : World) (ts : List Tok) (acc : List Arg) (xs : List Value) (ms2 : List Nat) : Prop where
  pure : pArgs f d ts0 [] = pArgs k d ts acc
  lex : LexAt ad g wr L ms2 d ts
  row : Grows wr w.heap.size 161 v acc.length xs
  el : AsAt (From wr w.heap.size v.ownBlock) acc xs
  fr : Fr ms w ms2 wr
  le : acc.length + k ≤ f

set_option maxRecDepth 100000 in
set_option maxHeartbeats 8000000 in
theorem args_any (ad : Addr) (g : World) (L : Nat) (f : Nat) (ihv : ∀ k, VGoal ad g L k) (ih : ∀ k, k < f → DGoal ad g L k) : AGoal ad g L f := by
  intro d ts ms w hd hf h hk hu
  obtain ⟨i0, hi, hz0, hz1, hz2⟩ := info_parts (by kernel_rfl : (Tryz.prog.info? 161).map (fun i => (i.zero, i.size, i.bytes)) = some (some (.pointer none), 1, 8))
  have H := Lib.hid (And.intro h (And.intro hu (And.intro hf hk)))
  clear h hu hf hk
  go_enter Tryz.func84, Tryz.ntmps84
  go_wp2_with fail
  refine (lex_tok ad g L ms _ ts 40 _ H.out.1 H.out.2.2.2).mono ?_
  rintro e w1 ⟨rfl, ms1, k1, k2⟩
  have H1 := Lib.hid (And.intro k1 k2)
  clear k1 k2
  go_wp2_with fail
  go_loopg [3] f (fun k v wr => ∃ ts' acc xs ms', ArgRel ad g w L ms d f ts.tail k v wr ts' acc xs ms')
  case atStart => exact ⟨ts.tail, [], [], ms1, rfl, H1.out.1, ⟨World.ownsRow_nil _ _ _ 1, H1.out.2.kept.size⟩, rfl, H1.out.2, by simp⟩
  case round =>
    clear H1
    obtain ⟨ts', acc, xs, ms', hR⟩ := hrel
    have HR := Lib.hid hR
    clear hR
    cases gk with
    | zero =>
      refine absurd ?_ H.out.2.1
      rw [HR.out.pure, pArgs]
    | succ k =>
      have hstep : pArgs (k + 1) d ts' acc = if (cur ts').kind = 41 then .ok (acc, ts'.tail) else (ident ts').bind fun n => (want 58 n.2).bind fun t1 => (pVal k false d t1).bind fun p => (pDirs k d p.2 []).bind fun q => pArgs k d q.2 (acc ++ [(n.1, p.1, q.1)]) := by rw [pArgs]
      have HS := Lib.hid hstep
      clear hstep
      go_wp2_with fail
      refine (lex_peek ad g L ms' _ ts' _ HR.out.lex).mono ?_
      rintro e w' ⟨rfl, rfl⟩
      by_cases hc : (cur ts').kind = 41
      · have d1 : ((cur ts').kind != 41) = false := by simpa using hc
        have HC := Lib.hid hc
        clear hc
        obtain ⟨ao, sl, sc, rfl⟩ := HR.out.row.shape
        go_wp2_with fail
        refine (lex_tok ad g L ms' _ ts' 41 _ HR.out.lex HC.out).mono ?_
        rintro e w3 ⟨rfl, ms3, k2, k3⟩
        have H3 := Lib.hid (And.intro k2 k3)
        clear k2 k3
        go_wp2_with fail
        go_ret
        have hpu : pArgs f d ts.tail [] = .ok (acc, ts'.tail) := by rw [HR.out.pure, HS.out, if_pos HC.out]
        rw [hpu]
        refine ⟨_, ms3, rfl, ⟨xs, (HR.out.row.lex (by decide) HR.out.lex H3.out.2).at_ (by decide), ?_⟩, H3.out.1, HR.out.fr.trans H3.out.2⟩
        refine AsAt.mono (fun b' cs t k => ?_) _ _ HR.out.el
        have k2 := HR.out.lex.keeps H3.out.2 _ _ _ _ _ k
        exact ⟨k2.1, k2.2.1, k2.2.2.1, by simp⟩
      · have d1 : ((cur ts').kind != 41) = true := by simpa using hc
        have hpu : pArgs f d ts.tail [] = (ident ts').bind fun n => (want 58 n.2).bind fun t1 => (pVal k false d t1).bind fun p => (pDirs k d p.2 []).bind fun q => pArgs k d q.2 (acc ++ [(n.1, p.1, q.1)]) := by rw [HR.out.pure, HS.out, if_neg hc]
        have HC := Lib.hid hpu
        clear hc hpu
        go_wp2_with fail
        by_cases hi1 : (cur ts').kind = -2
        · have hid : ident ts' = .ok ((cur ts').text, ts'.tail) := if_pos hi1
          have hpu := HC.out
          rw [hid] at hpu
          simp only [Res.bind] at hpu
          have HC := Lib.hid (And.intro hi1 hpu)
          clear hi1 hid hpu
          refine (lex_name ad g L ms' _ ts' _ HR.out.lex HC.out.1).mono ?_
          rintro e w3 ⟨⟨l1, c1, rfl⟩, ms3, k1, k2⟩
          have H3 := Lib.hid (And.intro k1 k2)
          clear k1 k2
          go_wp2_with fail
          by_cases hw : (cur ts'.tail).kind = 58
          · have hpu := HC.out.2
            rw [want, if_pos hw] at hpu
            simp only at hpu
            have HC := Lib.hid (And.intro hw hpu)
            clear hw hpu
            refine (lex_tok ad g L ms3 _ ts'.tail 58 _ (H3.out.1.alloc _) HC.out.1).mono ?_
            rintro e w4 ⟨rfl, ms4, k1, k2⟩
            have hb1 := H3.out.1.keep (Bl.new w3 _ _) k2
            have H4 := Lib.hid (And.intro k1 (And.intro k2 hb1))
            clear k1 k2 hb1
            go_wp2_with fail
            obtain ⟨r, hr⟩ : ∃ r, pVal k false d ts'.tail.tail = r := ⟨_, rfl⟩
            have hpu := HC.out.2
            rw [hr] at hpu
            have hru : r ≠ .unk := fun e => by rw [hpu, e] at H; exact H.out.2.1 rfl
            have HP := Lib.hid (And.intro hpu hr)
            clear hpu
            refine (ihv k false d ts'.tail.tail ms4 _ hd (by have := HR.out.le; have := H.out.2.2.1; omega) H4.out.1 (by rw [hr]; exact hru)).mono ?_
            intro e w5 h5
            rw [hr] at h5
            clear hr
            have hF : Fr ms' wr ms4 w4 := (H3.out.2.alloc _).trans H4.out.2.1
            cases r with
            | unk => exact absurd rfl hru
            | err =>
              obtain ⟨m, ms5, d5, ts5, rfl, k1, k2⟩ := h5
              refine ⟨rfl, ?_⟩
              show PRes _ _ _ _ _ _ _ _ _ _
              rw [HP.out.1]
              exact ⟨m, ms5, _, ts5, rfl, k1, (HR.out.fr.trans hF).trans k2⟩
            | ok p =>
              obtain ⟨x, ms5, rfl, k1, k2, k3⟩ := h5
              obtain ⟨T, b, rfl⟩ := k1.shape
              have hbx := k3.bl H4.out.2.2.1 H4.out.2.2.2
              have H5 := Lib.hid (And.intro k1 (And.intro k2 (And.intro (hF.trans k3) (And.intro hbx hF.kept.size))))
              clear k1 k2 k3 hru hF hbx
              go_wp2_with fail
              obtain ⟨r2, hr2⟩ : ∃ r2, pDirs k d p.2 [] = r2 := ⟨_, rfl⟩
              have hpu := HP.out.1
              try simp only [Res.bind] at hpu
              rw [hr2] at hpu
              have hru : r2 ≠ .unk := fun e => by rw [hpu, e] at H; exact H.out.2.1 rfl
              have HP := Lib.hid (And.intro hpu hr2)
              clear hpu
              refine (ih k (by have := HR.out.le; omega) d p.2 ms5 _ hd (by have := HR.out.le; have := H.out.2.2.1; omega) H5.out.2.1 (by rw [hr2]; exact hru)).mono ?_
              intro e w6 h6
              rw [hr2] at h6
              clear hr2
              cases r2 with
              | unk => exact absurd rfl hru
              | err =>
                obtain ⟨m, ms6, d6, ts6, rfl, k1, k2⟩ := h6
                refine ⟨rfl, ?_⟩
                show PRes _ _ _ _ _ _ _ _ _ _
                rw [HP.out.1]
                exact ⟨m, ms6, _, ts6, rfl, k1, (HR.out.fr.trans H5.out.2.2.1).trans k2⟩
              | ok q =>
                obtain ⟨y, ms6, rfl, ⟨zs, q1, q2⟩, k2, k3⟩ := h6
                obtain ⟨ao, sl, sc, rfl⟩ := q1.shape
                have hlen : acc.length + 1 ≤ FMax := by have := HR.out.le; have := H.out.2.2.1; omega
                have hbx := (k3.bl H5.out.2.2.2.1.1 H5.out.2.2.2.1.2).1
                have e0 := hbx.cell 0
                have e1 := hbx.cell 1
                have e2 := hbx.cell 2
                have hF : Fr ms' wr ms6 w6 := H5.out.2.2.1.trans k3
                have hW : Fr [] w6 [] ((w6.alloc (.cells #[str (cur ts').text, numV l1, numV c1, .iface T (ptrV b), .slice ao sl sc] 163)).alloc (.cells #[ptrV w6.heap.size] 161)) := ((Fr.refl _ _).alloc _).alloc _
                have hA := Lib.hid (next_v HR.out.lex HR.out.row hF (by decide) hW)
                have hE : Hid (AsAt (From ((w6.alloc (.cells #[str (cur ts').text, numV l1, numV c1, .iface T (ptrV b), .slice ao sl sc] 163)).alloc (.cells #[ptrV w6.heap.size] 161)) w.heap.size u3.ownBlock) (acc ++ [((cur ts').text, p.1, q.1)]) (xs ++ [ptrV w6.heap.size])) := by
                  have z5 := H5.out.2.2.1.kept.size
                  have z4 := H5.out.2.2.2.2
                  have hnew : ∀ b cs t, From w6 w5.heap.size none b cs t → _ := fun b cs t k => hA.out.new b cs t ⟨k.1, k.2.1, Nat.le_trans z5 k.2.2.1, k.2.2.2⟩
                  have hv := VAt.mono (fun b' cs t k => hA.out.new b' cs t (H5.out.2.1.keeps k3 _ _ _ _ _ ⟨k.1, k.2.1, Nat.le_trans z4 k.2.2.1, k.2.2.2⟩)) _ _ H5.out.1
                  exact Lib.hid (AsAt.snoc (next_made HR.out.row _ _ _ ((Bl.new w6 _ _).alloc _) (by decide) hF.kept.size) hv (q1.mono hnew) (DsAt.mono hnew _ _ q2) _ _ (AsAt.mono (fun b' cs t k => hA.out.old b' cs t k) _ _ HR.out.el))
                have H6 := Lib.hid (And.intro k2 (And.intro hF hW))
                have hcell : ((w6.alloc (.cells #[str (cur ts').text, numV l1, numV c1, .iface T (ptrV b), .slice ao sl sc] 163)).alloc (.cells #[ptrV w6.heap.size] 161)).cell? ⟨w6.heap.size + 1, 0, none⟩ = some (ptrV w6.heap.size) := by
                  simp
                have HCe := Lib.hid hcell
                clear k2 k3 hru hcell hF hW hbx q1 q2
                go_wp2_with (
                  at_builtin
                  refine wpList_append_more _ rfl (.tmp 20) (.tmp 26) 112 rfl w.heap.size 161 i0 (.pointer none) 8 Tryz.underlying112 hi hz0 hz1 hz2 rfl u3 acc.length xs rfl hA.out.row.own ⟨w6.heap.size + 1, 0, none⟩ 1 (ptrV w6.heap.size) rfl HCe.out rfl (by unfold FMax at hlen; unfold maxLen; omega) (by unfold FMax at hlen; omega) hA.out.row.le ?_
                  intro v' w7 ho hg hfr
                  have HG := Lib.hid (And.intro ho (And.intro hg hfr))
                  clear ho hg hfr)
                go_roundg k
                case measure => omega
                case rel =>
                  obtain ⟨ho, hg, hfr⟩ := HG.out
                  obtain ⟨k2, hF, hW⟩ := H6.out
                  refine ⟨q.2, acc ++ [((cur ts').text, p.1, q.1)], xs ++ [ptrV w6.heap.size], ms6, HP.out.1, ?_, ?_, AsAt.mono (From.step hg hfr) _ _ hE.out, ?_, by have := HR.out.le; simp; omega⟩
                  · exact (k2.quiet hW).row hA.out.row (by decide) H.out.1.base hg
                  · have := Grows.step ho hA.out.row.le hg
                    simpa using this
                  · exact ((HR.out.fr.trans hF).trans (hW.wide (by simp))).grownOut hg (fun k hk => (hA.out.row.row_lt k hk).2.1)
          · have hpu := HC.out.2
            rw [want, if_neg hw] at hpu
            have HC := Lib.hid (And.intro hw hpu)
            clear hw hpu
            refine (lex_tok_err ad g L ms3 _ ts'.tail 58 _ (H3.out.1.alloc _) HC.out.1).mono ?_
            rintro e w4 ⟨m, ms4, d4, ts4, rfl, k1, k2⟩
            refine ⟨rfl, ?_⟩
            show PRes _ _ _ _ _ _ _ _ _ _
            rw [HC.out.2]
            exact ⟨m, ms4, _, ts4, rfl, k1, (HR.out.fr.trans (H3.out.2.alloc _)).trans k2⟩
        · have hid : ident ts' = .err := if_neg hi1
          have hpu := HC.out
          rw [hid] at hpu
          have HC := Lib.hid (And.intro hi1 hpu)
          clear hi1 hid hpu
          refine (lex_name_err ad g L ms' _ ts' _ HR.out.lex HC.out.1).mono ?_
          rintro e w4 ⟨m, ms4, d4, ts4, rfl, k1, k2⟩
          refine ⟨rfl, ?_⟩
          show PRes _ _ _ _ _ _ _ _ _ _
          rw [HC.out.2]
          exact ⟨m, ms4, _, ts4, rfl, k1, HR.out.fr.trans k2⟩

theorem vgoal (ad : Addr) (g : World) (L : Nat) (f : Nat) : VGoal ad g L f := val_all ad g L f f (Nat.le_refl _)

theorem da_all (ad : Addr) (g : World) (L : Nat) : ∀ f, ∀ k, k < f → DGoal ad g L k ∧ AGoal ad g L k := by
  intro f
  induction f with
  | zero => intro k hk; omega
  | succ f ih =>
    intro k hk
    rcases Nat.lt_or_ge k f with h | h
    · exact ih k h
    obtain rfl : k = f := by omega
    exact ⟨dirs_any ad g L k (fun j hj => (ih j hj).2), args_any ad g L k (vgoal ad g L) (fun j hj => (ih j hj).1)⟩

theorem dgoal (ad : Addr) (g : World) (L : Nat) (f : Nat) : DGoal ad g L f := (da_all ad g L (f + 1) f (Nat.lt_succ_self _)).1
theorem agoal (ad : Addr) (g : World) (L : Nat) (f : Nat) : AGoal ad g L f := (da_all ad g L (f + 1) f (Nat.lt_succ_self _)).2

end Go.Proofs.YtobiaaabikfglaaGreatDoor
