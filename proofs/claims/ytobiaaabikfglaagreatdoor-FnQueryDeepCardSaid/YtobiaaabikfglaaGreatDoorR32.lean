/-
  impl.ParseQuery by a contract. No conditions but lengths.
-/
import Derived.Test.YtobiaaabikfglaaGreatDoorR31
namespace Go.Proofs.YtobiaaabikfglaaGreatDoor
open Go.RowKit Go.Proofs.YtobiaaabikfglaaGreatDoor.Pq Go.Lib

def PqRes (r : Res Doc) (w : World) (e : Ending) (w' : World) : Prop :=
  match r with
  | .ok p => ∃ cs : List Value, e = .returned (.tuple #[.agg cs.toArray, .agg #[numV 0, numV 0], .bool true]) ∧ IdocAt (CN w' w.heap.size none) (cDoc p) cs ∧ Below w.heap.size w w'
  | .err => ∃ l c, e = .returned (.tuple #[.agg #[.slice none 0 0, .slice none 0 0], .agg #[numV l, numV c], .bool false]) ∧ Below w.heap.size w w'
  | .unk => True

theorem str_opType (k : Nat) : (k = 2 ∧ opType k = [77, 85, 84, 65, 84, 73, 79, 78]) ∨ (k ≠ 2 ∧ k = 3 ∧ opType k = [83, 85, 66, 83, 67, 82, 73, 80, 84, 73, 79, 78]) ∨ (k ≠ 2 ∧ k ≠ 3 ∧ opType k = [81, 85, 69, 82, 89]) := by
  by_cases h2 : k = 2
  · exact .inl ⟨h2, by rw [h2]; rfl⟩
  by_cases h3 : k = 3
  · exact .inr (.inl ⟨h2, h3, by rw [h3]; rfl⟩)
  · exact .inr (.inr ⟨h2, h3, by unfold opType; rw [if_neg h2, if_neg h3]⟩)

set_option maxRecDepth 100000 in
set_option maxHeartbeats 16000000 in
theorem pq_any (s : ByteArray) (r : Res Doc) (w : World) (hp : ∀ W, Below w.heap.size w W → Calls Tryz.prog 7 #[.string s] W (PrsRes r W)) (hu : r ≠ .unk) (hsm : ∀ p, r = .ok p → DocSm FMax p) :
    Calls Tryz.prog 5 #[.string s] w (PqRes r w) := by
  obtain ⟨i0, hi, hz0, hz1, hz2⟩ := info_parts (by kernel_rfl : (Tryz.prog.info? 65).map (fun i => (i.zero, i.size, i.bytes)) = some (some (.agg #[.int .i64 0, .string ⟨#[]⟩, .string ⟨#[]⟩, .slice none 0 0, .slice none 0 0, .slice none 0 0]), 6, 112))
  obtain ⟨j0, ji, jz0, jz1, jz2⟩ := info_parts (by kernel_rfl : (Tryz.prog.info? 74).map (fun i => (i.zero, i.size, i.bytes)) = some (some (.agg #[.string ⟨#[]⟩, .string ⟨#[]⟩, .string ⟨#[]⟩, .slice none 0 0, .slice none 0 0]), 5, 96))
  obtain ⟨W, hW⟩ : ∃ W, W = (w.alloc (.cells #[.slice none 0 0, .slice none 0 0] 27)).alloc (.cells #[numV 0, numV 0] 29) := ⟨_, rfl⟩
  have hbW : Below w.heap.size w W := by rw [hW]; exact ((Below.refl _ _).alloc (Nat.le_refl _) _).alloc (by simp) _
  have hzW : W.heap.size = w.heap.size + 2 := by rw [hW]; simp
  have hb0 : Bl W w.heap.size #[.slice none 0 0, .slice none 0 0] 27 := by rw [hW]; exact (Bl.new w _ _).alloc _
  have hb1 : Bl W (w.heap.size + 1) #[numV 0, numV 0] 29 := by
    rw [hW]
    have := Bl.new (w.alloc (.cells #[.slice none 0 0, .slice none 0 0] 27)) #[numV 0, numV 0] 29
    simpa using this
  have H := Lib.hid (And.intro (hp W hbW) (And.intro hbW (And.intro hb0 (And.intro hb1 (And.intro hu (And.intro hsm hzW))))))
  clear hbW hb0 hb1 hp hu hsm hzW
  go_enter Tryz.func5, Tryz.ntmps5
  go_wp2_with fail
  rw [← hW]
  clear hW
  refine H.out.1.mono ?_
  intro e w2 h1
  cases r with
  | unk => exact absurd rfl H.out.2.2.2.2.1
  | err =>
    obtain ⟨l, c, rfl, c3⟩ := h1
    have b0 := H.out.2.2.1.below c3 H.out.2.2.1.lt
    have b1 := H.out.2.2.2.1.below c3 H.out.2.2.2.1.lt
    have e1 : w2.cell? ⟨w.heap.size + 1, 0, none⟩ = some (numV 0) := b1.cell 0
    have e2 : w2.cell? ⟨w.heap.size + 1, 1, none⟩ = some (numV 0) := b1.cell 1
    have f1 : ∀ o, w2.frozen? ⟨w.heap.size + 1, o, none⟩ = false := b1.free
    have hB := H.out.2.1.trans (c3.mono H.out.2.1.size)
    have H2 := Lib.hid (And.intro b0 (And.intro b1 hB))
    clear b0 b1 c3 hB
    go_wp2_with fail
    obtain ⟨b0, b1, hB⟩ := H2.out
    obtain ⟨W6, hW6⟩ : ∃ W6, W6 = (w2.setCell ⟨w.heap.size + 1, 0, none⟩ (numV l)).setCell ⟨w.heap.size + 1, 1, none⟩ (numV c) := ⟨_, rfl⟩
    have d0 : Bl W6 w.heap.size #[.slice none 0 0, .slice none 0 0] 27 := by rw [hW6]; exact (b0.far (by simp) _).far (by simp) _
    have d1 : Bl W6 (w.heap.size + 1) #[numV l, numV c] 29 := by rw [hW6]; exact (b1.set 0 _).set 1 _
    have dF : Fr [w.heap.size, w.heap.size + 1] w2 [w.heap.size, w.heap.size + 1] W6 := by rw [hW6]; exact ((Fr.refl _ _).set (.inl (by simp)) _).set (.inl (by simp)) _
    rw [← hW6]
    clear hW6 e1 e2 f1
    have a0 : W6.cell? ⟨w.heap.size, 0, none⟩ = some (.slice none 0 0) := d0.cell 0
    have a1 : W6.cell? ⟨w.heap.size, 1, none⟩ = some (.slice none 0 0) := d0.cell 1
    have a2 : W6.cell? ⟨w.heap.size + 1, 0, none⟩ = some (numV l) := d1.cell 0
    have a3 : W6.cell? ⟨w.heap.size + 1, 1, none⟩ = some (numV c) := d1.cell 1
    have f0 : ∀ o, W6.frozen? ⟨w.heap.size, o, none⟩ = false := d0.free
    have f1 : ∀ o, W6.frozen? ⟨w.heap.size + 1, o, none⟩ = false := d1.free
    have H6 := Lib.hid (And.intro d0 (And.intro d1 (And.intro dF hB)))
    clear d0 d1 dF hB b0 b1
    go_region
    all_goals
      go_wp2_with fail
      refine bodyPost_ret (v := .tuple #[.agg #[.slice none 0 0, .slice none 0 0], .agg #[numV l, numV c], .bool false]) (by simp [results, Tryz.results5, go_sem, a0, a1, a2, a3]) rfl ?_
      refine ⟨l, c, rfl, ?_⟩
      refine H6.out.2.2.2.trans (Below.trans (H6.out.2.2.1.to_below H6.out.2.2.2.size (by simp)) ?_)
      exact (((((Fr.refl [w.heap.size, w.heap.size + 1] W6).set (.inl (by simp)) _).set (.inl (by simp)) _).set (.inl (by simp)) _).set (.inl (by simp)) _).drew.to_below (Nat.le_trans H6.out.2.2.2.size H6.out.2.2.1.kept.size) (by simp)
  | ok p =>
    obtain ⟨x, rfl, c1, c3⟩ := h1
    obtain ⟨b, so, xo, sf, xf, rfl, q1, q2, q3, q4, q5⟩ := c1
    rw [H.out.2.2.2.2.2.2] at q1 q2 q3 q4 q5
    obtain ⟨ao, capo, rfl, ho1, ho2, hro⟩ := q2.readB
    obtain ⟨af, capf, rfl, hf1, hf2, hrf⟩ := q4.readB
    have b0 := H.out.2.2.1.below c3 H.out.2.2.1.lt
    have b1 := H.out.2.2.2.1.below c3 H.out.2.2.2.1.lt
    have e1 : w2.cell? ⟨w.heap.size + 1, 0, none⟩ = some (numV 0) := b1.cell 0
    have e2 : w2.cell? ⟨w.heap.size + 1, 1, none⟩ = some (numV 0) := b1.cell 1
    have f1 : ∀ o, w2.frozen? ⟨w.heap.size + 1, o, none⟩ = false := b1.free
    have x0 : w2.cell? ⟨b, 0, none⟩ = some (.slice ao xo.length capo) := q1.1.cell 0
    have x1 : w2.cell? ⟨b, 1, none⟩ = some (.slice af xf.length capf) := q1.1.cell 1
    have hnb : ¬ w.heap.size + 1 = b := by have := q1.2.2.1; omega
    have hoc : (xo.length : Int) ≤ 9223372036854775807 := by unfold maxLen at ho2; omega
    have hfc : (xf.length : Int) ≤ 9223372036854775807 := by unfold maxLen at hf2; omega
    have hB := H.out.2.1.trans (c3.mono H.out.2.1.size)
    have hl0 : w.heap.size + 2 ≤ w2.heap.size := by have := c3.size; have := H.out.2.2.2.2.2.2; omega
    have hdoc := H.out.2.2.2.2.2.1 p rfl
    have H2 := Lib.hid (And.intro b0 (And.intro b1 (And.intro hB (And.intro hl0 (And.intro hdoc (And.intro q1 (And.intro q3 (And.intro q5 (And.intro hro hrf)))))))))
    clear b0 b1 c3 hB hl0 hdoc q1 q2 q3 q4 q5 hro hrf ho1 ho2 hf1 hf2
    go_wp2_with fail
    obtain ⟨W6, hW6⟩ : ∃ W6, W6 = (w2.setCell ⟨w.heap.size + 1, 0, none⟩ (numV 0)).setCell ⟨w.heap.size + 1, 1, none⟩ (numV 0) := ⟨_, rfl⟩
    rw [← hW6]
    have qb : Bl W6 b #[.slice ao xo.length capo, .slice af xf.length capf] 43 := by rw [hW6]; exact (H2.out.2.2.2.2.2.1.1.far (by simp; omega) _).far (by simp; omega) _
    have hR0 : DRel OpsAt IosAt cOp (OpSm FMax) 65 6 (fun _ => True) (fun v => #[v, .slice none 0 0]) w w2 xo.length xo (p.ops.map cOp) xo.length (.int .i64 ((0 : Nat) : Int)) W6 0 p.ops [] (.slice none 0 0) [] := by
      obtain ⟨b0, b1, hB, hl0, hdoc, q1, q3, q5, hro, hrf⟩ := H2.out
      have hF : Fr [w.heap.size + 1] w2 [w.heap.size + 1] W6 := by rw [hW6]; exact ((Fr.refl _ _).set (.inl (by simp)) _).set (.inl (by simp)) _
      exact ⟨rfl, by simp, by simpa using q3, (OpsAt.len _ _ q3).symm, hdoc.2.1, by simp, rfl, hl0, ⟨World.ownsRow_nil _ _ _ 6, hF.kept.size⟩, rfl, fun b' cs t k => (hF.bl k.1 (by have := k.2.2.1; simp; omega)).1, hB.trans (hF.to_below hB.size (by simp)), (hF.bl b0 (by simp)).1, ⟨0, 0, by rw [hW6]; exact (b1.set 0 _).set 1 _⟩, trivial⟩
    have HR0 := Lib.hid hR0
    clear hR0 hW6 e1 e2 f1 x0 x1 hnb qb
    go_loopg [26] xo.length (fun k i wr => ∃ j rest acc v xs, DRel OpsAt IosAt cOp (OpSm FMax) 65 6 (fun _ => True) (fun v => #[v, .slice none 0 0]) w w2 xo.length xo (p.ops.map cOp) k i wr j rest acc v xs)
    case atStart => exact ⟨0, p.ops, [], .slice none 0 0, [], HR0.out⟩
    case round =>
      obtain ⟨j, rest, acc, v, xs, hV⟩ := hrel
      obtain ⟨al, ll, lc, rfl⟩ := hV.row.shape
      obtain rfl := hV.idx
      have hsum := hV.sum
      have HV := Lib.hid hV
      clear hV
      cases gk with
      | zero =>
        have x1 : wr.cell? ⟨b, 1, none⟩ = some (.slice af xf.length capf) := (HV.out.keep _ _ _ H2.out.2.2.2.2.2.1).cell 1
        go_wp2_with fail
        obtain ⟨vo, hvo⟩ : ∃ vo : Value, vo = .slice al ll lc := ⟨_, rfl⟩
        have hR1 : DRel FragsAt IfsAt cFrag (FragSm FMax) 74 5 (fun C => ∃ xo, RowAt C 6 vo (p.ops.map cOp).length xo ∧ IosAt C (p.ops.map cOp) xo) (fun v => #[vo, v]) w w2 xf.length xf (p.frags.map cFrag) xf.length (.int .i64 ((0 : Nat) : Int)) wr 0 p.frags [] (.slice none 0 0) [] := by
          have hrest : rest = [] := List.eq_nil_of_length_eq_zero HV.out.len
          have hout : p.ops.map cOp = acc := by rw [HV.out.done, hrest]; simp
          have hrow := HV.out.row.rd
          have hel := IosAt.mono (fun b i v k => CN.all b i v k) _ _ HV.out.el
          rw [← hout, ← hvo] at hrow
          rw [← hout] at hel
          have hbox := HV.out.box
          rw [← hvo] at hbox
          exact ⟨rfl, by simp, by simpa using H2.out.2.2.2.2.2.2.2.1, (FragsAt.len _ _ H2.out.2.2.2.2.2.2.2.1).symm, H2.out.2.2.2.2.1.2.2.2, by simp, rfl, HV.out.le0, ⟨World.ownsRow_nil _ _ _ 5, HV.out.row.le⟩, rfl, HV.out.keep, HV.out.below, hbox, HV.out.place, ⟨xs, hrow, hel⟩⟩
        have HR1 := Lib.hid hR1
        have HVO := Lib.hid hvo
        clear hR1 hvo x1 HV HR0
        obtain ⟨wq, rfl⟩ : ∃ wq : World, wq = wr := ⟨_, rfl⟩
        clear acc xs rest
        clear hsum
        go_loopg [77] xf.length (fun k i wr => ∃ j rest acc v xs, DRel FragsAt IfsAt cFrag (FragSm FMax) 74 5 (fun C => ∃ xo, RowAt C 6 vo (p.ops.map cOp).length xo ∧ IosAt C (p.ops.map cOp) xo) (fun v => #[vo, v]) w w2 xf.length xf (p.frags.map cFrag) k i wr j rest acc v xs)
        case atStart => exact ⟨0, p.frags, [], .slice none 0 0, [], HR1.out⟩
        case round =>
          obtain ⟨j, rest, acc, v, xs, hV⟩ := hrel
          obtain ⟨al, ll, lc, rfl⟩ := hV.row.shape
          obtain rfl := hV.idx
          have hsum := hV.sum
          have HV := Lib.hid hV
          clear hV
          cases gk with
          | zero =>
            obtain ⟨av0, lv0, cv0, rfl⟩ : ∃ a l c, vo = Value.slice a l c := ⟨_, _, _, HVO.out⟩
            obtain ⟨pl, ql, hpl⟩ := HV.out.place
            have g0 : wr.cell? ⟨w.heap.size, 0, none⟩ = some (.slice av0 lv0 cv0) := HV.out.box.cell 0
            have g1 : wr.cell? ⟨w.heap.size, 1, none⟩ = some (.slice al ll lc) := HV.out.box.cell 1
            have f0 : ∀ o, wr.frozen? ⟨w.heap.size, o, none⟩ = false := HV.out.box.free
            have g2 : wr.cell? ⟨w.heap.size + 1, 0, none⟩ = some (numV pl) := hpl.cell 0
            have g3 : wr.cell? ⟨w.heap.size + 1, 1, none⟩ = some (numV ql) := hpl.cell 1
            have f1 : ∀ o, wr.frozen? ⟨w.heap.size + 1, o, none⟩ = false := hpl.free
            have HPL := Lib.hid hpl
            clear hpl
            go_wp2_with fail
            refine bodyPost_ret (v := .tuple #[.agg #[.slice av0 lv0 cv0, .slice al ll lc], .agg #[numV 0, numV 0], .bool true]) (by simp [results, Tryz.results5, go_sem, g0, g1, g2, g3]) rfl ?_
            have hrest : rest = [] := List.eq_nil_of_length_eq_zero HV.out.len
            have hout : p.frags.map cFrag = acc := by rw [HV.out.done, hrest]; simp
            have hF : Fr [w.heap.size, w.heap.size + 1] wr [w.heap.size, w.heap.size + 1] ((((wr.setCell ⟨w.heap.size, 0, none⟩ (.slice av0 lv0 cv0)).setCell ⟨w.heap.size, 1, none⟩ (.slice al ll lc)).setCell ⟨w.heap.size + 1, 0, none⟩ (numV 0)).setCell ⟨w.heap.size + 1, 1, none⟩ (numV 0)) :=
              ((((Fr.refl _ _).set (.inl (by simp)) _).set (.inl (by simp)) _).set (.inl (by simp)) _).set (.inl (by simp)) _
            have up : ∀ x, ∀ b i v, CN wr w2.heap.size x b i v → CN ((((wr.setCell ⟨w.heap.size, 0, none⟩ (.slice av0 lv0 cv0)).setCell ⟨w.heap.size, 1, none⟩ (.slice al ll lc)).setCell ⟨w.heap.size + 1, 0, none⟩ (numV 0)).setCell ⟨w.heap.size + 1, 1, none⟩ (numV 0)) w.heap.size none b i v := fun x b i v ⟨k1, k2, cs, t, k3, k4⟩ =>
              ⟨by have := HV.out.le0; omega, by simp, cs, t, (hF.bl k3 (by have := HV.out.le0; simp; omega)).1, k4⟩
            obtain ⟨xo', e1, e2⟩ := HV.out.ext
            have hrow := HV.out.row.rd
            have hel := HV.out.el
            rw [← hout] at hrow hel
            exact ⟨[.slice av0 lv0 cv0, .slice al ll lc], rfl, ⟨.slice av0 lv0 cv0, xo', .slice al ll lc, xs, rfl, e1.mono (up _), IosAt.mono (up _) _ _ e2, hrow.mono (up _), IfsAt.mono (up _) _ _ hel⟩, HV.out.below.trans (hF.to_below HV.out.below.size (by simp))⟩
          | succ k =>
            obtain ⟨o, rest', y, rfl, hsj, hoa, hos, hrl, hq, hqs⟩ := HV.out.next (fun B a l ys h => FragsAt.cons h)
            obtain ⟨y2, ys2, hye, ⟨b2, l1, c1, sl, xl, l2, c2, sd, xd, l3, c3, rfl, hb, hss, hsx, hsd, hdd⟩, _⟩ := hoa
            obtain rfl : y = ptrV b2 := by injection hye
            obtain ⟨T, tcs, tt, rfl, hT, hTc⟩ := H2.out.2.2.2.2.2.2.2.2.2 j _ hsj
            have cj : wr.cell? ⟨T, j, none⟩ = some (ptrV b2) := by rw [(HV.out.keep _ _ _ hT).cell]; exact hTc
            obtain ⟨ad, ld, cd, rfl⟩ := hsd.shape
            obtain ⟨as_, ls, cs_, rfl⟩ := hss.shape
            have hc0 : ∀ W, (∀ b cs t, Fm w2 (w.heap.size + 2) b cs t → Bl W b cs t) → Calls Tryz.prog 9 #[.slice ad ld cd] W (CLRes IdlAt (cDirs o.dirs) W) := fun W hW => dirs_all o.dirs _ W ⟨xd, hsd.mono hW, DsAt.mono hW _ _ hdd⟩ hq.1 hq.2.1
            have hc1 : ∀ W, (∀ b cs t, Fm w2 (w.heap.size + 2) b cs t → Bl W b cs t) → Calls Tryz.prog 10 #[.slice as_ ls cs_] W (CLRes IslAt (cSels o.sels) W) := fun W hW => sels_all o.sels _ W ⟨xl, hss.mono hW, SelsAt.mono hW _ _ hsx⟩ hq.2.2.1 hq.2.2.2
            have hS : ∀ W, DIn (fun v => #[vo, v]) w w2 wr W (.slice al ll lc) → W.cell? ⟨w.heap.size, 1, none⟩ = some (.slice al ll lc) ∧ W.cell? ⟨b2, 4, none⟩ = some (str o.name) ∧ W.cell? ⟨b2, 0, none⟩ = some (str o.on) ∧ W.cell? ⟨b2, 7, none⟩ = some (str []) ∧ W.cell? ⟨b2, 8, none⟩ = some (.slice ad ld cd) ∧ W.cell? ⟨b2, 3, none⟩ = some (.slice as_ ls cs_) := fun W hW => ⟨hW.box.cell 1, (hW.keep _ _ _ hb).cell 4, (hW.keep _ _ _ hb).cell 0, (hW.keep _ _ _ hb).cell 7, (hW.keep _ _ _ hb).cell 8, (hW.keep _ _ _ hb).cell 3⟩
            have hacc : acc.length + 1 ≤ FMax := by have := HV.out.accl; have := H2.out.2.2.2.2.1.2.2.1; have h3 := FragsAt.len _ _ H2.out.2.2.2.2.2.2.2.1; unfold FMax at *; omega
            have HS := Lib.hid hS
            have HB := Lib.hid hb
            have HC := Lib.hid (And.intro hc0 hc1)
            have HN := Lib.hid (And.intro hos (And.intro hrl (And.intro hqs hacc)))
            have M0 := Lib.hid (HV.out.in_ (W := wr.drew) ⟨rfl, rfl, rfl, Nat.le_refl _, fun _ _ => rfl⟩)
            have s0 := HS.out _ M0.out
            clear hsj hos hrl hqs hacc hS hb hT hTc hye hss hsx hsd hdd hq hc0 hc1
            go_wp2_with fail
            refine wp_region_late (S := fun W => W.cell? ⟨w.heap.size, 1, none⟩ = some (.slice al ll lc) ∧ W.cell? ⟨b2, 4, none⟩ = some (str o.name) ∧ W.cell? ⟨b2, 0, none⟩ = some (str o.on) ∧ W.cell? ⟨b2, 7, none⟩ = some (str []) ∧ W.cell? ⟨b2, 8, none⟩ = some (.slice ad ld cd) ∧ W.cell? ⟨b2, 3, none⟩ = some (.slice as_ ls cs_)) (late := fun i => i == 33) (by kernel_rfl) ?_
            refine wpAnyL_get (i := 0) (d := 81) (v := .pointer (some ⟨w.heap.size, 1, none⟩)) rfl rfl (by kernel_rfl) (by kernel_rfl) (by kernel_rfl) (by kernel_rfl) (by kernel_rfl) (fun _ _ _ h => h) rfl (fun w hS => by (try dsimp only at hS); go_simp) s0 ?_
            simp only [Act.put, List.setIfInBounds_toArray, List.set_cons_zero, List.set_cons_succ]
            refine wpAnyL_get (i := 1) (d := 82) (v := .slice al ll lc) rfl rfl (by kernel_rfl) (by kernel_rfl) (by kernel_rfl) (by kernel_rfl) (by kernel_rfl) (fun _ _ _ h => h) rfl (fun w hS => by (try dsimp only at hS); go_simp) s0 ?_
            simp only [Act.put, List.setIfInBounds_toArray, List.set_cons_zero, List.set_cons_succ]
            refine wpAnyL_get (i := 2) (d := 83) (v := ptrV b2) rfl rfl (by kernel_rfl) (by kernel_rfl) (by kernel_rfl) (by kernel_rfl) (by kernel_rfl) (fun _ _ _ h => h) rfl (fun w hS => by (try dsimp only at hS); go_simp) s0 ?_
            simp only [Act.put, List.setIfInBounds_toArray, List.set_cons_zero, List.set_cons_succ]
            refine wpAnyL_get (i := 3) (d := 84) (v := ptrV b2) rfl rfl (by kernel_rfl) (by kernel_rfl) (by kernel_rfl) (by kernel_rfl) (by kernel_rfl) (fun _ _ _ h => h) rfl (fun w hS => by (try dsimp only at hS); go_simp) s0 ?_
            simp only [Act.put, List.setIfInBounds_toArray, List.set_cons_zero, List.set_cons_succ]
            refine wpAnyL_get (i := 4) (d := 85) (v := .pointer (some ⟨b2, 4, none⟩)) rfl rfl (by kernel_rfl) (by kernel_rfl) (by kernel_rfl) (by kernel_rfl) (by kernel_rfl) (fun _ _ _ h => h) rfl (fun w hS => by (try dsimp only at hS); go_simp) s0 ?_
            simp only [Act.put, List.setIfInBounds_toArray, List.set_cons_zero, List.set_cons_succ]
            refine wpAnyL_get (i := 5) (d := 86) (v := .pointer (some ⟨b2, 4, none⟩)) rfl rfl (by kernel_rfl) (by kernel_rfl) (by kernel_rfl) (by kernel_rfl) (by kernel_rfl) (fun _ _ _ h => h) rfl (fun w hS => by (try dsimp only at hS); go_simp) s0 ?_
            simp only [Act.put, List.setIfInBounds_toArray, List.set_cons_zero, List.set_cons_succ]
            refine wpAnyL_get (i := 6) (d := 87) (v := str o.name) rfl rfl (by kernel_rfl) (by kernel_rfl) (by kernel_rfl) (by kernel_rfl) (by kernel_rfl) (fun _ _ _ h => h) rfl (fun w hS => by (try dsimp only at hS); go_simp) s0 ?_
            simp only [Act.put, List.setIfInBounds_toArray, List.set_cons_zero, List.set_cons_succ]
            refine wpAnyL_get (i := 7) (d := 88) (v := ptrV b2) rfl rfl (by kernel_rfl) (by kernel_rfl) (by kernel_rfl) (by kernel_rfl) (by kernel_rfl) (fun _ _ _ h => h) rfl (fun w hS => by (try dsimp only at hS); go_simp) s0 ?_
            simp only [Act.put, List.setIfInBounds_toArray, List.set_cons_zero, List.set_cons_succ]
            refine wpAnyL_get (i := 8) (d := 89) (v := ptrV b2) rfl rfl (by kernel_rfl) (by kernel_rfl) (by kernel_rfl) (by kernel_rfl) (by kernel_rfl) (fun _ _ _ h => h) rfl (fun w hS => by (try dsimp only at hS); go_simp) s0 ?_
            simp only [Act.put, List.setIfInBounds_toArray, List.set_cons_zero, List.set_cons_succ]
            refine wpAnyL_get (i := 9) (d := 90) (v := .pointer (some ⟨b2, 0, none⟩)) rfl rfl (by kernel_rfl) (by kernel_rfl) (by kernel_rfl) (by kernel_rfl) (by kernel_rfl) (fun _ _ _ h => h) rfl (fun w hS => by (try dsimp only at hS); go_simp) s0 ?_
            simp only [Act.put, List.setIfInBounds_toArray, List.set_cons_zero, List.set_cons_succ]
            refine wpAnyL_get (i := 10) (d := 91) (v := .pointer (some ⟨b2, 0, none⟩)) rfl rfl (by kernel_rfl) (by kernel_rfl) (by kernel_rfl) (by kernel_rfl) (by kernel_rfl) (fun _ _ _ h => h) rfl (fun w hS => by (try dsimp only at hS); go_simp) s0 ?_
            simp only [Act.put, List.setIfInBounds_toArray, List.set_cons_zero, List.set_cons_succ]
            refine wpAnyL_get (i := 11) (d := 92) (v := .pointer (some ⟨b2, 0, none⟩)) rfl rfl (by kernel_rfl) (by kernel_rfl) (by kernel_rfl) (by kernel_rfl) (by kernel_rfl) (fun _ _ _ h => h) rfl (fun w hS => by (try dsimp only at hS); go_simp) s0 ?_
            simp only [Act.put, List.setIfInBounds_toArray, List.set_cons_zero, List.set_cons_succ]
            refine wpAnyL_get (i := 12) (d := 93) (v := .pointer (some ⟨b2, 0, none⟩)) rfl rfl (by kernel_rfl) (by kernel_rfl) (by kernel_rfl) (by kernel_rfl) (by kernel_rfl) (fun _ _ _ h => h) rfl (fun w hS => by (try dsimp only at hS); go_simp) s0 ?_
            simp only [Act.put, List.setIfInBounds_toArray, List.set_cons_zero, List.set_cons_succ]
            refine wpAnyL_get (i := 13) (d := 94) (v := str o.on) rfl rfl (by kernel_rfl) (by kernel_rfl) (by kernel_rfl) (by kernel_rfl) (by kernel_rfl) (fun _ _ _ h => h) rfl (fun w hS => by (try dsimp only at hS); go_simp) s0 ?_
            simp only [Act.put, List.setIfInBounds_toArray, List.set_cons_zero, List.set_cons_succ]
            refine wpAnyL_get (i := 14) (d := 95) (v := ptrV b2) rfl rfl (by kernel_rfl) (by kernel_rfl) (by kernel_rfl) (by kernel_rfl) (by kernel_rfl) (fun _ _ _ h => h) rfl (fun w hS => by (try dsimp only at hS); go_simp) s0 ?_
            simp only [Act.put, List.setIfInBounds_toArray, List.set_cons_zero, List.set_cons_succ]
            refine wpAnyL_get (i := 15) (d := 96) (v := ptrV b2) rfl rfl (by kernel_rfl) (by kernel_rfl) (by kernel_rfl) (by kernel_rfl) (by kernel_rfl) (fun _ _ _ h => h) rfl (fun w hS => by (try dsimp only at hS); go_simp) s0 ?_
            simp only [Act.put, List.setIfInBounds_toArray, List.set_cons_zero, List.set_cons_succ]
            refine wpAnyL_get (i := 16) (d := 97) (v := .pointer (some ⟨b2, 7, none⟩)) rfl rfl (by kernel_rfl) (by kernel_rfl) (by kernel_rfl) (by kernel_rfl) (by kernel_rfl) (fun _ _ _ h => h) rfl (fun w hS => by (try dsimp only at hS); go_simp) s0 ?_
            simp only [Act.put, List.setIfInBounds_toArray, List.set_cons_zero, List.set_cons_succ]
            refine wpAnyL_get (i := 17) (d := 98) (v := str []) rfl rfl (by kernel_rfl) (by kernel_rfl) (by kernel_rfl) (by kernel_rfl) (by kernel_rfl) (fun _ _ _ h => h) rfl (fun w hS => by (try dsimp only at hS); go_simp) s0 ?_
            simp only [Act.put, List.setIfInBounds_toArray, List.set_cons_zero, List.set_cons_succ]
            refine wpAnyL_get (i := 18) (d := 99) (v := ptrV b2) rfl rfl (by kernel_rfl) (by kernel_rfl) (by kernel_rfl) (by kernel_rfl) (by kernel_rfl) (fun _ _ _ h => h) rfl (fun w hS => by (try dsimp only at hS); go_simp) s0 ?_
            simp only [Act.put, List.setIfInBounds_toArray, List.set_cons_zero, List.set_cons_succ]
            refine wpAnyL_get (i := 19) (d := 100) (v := ptrV b2) rfl rfl (by kernel_rfl) (by kernel_rfl) (by kernel_rfl) (by kernel_rfl) (by kernel_rfl) (fun _ _ _ h => h) rfl (fun w hS => by (try dsimp only at hS); go_simp) s0 ?_
            simp only [Act.put, List.setIfInBounds_toArray, List.set_cons_zero, List.set_cons_succ]
            refine wpAnyL_get (i := 20) (d := 101) (v := .pointer (some ⟨b2, 8, none⟩)) rfl rfl (by kernel_rfl) (by kernel_rfl) (by kernel_rfl) (by kernel_rfl) (by kernel_rfl) (fun _ _ _ h => h) rfl (fun w hS => by (try dsimp only at hS); go_simp) s0 ?_
            simp only [Act.put, List.setIfInBounds_toArray, List.set_cons_zero, List.set_cons_succ]
            refine wpAnyL_get (i := 21) (d := 102) (v := .slice ad ld cd) rfl rfl (by kernel_rfl) (by kernel_rfl) (by kernel_rfl) (by kernel_rfl) (by kernel_rfl) (fun _ _ _ h => h) rfl (fun w hS => by (try dsimp only at hS); go_simp) s0 ?_
            simp only [Act.put, List.setIfInBounds_toArray, List.set_cons_zero, List.set_cons_succ]
            refine wpAnyL_get (i := 23) (d := 104) (v := ptrV b2) rfl rfl (by kernel_rfl) (by kernel_rfl) (by kernel_rfl) (by kernel_rfl) (by kernel_rfl) (fun _ _ _ h => h) rfl (fun w hS => by (try dsimp only at hS); go_simp) s0 ?_
            simp only [Act.put, List.setIfInBounds_toArray, List.set_cons_zero, List.set_cons_succ]
            refine wpAnyL_get (i := 24) (d := 105) (v := ptrV b2) rfl rfl (by kernel_rfl) (by kernel_rfl) (by kernel_rfl) (by kernel_rfl) (by kernel_rfl) (fun _ _ _ h => h) rfl (fun w hS => by (try dsimp only at hS); go_simp) s0 ?_
            simp only [Act.put, List.setIfInBounds_toArray, List.set_cons_zero, List.set_cons_succ]
            refine wpAnyL_get (i := 25) (d := 106) (v := .pointer (some ⟨b2, 0, none⟩)) rfl rfl (by kernel_rfl) (by kernel_rfl) (by kernel_rfl) (by kernel_rfl) (by kernel_rfl) (fun _ _ _ h => h) rfl (fun w hS => by (try dsimp only at hS); go_simp) s0 ?_
            simp only [Act.put, List.setIfInBounds_toArray, List.set_cons_zero, List.set_cons_succ]
            refine wpAnyL_get (i := 26) (d := 107) (v := .pointer (some ⟨b2, 3, none⟩)) rfl rfl (by kernel_rfl) (by kernel_rfl) (by kernel_rfl) (by kernel_rfl) (by kernel_rfl) (fun _ _ _ h => h) rfl (fun w hS => by (try dsimp only at hS); go_simp) s0 ?_
            simp only [Act.put, List.setIfInBounds_toArray, List.set_cons_zero, List.set_cons_succ]
            refine wpAnyL_get (i := 27) (d := 108) (v := .slice as_ ls cs_) rfl rfl (by kernel_rfl) (by kernel_rfl) (by kernel_rfl) (by kernel_rfl) (by kernel_rfl) (fun _ _ _ h => h) rfl (fun w hS => by (try dsimp only at hS); go_simp) s0 ?_
            simp only [Act.put, List.setIfInBounds_toArray, List.set_cons_zero, List.set_cons_succ]
            clear s0 cj
            refine wpAnyL_one (i := 22) (by kernel_rfl) (wpOpL_enter (d := 103) rfl rfl rfl (f := 9) (args := #[.slice ad ld cd]) (by simp [execOp, go_sem, Act.eval]) (HC.out.1 wr.drew M0.out.keep) ?_)
            rintro e v0 ⟨sl0, rfl, k1, k2⟩
            have k2 := below_drew k2
            have hT : Below wr.heap.size wr v0 := k2
            obtain ⟨r0, m0, q0, rfl⟩ := k1.shape
            have M1 := Lib.hid (HV.out.in_ hT)
            have N0 := Lib.hid (And.intro k1 k2)
            clear k1 k2 hT
            refine ⟨_, rfl, fun _ => HS.out _ M1.out, ?_⟩
            simp only [Act.put, List.setIfInBounds_toArray, List.set_cons_zero, List.set_cons_succ]
            refine wpAnyL_one (i := 28) (by kernel_rfl) (wpOpL_enter (d := 109) rfl rfl rfl (f := 10) (args := #[.slice as_ ls cs_]) (by simp [execOp, go_sem, Act.eval]) (HC.out.2 v0 M1.out.keep) ?_)
            rintro e v1 ⟨sl1, rfl, k1, k2⟩
            have hT : Below wr.heap.size wr v1 := M1.out.belowr.trans (k2.mono M1.out.belowr.size)
            obtain ⟨r1, m1, q1, rfl⟩ := k1.shape
            have M2 := Lib.hid (HV.out.in_ hT)
            have N1 := Lib.hid (And.intro k1 k2)
            clear k1 k2 hT
            refine ⟨_, rfl, fun _ => HS.out _ M2.out, ?_⟩
            simp only [Act.put, List.setIfInBounds_toArray, List.set_cons_zero, List.set_cons_succ]
            have s1 := HS.out _ M2.out
            refine wpAnyL_get (i := 29) (d := 110) (v := .agg #[str o.name, str o.on, str [], .slice r0 m0 q0, .slice r1 m1 q1]) rfl rfl (by kernel_rfl) (by kernel_rfl) (by kernel_rfl) (by kernel_rfl) (by kernel_rfl) (fun _ _ _ h => h) rfl (fun w hS => by (try dsimp only at hS); go_simp) s1 ?_
            simp only [Act.put, List.setIfInBounds_toArray, List.set_cons_zero, List.set_cons_succ]
            clear s1
            obtain ⟨V5, hV5⟩ : ∃ V5, V5 = v1.alloc (.cells #[str o.name, str o.on, str [], .slice r0 m0 q0, .slice r1 m1 q1] 74) := ⟨_, rfl⟩
            have s5 := HS.out (v1.alloc (.cells #[str o.name, str o.on, str [], .slice r0 m0 q0, .slice r1 m1 q1] 74)) (HV.out.in_ (M2.out.belowr.alloc M2.out.belowr.size _))
            rw [← hV5] at s5
            refine wpAnyL_one (i := 30) (by kernel_rfl) (wpOpL_get (d := 111) rfl rfl rfl (v := .slice (some ⟨v1.heap.size, 0, none⟩) 1 1) (w' := V5) (by rw [hV5]; simp [execOp, go_sem, Act.eval]) ⟨fun _ => s5, ?_⟩)
            simp only [Act.put, List.setIfInBounds_toArray, List.set_cons_zero, List.set_cons_succ]
            clear s5
            subst hV5
            refine wpAnyL_one (i := 31) (by kernel_rfl) (wpOpL_law (d := 112) rfl rfl rfl (fun K' hK => ?_))
            refine wp_append_lies _ _ _ _ rfl w2.heap.size 74 j0 _ 5 96 Tryz.underlying25 ji jz0 jz1 jz2 rfl (by omega) (.slice al ll lc) acc.length xs (by rfl) (conv_next HV.out.row M2.out.belowr _).row.own
              ⟨v1.heap.size, 0, none⟩ 1 1 [str o.name, str o.on, str [], .slice r0 m0 q0, .slice r1 m1 q1] (by rfl) (by rfl) (World.news_of_block (cs := #[str o.name, str o.on, str [], .slice r0 m0 q0, .slice r1 m1 q1]) (t := 74) (fr := (0, 0)) (heap_alloc_new v1 _)) (by simp [Value.oneCell'])
              (by omega) (by have := HN.out.2.2.2; unfold FMax at this; unfold maxLen; omega) (by have := HN.out.2.2.2; unfold FMax at this; omega) (conv_next HV.out.row M2.out.belowr _).row.le _ rfl ?_
            intro g cap w9 ho hg hat hlt
            have hA := appd (conv_next HV.out.row M2.out.belowr _).row ho hg hat (Nat.le_refl _)
            have h4 := HV.out.in4 M2.out.belowr hA
            have s9 : w9.cell? ⟨w.heap.size, 1, none⟩ = some (.slice al ll lc) ∧ w9.cell? ⟨b2, 4, none⟩ = some (str o.name) ∧ w9.cell? ⟨b2, 0, none⟩ = some (str o.on) ∧ w9.cell? ⟨b2, 7, none⟩ = some (str []) ∧ w9.cell? ⟨b2, 8, none⟩ = some (.slice ad ld cd) ∧ w9.cell? ⟨b2, 3, none⟩ = some (.slice as_ ls cs_) := ⟨h4.1.cell 1, (h4.2 _ _ _ HB.out).cell 4, (h4.2 _ _ _ HB.out).cell 0, (h4.2 _ _ _ HB.out).cell 7, (h4.2 _ _ _ HB.out).cell 8, (h4.2 _ _ _ HB.out).cell 3⟩
            have f9 : ∀ o, w9.frozen? ⟨w.heap.size, o, none⟩ = false := h4.1.free
            have H9 := Lib.hid hA
            clear ho hg hat hlt hA h4
            refine hK _ _ ⟨fun _ => s9, ?_⟩
            clear hK K'
            simp only [Act.put, List.setIfInBounds_toArray, List.set_cons_zero, List.set_cons_succ]
            refine wpAnyL_get (i := 32) (d := 113) (v := .pointer (some ⟨w.heap.size, 1, none⟩)) rfl rfl (by kernel_rfl) (by kernel_rfl) (by kernel_rfl) (by kernel_rfl) (by kernel_rfl) (fun _ _ _ h => h) rfl (fun w hS => by (try dsimp only at hS); go_simp) s9 ?_
            simp only [Act.put, List.setIfInBounds_toArray, List.set_cons_zero, List.set_cons_succ]
            have g9 := s9.1
            refine wpAnyL_one (i := 33) (by kernel_rfl) (wpOpL_none rfl rfl rfl (w' := w9.setCell ⟨w.heap.size, 1, none⟩ (.slice (some ⟨g, 0, none⟩) (acc.length + 1) cap)) (by simp [execOp, go_sem, Act.eval, g9, f9]) ⟨(fun h => by cases h), ?_⟩)
            refine wpAnyL_done (by kernel_rfl) ?_ _
            clear s9 f9 g9
            go_wp2_with fail
            go_roundg k
            case measure => omega
            case rel =>
              have hcn := conv_next HV.out.row M2.out.belowr (.cells #[str o.name, str o.on, str [], .slice r0 m0 q0, .slice r1 m1 q1] 74)
              have hR0 : IdlAt (CN w9 w2.heap.size (Value.slice (some ⟨g, 0, none⟩) (acc.length + 1) cap).ownBlock) (cDirs o.dirs) (.slice r0 m0 q0) := N0.out.1.mono (fun b i u k => H9.out.cn b i u (hcn.new b i u (CN.below N1.out.2 b i u (CN.up (Nat.le_refl _) b i u k))))
              have hR1 : IslAt (CN w9 w2.heap.size (Value.slice (some ⟨g, 0, none⟩) (acc.length + 1) cap).ownBlock) (cSels o.sels) (.slice r1 m1 q1) := N1.out.1.mono (fun b i u k => H9.out.cn b i u (hcn.new b i u (CN.up (M1.out.belowr.size) b i u k)))
              have hI : IfAt (CN w9 w2.heap.size (Value.slice (some ⟨g, 0, none⟩) (acc.length + 1) cap).ownBlock) (cFrag o) [str o.name, str o.on, str [], .slice r0 m0 q0, .slice r1 m1 q1] := ⟨_, _, rfl, hR0, hR1⟩
              exact ⟨_, _, _, _, _, HV.out.step ⟨HN.out.1, HN.out.2.1, HN.out.2.2.1⟩ M2.out.belowr H9.out (IfsAt.snoc hI _ _ (IfsAt.mono (fun b i u k => H9.out.cn b i u (hcn.old b i u k)) _ _ HV.out.el)) (fun C C' h l xs => IfsAt.mono h l xs) (fun C C' h ⟨xo, k1, k2⟩ => ⟨xo, k1.mono h, IosAt.mono h _ _ k2⟩) rfl⟩
      | succ k =>
        obtain ⟨o, rest', y, rfl, hsj, hoa, hos, hrl, hq, hqs⟩ := HV.out.next (fun B a l ys h => OpsAt.cons h)
        obtain ⟨y2, ys2, hye, ⟨b2, l1, c1, sv, xv, sl, xl, sd, xd, l2, c2, rfl, hb, hsv, hiv, hss, hsx, hsd, hdd⟩, _⟩ := hoa
        obtain rfl : y = ptrV b2 := by injection hye
        obtain ⟨T, tcs, tt, rfl, hT, hTc⟩ := H2.out.2.2.2.2.2.2.2.2.1 j _ hsj
        have cj : wr.cell? ⟨T, j, none⟩ = some (ptrV b2) := by rw [(HV.out.keep _ _ _ hT).cell]; exact hTc
        obtain ⟨ad, ld, cd, rfl⟩ := hsd.shape
        obtain ⟨as_, ls, cs_, rfl⟩ := hss.shape
        obtain ⟨av, lv, cv, rfl⟩ := hsv.shape
        have hc0 : ∀ W, (∀ b cs t, Fm w2 (w.heap.size + 2) b cs t → Bl W b cs t) → Calls Tryz.prog 8 #[.slice av lv cv] W (CLRes IilAt (o.vars.map cInp) W) := fun W hW => inputs_all o.vars _ W ⟨xv, hsv.mono hW, InpsAt.mono hW _ _ hiv⟩ hq.1 hq.2.1
        have hc1 : ∀ W, (∀ b cs t, Fm w2 (w.heap.size + 2) b cs t → Bl W b cs t) → Calls Tryz.prog 9 #[.slice ad ld cd] W (CLRes IdlAt (cDirs o.dirs) W) := fun W hW => dirs_all o.dirs _ W ⟨xd, hsd.mono hW, DsAt.mono hW _ _ hdd⟩ hq.2.2.1 hq.2.2.2.1
        have hc2 : ∀ W, (∀ b cs t, Fm w2 (w.heap.size + 2) b cs t → Bl W b cs t) → Calls Tryz.prog 10 #[.slice as_ ls cs_] W (CLRes IslAt (cSels o.sels) W) := fun W hW => sels_all o.sels _ W ⟨xl, hss.mono hW, SelsAt.mono hW _ _ hsx⟩ hq.2.2.2.2.1 hq.2.2.2.2.2
        have hS : ∀ W, DIn (fun v => #[v, .slice none 0 0]) w w2 wr W (.slice al ll lc) → W.cell? ⟨w.heap.size, 0, none⟩ = some (.slice al ll lc) ∧ W.cell? ⟨b2, 1, none⟩ = some (str o.name) ∧ W.cell? ⟨b2, 4, none⟩ = some (str []) ∧ W.cell? ⟨b2, 5, none⟩ = some (.slice av lv cv) ∧ W.cell? ⟨b2, 7, none⟩ = some (.slice ad ld cd) ∧ W.cell? ⟨b2, 6, none⟩ = some (.slice as_ ls cs_) := fun W hW => ⟨hW.box.cell 0, (hW.keep _ _ _ hb).cell 1, (hW.keep _ _ _ hb).cell 4, (hW.keep _ _ _ hb).cell 5, (hW.keep _ _ _ hb).cell 7, (hW.keep _ _ _ hb).cell 6⟩
        have hacc : acc.length + 1 ≤ FMax := by have := HV.out.accl; have := H2.out.2.2.2.2.1.1; have h3 := OpsAt.len _ _ H2.out.2.2.2.2.2.2.1; unfold FMax at *; omega
        have HS := Lib.hid hS
        have HB := Lib.hid hb
        have HC := Lib.hid (And.intro hc0 (And.intro hc1 hc2))
        have HN := Lib.hid (And.intro hos (And.intro hrl (And.intro hqs hacc)))
        have M0 := Lib.hid (HV.out.in_ (W := wr.drew) ⟨rfl, rfl, rfl, Nat.le_refl _, fun _ _ => rfl⟩)
        have s0 := HS.out _ M0.out
        have ck : wr.cell? ⟨b2, 0, none⟩ = some (str (opType o.kind)) := (HV.out.keep _ _ _ hb).cell 0
        clear hsj hos hrl hqs hacc hS hb hT hTc hye hss hsx hsd hdd hq hsv hiv hc0 hc1 hc2
        rcases str_opType o.kind with ⟨hk, he⟩ | ⟨hk2, hk, he⟩ | ⟨hk2, hk3, he⟩
        · have HK : Hid ((cOp o).kind = 2) := Lib.hid (by show (if o.kind = 2 then (2 : Int) else _) = 2; rw [if_pos hk])
          rw [he] at ck
          clear hk he
          go_wp2_with fail
          refine wp_region_late (S := fun W => W.cell? ⟨w.heap.size, 0, none⟩ = some (.slice al ll lc) ∧ W.cell? ⟨b2, 1, none⟩ = some (str o.name) ∧ W.cell? ⟨b2, 4, none⟩ = some (str []) ∧ W.cell? ⟨b2, 5, none⟩ = some (.slice av lv cv) ∧ W.cell? ⟨b2, 7, none⟩ = some (.slice ad ld cd) ∧ W.cell? ⟨b2, 6, none⟩ = some (.slice as_ ls cs_)) (late := fun i => i == 31) (by kernel_rfl) ?_
          refine wpAnyL_get (i := 0) (d := 40) (v := .pointer (some ⟨w.heap.size, 0, none⟩)) rfl rfl (by kernel_rfl) (by kernel_rfl) (by kernel_rfl) (by kernel_rfl) (by kernel_rfl) (fun _ _ _ h => h) rfl (fun w hS => by (try dsimp only at hS); go_simp) s0 ?_
          simp only [Act.put, List.setIfInBounds_toArray, List.set_cons_zero, List.set_cons_succ]
          refine wpAnyL_get (i := 1) (d := 41) (v := .slice al ll lc) rfl rfl (by kernel_rfl) (by kernel_rfl) (by kernel_rfl) (by kernel_rfl) (by kernel_rfl) (fun _ _ _ h => h) rfl (fun w hS => by (try dsimp only at hS); go_simp) s0 ?_
          simp only [Act.put, List.setIfInBounds_toArray, List.set_cons_zero, List.set_cons_succ]
          refine wpAnyL_get (i := 2) (d := 42) (v := numV 2) rfl rfl (by kernel_rfl) (by kernel_rfl) (by kernel_rfl) (by kernel_rfl) (by kernel_rfl) (fun _ _ _ h => h) rfl (fun w hS => by (try dsimp only at hS); go_simp) s0 ?_
          simp only [Act.put, List.setIfInBounds_toArray, List.set_cons_zero, List.set_cons_succ]
          refine wpAnyL_get (i := 3) (d := 43) (v := ptrV b2) rfl rfl (by kernel_rfl) (by kernel_rfl) (by kernel_rfl) (by kernel_rfl) (by kernel_rfl) (fun _ _ _ h => h) rfl (fun w hS => by (try dsimp only at hS); go_simp) s0 ?_
          simp only [Act.put, List.setIfInBounds_toArray, List.set_cons_zero, List.set_cons_succ]
          refine wpAnyL_get (i := 4) (d := 44) (v := ptrV b2) rfl rfl (by kernel_rfl) (by kernel_rfl) (by kernel_rfl) (by kernel_rfl) (by kernel_rfl) (fun _ _ _ h => h) rfl (fun w hS => by (try dsimp only at hS); go_simp) s0 ?_
          simp only [Act.put, List.setIfInBounds_toArray, List.set_cons_zero, List.set_cons_succ]
          refine wpAnyL_get (i := 5) (d := 45) (v := .pointer (some ⟨b2, 1, none⟩)) rfl rfl (by kernel_rfl) (by kernel_rfl) (by kernel_rfl) (by kernel_rfl) (by kernel_rfl) (fun _ _ _ h => h) rfl (fun w hS => by (try dsimp only at hS); go_simp) s0 ?_
          simp only [Act.put, List.setIfInBounds_toArray, List.set_cons_zero, List.set_cons_succ]
          refine wpAnyL_get (i := 6) (d := 46) (v := .pointer (some ⟨b2, 1, none⟩)) rfl rfl (by kernel_rfl) (by kernel_rfl) (by kernel_rfl) (by kernel_rfl) (by kernel_rfl) (fun _ _ _ h => h) rfl (fun w hS => by (try dsimp only at hS); go_simp) s0 ?_
          simp only [Act.put, List.setIfInBounds_toArray, List.set_cons_zero, List.set_cons_succ]
          refine wpAnyL_get (i := 7) (d := 47) (v := str o.name) rfl rfl (by kernel_rfl) (by kernel_rfl) (by kernel_rfl) (by kernel_rfl) (by kernel_rfl) (fun _ _ _ h => h) rfl (fun w hS => by (try dsimp only at hS); go_simp) s0 ?_
          simp only [Act.put, List.setIfInBounds_toArray, List.set_cons_zero, List.set_cons_succ]
          refine wpAnyL_get (i := 8) (d := 48) (v := ptrV b2) rfl rfl (by kernel_rfl) (by kernel_rfl) (by kernel_rfl) (by kernel_rfl) (by kernel_rfl) (fun _ _ _ h => h) rfl (fun w hS => by (try dsimp only at hS); go_simp) s0 ?_
          simp only [Act.put, List.setIfInBounds_toArray, List.set_cons_zero, List.set_cons_succ]
          refine wpAnyL_get (i := 9) (d := 49) (v := ptrV b2) rfl rfl (by kernel_rfl) (by kernel_rfl) (by kernel_rfl) (by kernel_rfl) (by kernel_rfl) (fun _ _ _ h => h) rfl (fun w hS => by (try dsimp only at hS); go_simp) s0 ?_
          simp only [Act.put, List.setIfInBounds_toArray, List.set_cons_zero, List.set_cons_succ]
          refine wpAnyL_get (i := 10) (d := 50) (v := .pointer (some ⟨b2, 4, none⟩)) rfl rfl (by kernel_rfl) (by kernel_rfl) (by kernel_rfl) (by kernel_rfl) (by kernel_rfl) (fun _ _ _ h => h) rfl (fun w hS => by (try dsimp only at hS); go_simp) s0 ?_
          simp only [Act.put, List.setIfInBounds_toArray, List.set_cons_zero, List.set_cons_succ]
          refine wpAnyL_get (i := 11) (d := 51) (v := str []) rfl rfl (by kernel_rfl) (by kernel_rfl) (by kernel_rfl) (by kernel_rfl) (by kernel_rfl) (fun _ _ _ h => h) rfl (fun w hS => by (try dsimp only at hS); go_simp) s0 ?_
          simp only [Act.put, List.setIfInBounds_toArray, List.set_cons_zero, List.set_cons_succ]
          refine wpAnyL_get (i := 12) (d := 52) (v := ptrV b2) rfl rfl (by kernel_rfl) (by kernel_rfl) (by kernel_rfl) (by kernel_rfl) (by kernel_rfl) (fun _ _ _ h => h) rfl (fun w hS => by (try dsimp only at hS); go_simp) s0 ?_
          simp only [Act.put, List.setIfInBounds_toArray, List.set_cons_zero, List.set_cons_succ]
          refine wpAnyL_get (i := 13) (d := 53) (v := ptrV b2) rfl rfl (by kernel_rfl) (by kernel_rfl) (by kernel_rfl) (by kernel_rfl) (by kernel_rfl) (fun _ _ _ h => h) rfl (fun w hS => by (try dsimp only at hS); go_simp) s0 ?_
          simp only [Act.put, List.setIfInBounds_toArray, List.set_cons_zero, List.set_cons_succ]
          refine wpAnyL_get (i := 14) (d := 54) (v := .pointer (some ⟨b2, 5, none⟩)) rfl rfl (by kernel_rfl) (by kernel_rfl) (by kernel_rfl) (by kernel_rfl) (by kernel_rfl) (fun _ _ _ h => h) rfl (fun w hS => by (try dsimp only at hS); go_simp) s0 ?_
          simp only [Act.put, List.setIfInBounds_toArray, List.set_cons_zero, List.set_cons_succ]
          refine wpAnyL_get (i := 15) (d := 55) (v := .slice av lv cv) rfl rfl (by kernel_rfl) (by kernel_rfl) (by kernel_rfl) (by kernel_rfl) (by kernel_rfl) (fun _ _ _ h => h) rfl (fun w hS => by (try dsimp only at hS); go_simp) s0 ?_
          simp only [Act.put, List.setIfInBounds_toArray, List.set_cons_zero, List.set_cons_succ]
          refine wpAnyL_get (i := 17) (d := 57) (v := ptrV b2) rfl rfl (by kernel_rfl) (by kernel_rfl) (by kernel_rfl) (by kernel_rfl) (by kernel_rfl) (fun _ _ _ h => h) rfl (fun w hS => by (try dsimp only at hS); go_simp) s0 ?_
          simp only [Act.put, List.setIfInBounds_toArray, List.set_cons_zero, List.set_cons_succ]
          refine wpAnyL_get (i := 18) (d := 58) (v := ptrV b2) rfl rfl (by kernel_rfl) (by kernel_rfl) (by kernel_rfl) (by kernel_rfl) (by kernel_rfl) (fun _ _ _ h => h) rfl (fun w hS => by (try dsimp only at hS); go_simp) s0 ?_
          simp only [Act.put, List.setIfInBounds_toArray, List.set_cons_zero, List.set_cons_succ]
          refine wpAnyL_get (i := 19) (d := 59) (v := .pointer (some ⟨b2, 7, none⟩)) rfl rfl (by kernel_rfl) (by kernel_rfl) (by kernel_rfl) (by kernel_rfl) (by kernel_rfl) (fun _ _ _ h => h) rfl (fun w hS => by (try dsimp only at hS); go_simp) s0 ?_
          simp only [Act.put, List.setIfInBounds_toArray, List.set_cons_zero, List.set_cons_succ]
          refine wpAnyL_get (i := 20) (d := 60) (v := .slice ad ld cd) rfl rfl (by kernel_rfl) (by kernel_rfl) (by kernel_rfl) (by kernel_rfl) (by kernel_rfl) (fun _ _ _ h => h) rfl (fun w hS => by (try dsimp only at hS); go_simp) s0 ?_
          simp only [Act.put, List.setIfInBounds_toArray, List.set_cons_zero, List.set_cons_succ]
          refine wpAnyL_get (i := 22) (d := 62) (v := ptrV b2) rfl rfl (by kernel_rfl) (by kernel_rfl) (by kernel_rfl) (by kernel_rfl) (by kernel_rfl) (fun _ _ _ h => h) rfl (fun w hS => by (try dsimp only at hS); go_simp) s0 ?_
          simp only [Act.put, List.setIfInBounds_toArray, List.set_cons_zero, List.set_cons_succ]
          refine wpAnyL_get (i := 23) (d := 63) (v := ptrV b2) rfl rfl (by kernel_rfl) (by kernel_rfl) (by kernel_rfl) (by kernel_rfl) (by kernel_rfl) (fun _ _ _ h => h) rfl (fun w hS => by (try dsimp only at hS); go_simp) s0 ?_
          simp only [Act.put, List.setIfInBounds_toArray, List.set_cons_zero, List.set_cons_succ]
          refine wpAnyL_get (i := 24) (d := 64) (v := .pointer (some ⟨b2, 6, none⟩)) rfl rfl (by kernel_rfl) (by kernel_rfl) (by kernel_rfl) (by kernel_rfl) (by kernel_rfl) (fun _ _ _ h => h) rfl (fun w hS => by (try dsimp only at hS); go_simp) s0 ?_
          simp only [Act.put, List.setIfInBounds_toArray, List.set_cons_zero, List.set_cons_succ]
          refine wpAnyL_get (i := 25) (d := 65) (v := .slice as_ ls cs_) rfl rfl (by kernel_rfl) (by kernel_rfl) (by kernel_rfl) (by kernel_rfl) (by kernel_rfl) (fun _ _ _ h => h) rfl (fun w hS => by (try dsimp only at hS); go_simp) s0 ?_
          simp only [Act.put, List.setIfInBounds_toArray, List.set_cons_zero, List.set_cons_succ]
          clear s0 cj ck
          refine wpAnyL_one (i := 16) (by kernel_rfl) (wpOpL_enter (d := 56) rfl rfl rfl (f := 8) (args := #[.slice av lv cv]) (by simp [execOp, go_sem, Act.eval]) (HC.out.1 wr.drew M0.out.keep) ?_)
          rintro e v0 ⟨sl0, rfl, k1, k2⟩
          have k2 := below_drew k2
          have hT : Below wr.heap.size wr v0 := k2
          obtain ⟨r0, m0, q0, rfl⟩ := k1.shape
          have M1 := Lib.hid (HV.out.in_ hT)
          have N0 := Lib.hid (And.intro k1 k2)
          clear k1 k2 hT
          refine ⟨_, rfl, fun _ => HS.out _ M1.out, ?_⟩
          simp only [Act.put, List.setIfInBounds_toArray, List.set_cons_zero, List.set_cons_succ]
          refine wpAnyL_one (i := 21) (by kernel_rfl) (wpOpL_enter (d := 61) rfl rfl rfl (f := 9) (args := #[.slice ad ld cd]) (by simp [execOp, go_sem, Act.eval]) (HC.out.2.1 v0 M1.out.keep) ?_)
          rintro e v1 ⟨sl1, rfl, k1, k2⟩
          have hT : Below wr.heap.size wr v1 := M1.out.belowr.trans (k2.mono M1.out.belowr.size)
          obtain ⟨r1, m1, q1, rfl⟩ := k1.shape
          have M2 := Lib.hid (HV.out.in_ hT)
          have N1 := Lib.hid (And.intro k1 k2)
          clear k1 k2 hT
          refine ⟨_, rfl, fun _ => HS.out _ M2.out, ?_⟩
          simp only [Act.put, List.setIfInBounds_toArray, List.set_cons_zero, List.set_cons_succ]
          refine wpAnyL_one (i := 26) (by kernel_rfl) (wpOpL_enter (d := 66) rfl rfl rfl (f := 10) (args := #[.slice as_ ls cs_]) (by simp [execOp, go_sem, Act.eval]) (HC.out.2.2 v1 M2.out.keep) ?_)
          rintro e v2 ⟨sl2, rfl, k1, k2⟩
          have hT : Below wr.heap.size wr v2 := M2.out.belowr.trans (k2.mono M2.out.belowr.size)
          obtain ⟨r2, m2, q2, rfl⟩ := k1.shape
          have M3 := Lib.hid (HV.out.in_ hT)
          have N2 := Lib.hid (And.intro k1 k2)
          clear k1 k2 hT
          refine ⟨_, rfl, fun _ => HS.out _ M3.out, ?_⟩
          simp only [Act.put, List.setIfInBounds_toArray, List.set_cons_zero, List.set_cons_succ]
          have s1 := HS.out _ M3.out
          refine wpAnyL_get (i := 27) (d := 67) (v := .agg #[numV 2, str o.name, str [], .slice r0 m0 q0, .slice r1 m1 q1, .slice r2 m2 q2]) rfl rfl (by kernel_rfl) (by kernel_rfl) (by kernel_rfl) (by kernel_rfl) (by kernel_rfl) (fun _ _ _ h => h) rfl (fun w hS => by (try dsimp only at hS); go_simp) s1 ?_
          simp only [Act.put, List.setIfInBounds_toArray, List.set_cons_zero, List.set_cons_succ]
          clear s1
          obtain ⟨V5, hV5⟩ : ∃ V5, V5 = v2.alloc (.cells #[numV 2, str o.name, str [], .slice r0 m0 q0, .slice r1 m1 q1, .slice r2 m2 q2] 65) := ⟨_, rfl⟩
          have s5 := HS.out (v2.alloc (.cells #[numV 2, str o.name, str [], .slice r0 m0 q0, .slice r1 m1 q1, .slice r2 m2 q2] 65)) (HV.out.in_ (M3.out.belowr.alloc M3.out.belowr.size _))
          rw [← hV5] at s5
          refine wpAnyL_one (i := 28) (by kernel_rfl) (wpOpL_get (d := 68) rfl rfl rfl (v := .slice (some ⟨v2.heap.size, 0, none⟩) 1 1) (w' := V5) (by rw [hV5]; simp [execOp, go_sem, Act.eval]) ⟨fun _ => s5, ?_⟩)
          simp only [Act.put, List.setIfInBounds_toArray, List.set_cons_zero, List.set_cons_succ]
          clear s5
          subst hV5
          refine wpAnyL_one (i := 29) (by kernel_rfl) (wpOpL_law (d := 69) rfl rfl rfl (fun K' hK => ?_))
          refine wp_append_lies _ _ _ _ rfl w2.heap.size 65 i0 _ 6 112 Tryz.underlying24 hi hz0 hz1 hz2 rfl (by omega) (.slice al ll lc) acc.length xs (by rfl) (conv_next HV.out.row M3.out.belowr _).row.own
            ⟨v2.heap.size, 0, none⟩ 1 1 [numV 2, str o.name, str [], .slice r0 m0 q0, .slice r1 m1 q1, .slice r2 m2 q2] (by rfl) (by rfl) (World.news_of_block (cs := #[numV 2, str o.name, str [], .slice r0 m0 q0, .slice r1 m1 q1, .slice r2 m2 q2]) (t := 65) (fr := (0, 0)) (heap_alloc_new v2 _)) (by simp [Value.oneCell'])
            (by omega) (by have := HN.out.2.2.2; unfold FMax at this; unfold maxLen; omega) (by have := HN.out.2.2.2; unfold FMax at this; omega) (conv_next HV.out.row M3.out.belowr _).row.le _ rfl ?_
          intro g cap w9 ho hg hat hlt
          have hA := appd (conv_next HV.out.row M3.out.belowr _).row ho hg hat (Nat.le_refl _)
          have h4 := HV.out.in4 M3.out.belowr hA
          have s9 : w9.cell? ⟨w.heap.size, 0, none⟩ = some (.slice al ll lc) ∧ w9.cell? ⟨b2, 1, none⟩ = some (str o.name) ∧ w9.cell? ⟨b2, 4, none⟩ = some (str []) ∧ w9.cell? ⟨b2, 5, none⟩ = some (.slice av lv cv) ∧ w9.cell? ⟨b2, 7, none⟩ = some (.slice ad ld cd) ∧ w9.cell? ⟨b2, 6, none⟩ = some (.slice as_ ls cs_) := ⟨h4.1.cell 0, (h4.2 _ _ _ HB.out).cell 1, (h4.2 _ _ _ HB.out).cell 4, (h4.2 _ _ _ HB.out).cell 5, (h4.2 _ _ _ HB.out).cell 7, (h4.2 _ _ _ HB.out).cell 6⟩
          have f9 : ∀ o, w9.frozen? ⟨w.heap.size, o, none⟩ = false := h4.1.free
          have H9 := Lib.hid hA
          clear ho hg hat hlt hA h4
          refine hK _ _ ⟨fun _ => s9, ?_⟩
          clear hK K'
          simp only [Act.put, List.setIfInBounds_toArray, List.set_cons_zero, List.set_cons_succ]
          refine wpAnyL_get (i := 30) (d := 70) (v := .pointer (some ⟨w.heap.size, 0, none⟩)) rfl rfl (by kernel_rfl) (by kernel_rfl) (by kernel_rfl) (by kernel_rfl) (by kernel_rfl) (fun _ _ _ h => h) rfl (fun w hS => by (try dsimp only at hS); go_simp) s9 ?_
          simp only [Act.put, List.setIfInBounds_toArray, List.set_cons_zero, List.set_cons_succ]
          have g9 := s9.1
          refine wpAnyL_one (i := 31) (by kernel_rfl) (wpOpL_none rfl rfl rfl (w' := w9.setCell ⟨w.heap.size, 0, none⟩ (.slice (some ⟨g, 0, none⟩) (acc.length + 1) cap)) (by simp [execOp, go_sem, Act.eval, g9, f9]) ⟨(fun h => by cases h), ?_⟩)
          refine wpAnyL_done (by kernel_rfl) ?_ _
          clear s9 f9 g9
          go_wp2_with fail
          go_roundg k
          case measure => omega
          case rel =>
            have hcn := conv_next HV.out.row M3.out.belowr (.cells #[numV 2, str o.name, str [], .slice r0 m0 q0, .slice r1 m1 q1, .slice r2 m2 q2] 65)
            have hR0 : IilAt (CN w9 w2.heap.size (Value.slice (some ⟨g, 0, none⟩) (acc.length + 1) cap).ownBlock) (o.vars.map cInp) (.slice r0 m0 q0) := N0.out.1.mono (fun b i u k => H9.out.cn b i u (hcn.new b i u (CN.below N2.out.2 b i u (CN.below N1.out.2 b i u (CN.up (Nat.le_refl _) b i u k)))))
            have hR1 : IdlAt (CN w9 w2.heap.size (Value.slice (some ⟨g, 0, none⟩) (acc.length + 1) cap).ownBlock) (cDirs o.dirs) (.slice r1 m1 q1) := N1.out.1.mono (fun b i u k => H9.out.cn b i u (hcn.new b i u (CN.below N2.out.2 b i u (CN.up (M1.out.belowr.size) b i u k))))
            have hR2 : IslAt (CN w9 w2.heap.size (Value.slice (some ⟨g, 0, none⟩) (acc.length + 1) cap).ownBlock) (cSels o.sels) (.slice r2 m2 q2) := N2.out.1.mono (fun b i u k => H9.out.cn b i u (hcn.new b i u (CN.up (M2.out.belowr.size) b i u k)))
            have hI : IoAt (CN w9 w2.heap.size (Value.slice (some ⟨g, 0, none⟩) (acc.length + 1) cap).ownBlock) (cOp o) [numV 2, str o.name, str [], .slice r0 m0 q0, .slice r1 m1 q1, .slice r2 m2 q2] := ⟨_, _, _, by rw [show (cOp o).kind = 2 from HK.out]; rfl, hR0, hR1, hR2⟩
            exact ⟨_, _, _, _, _, HV.out.step ⟨HN.out.1, HN.out.2.1, HN.out.2.2.1⟩ M3.out.belowr H9.out (IosAt.snoc hI _ _ (IosAt.mono (fun b i u k => H9.out.cn b i u (hcn.old b i u k)) _ _ HV.out.el)) (fun C C' h l xs => IosAt.mono h l xs) (fun _ _ _ _ => trivial) rfl⟩
        · have HK : Hid ((cOp o).kind = 3) := Lib.hid (by show (if o.kind = 2 then (2 : Int) else if o.kind = 3 then 3 else 1) = 3; rw [if_neg hk2, if_pos hk])
          rw [he] at ck
          clear hk2 hk he
          go_wp2_with fail
          refine wp_region_late (S := fun W => W.cell? ⟨w.heap.size, 0, none⟩ = some (.slice al ll lc) ∧ W.cell? ⟨b2, 1, none⟩ = some (str o.name) ∧ W.cell? ⟨b2, 4, none⟩ = some (str []) ∧ W.cell? ⟨b2, 5, none⟩ = some (.slice av lv cv) ∧ W.cell? ⟨b2, 7, none⟩ = some (.slice ad ld cd) ∧ W.cell? ⟨b2, 6, none⟩ = some (.slice as_ ls cs_)) (late := fun i => i == 31) (by kernel_rfl) ?_
          refine wpAnyL_get (i := 0) (d := 40) (v := .pointer (some ⟨w.heap.size, 0, none⟩)) rfl rfl (by kernel_rfl) (by kernel_rfl) (by kernel_rfl) (by kernel_rfl) (by kernel_rfl) (fun _ _ _ h => h) rfl (fun w hS => by (try dsimp only at hS); go_simp) s0 ?_
          simp only [Act.put, List.setIfInBounds_toArray, List.set_cons_zero, List.set_cons_succ]
          refine wpAnyL_get (i := 1) (d := 41) (v := .slice al ll lc) rfl rfl (by kernel_rfl) (by kernel_rfl) (by kernel_rfl) (by kernel_rfl) (by kernel_rfl) (fun _ _ _ h => h) rfl (fun w hS => by (try dsimp only at hS); go_simp) s0 ?_
          simp only [Act.put, List.setIfInBounds_toArray, List.set_cons_zero, List.set_cons_succ]
          refine wpAnyL_get (i := 2) (d := 42) (v := numV 3) rfl rfl (by kernel_rfl) (by kernel_rfl) (by kernel_rfl) (by kernel_rfl) (by kernel_rfl) (fun _ _ _ h => h) rfl (fun w hS => by (try dsimp only at hS); go_simp) s0 ?_
          simp only [Act.put, List.setIfInBounds_toArray, List.set_cons_zero, List.set_cons_succ]
          refine wpAnyL_get (i := 3) (d := 43) (v := ptrV b2) rfl rfl (by kernel_rfl) (by kernel_rfl) (by kernel_rfl) (by kernel_rfl) (by kernel_rfl) (fun _ _ _ h => h) rfl (fun w hS => by (try dsimp only at hS); go_simp) s0 ?_
          simp only [Act.put, List.setIfInBounds_toArray, List.set_cons_zero, List.set_cons_succ]
          refine wpAnyL_get (i := 4) (d := 44) (v := ptrV b2) rfl rfl (by kernel_rfl) (by kernel_rfl) (by kernel_rfl) (by kernel_rfl) (by kernel_rfl) (fun _ _ _ h => h) rfl (fun w hS => by (try dsimp only at hS); go_simp) s0 ?_
          simp only [Act.put, List.setIfInBounds_toArray, List.set_cons_zero, List.set_cons_succ]
          refine wpAnyL_get (i := 5) (d := 45) (v := .pointer (some ⟨b2, 1, none⟩)) rfl rfl (by kernel_rfl) (by kernel_rfl) (by kernel_rfl) (by kernel_rfl) (by kernel_rfl) (fun _ _ _ h => h) rfl (fun w hS => by (try dsimp only at hS); go_simp) s0 ?_
          simp only [Act.put, List.setIfInBounds_toArray, List.set_cons_zero, List.set_cons_succ]
          refine wpAnyL_get (i := 6) (d := 46) (v := .pointer (some ⟨b2, 1, none⟩)) rfl rfl (by kernel_rfl) (by kernel_rfl) (by kernel_rfl) (by kernel_rfl) (by kernel_rfl) (fun _ _ _ h => h) rfl (fun w hS => by (try dsimp only at hS); go_simp) s0 ?_
          simp only [Act.put, List.setIfInBounds_toArray, List.set_cons_zero, List.set_cons_succ]
          refine wpAnyL_get (i := 7) (d := 47) (v := str o.name) rfl rfl (by kernel_rfl) (by kernel_rfl) (by kernel_rfl) (by kernel_rfl) (by kernel_rfl) (fun _ _ _ h => h) rfl (fun w hS => by (try dsimp only at hS); go_simp) s0 ?_
          simp only [Act.put, List.setIfInBounds_toArray, List.set_cons_zero, List.set_cons_succ]
          refine wpAnyL_get (i := 8) (d := 48) (v := ptrV b2) rfl rfl (by kernel_rfl) (by kernel_rfl) (by kernel_rfl) (by kernel_rfl) (by kernel_rfl) (fun _ _ _ h => h) rfl (fun w hS => by (try dsimp only at hS); go_simp) s0 ?_
          simp only [Act.put, List.setIfInBounds_toArray, List.set_cons_zero, List.set_cons_succ]
          refine wpAnyL_get (i := 9) (d := 49) (v := ptrV b2) rfl rfl (by kernel_rfl) (by kernel_rfl) (by kernel_rfl) (by kernel_rfl) (by kernel_rfl) (fun _ _ _ h => h) rfl (fun w hS => by (try dsimp only at hS); go_simp) s0 ?_
          simp only [Act.put, List.setIfInBounds_toArray, List.set_cons_zero, List.set_cons_succ]
          refine wpAnyL_get (i := 10) (d := 50) (v := .pointer (some ⟨b2, 4, none⟩)) rfl rfl (by kernel_rfl) (by kernel_rfl) (by kernel_rfl) (by kernel_rfl) (by kernel_rfl) (fun _ _ _ h => h) rfl (fun w hS => by (try dsimp only at hS); go_simp) s0 ?_
          simp only [Act.put, List.setIfInBounds_toArray, List.set_cons_zero, List.set_cons_succ]
          refine wpAnyL_get (i := 11) (d := 51) (v := str []) rfl rfl (by kernel_rfl) (by kernel_rfl) (by kernel_rfl) (by kernel_rfl) (by kernel_rfl) (fun _ _ _ h => h) rfl (fun w hS => by (try dsimp only at hS); go_simp) s0 ?_
          simp only [Act.put, List.setIfInBounds_toArray, List.set_cons_zero, List.set_cons_succ]
          refine wpAnyL_get (i := 12) (d := 52) (v := ptrV b2) rfl rfl (by kernel_rfl) (by kernel_rfl) (by kernel_rfl) (by kernel_rfl) (by kernel_rfl) (fun _ _ _ h => h) rfl (fun w hS => by (try dsimp only at hS); go_simp) s0 ?_
          simp only [Act.put, List.setIfInBounds_toArray, List.set_cons_zero, List.set_cons_succ]
          refine wpAnyL_get (i := 13) (d := 53) (v := ptrV b2) rfl rfl (by kernel_rfl) (by kernel_rfl) (by kernel_rfl) (by kernel_rfl) (by kernel_rfl) (fun _ _ _ h => h) rfl (fun w hS => by (try dsimp only at hS); go_simp) s0 ?_
          simp only [Act.put, List.setIfInBounds_toArray, List.set_cons_zero, List.set_cons_succ]
          refine wpAnyL_get (i := 14) (d := 54) (v := .pointer (some ⟨b2, 5, none⟩)) rfl rfl (by kernel_rfl) (by kernel_rfl) (by kernel_rfl) (by kernel_rfl) (by kernel_rfl) (fun _ _ _ h => h) rfl (fun w hS => by (try dsimp only at hS); go_simp) s0 ?_
          simp only [Act.put, List.setIfInBounds_toArray, List.set_cons_zero, List.set_cons_succ]
          refine wpAnyL_get (i := 15) (d := 55) (v := .slice av lv cv) rfl rfl (by kernel_rfl) (by kernel_rfl) (by kernel_rfl) (by kernel_rfl) (by kernel_rfl) (fun _ _ _ h => h) rfl (fun w hS => by (try dsimp only at hS); go_simp) s0 ?_
          simp only [Act.put, List.setIfInBounds_toArray, List.set_cons_zero, List.set_cons_succ]
          refine wpAnyL_get (i := 17) (d := 57) (v := ptrV b2) rfl rfl (by kernel_rfl) (by kernel_rfl) (by kernel_rfl) (by kernel_rfl) (by kernel_rfl) (fun _ _ _ h => h) rfl (fun w hS => by (try dsimp only at hS); go_simp) s0 ?_
          simp only [Act.put, List.setIfInBounds_toArray, List.set_cons_zero, List.set_cons_succ]
          refine wpAnyL_get (i := 18) (d := 58) (v := ptrV b2) rfl rfl (by kernel_rfl) (by kernel_rfl) (by kernel_rfl) (by kernel_rfl) (by kernel_rfl) (fun _ _ _ h => h) rfl (fun w hS => by (try dsimp only at hS); go_simp) s0 ?_
          simp only [Act.put, List.setIfInBounds_toArray, List.set_cons_zero, List.set_cons_succ]
          refine wpAnyL_get (i := 19) (d := 59) (v := .pointer (some ⟨b2, 7, none⟩)) rfl rfl (by kernel_rfl) (by kernel_rfl) (by kernel_rfl) (by kernel_rfl) (by kernel_rfl) (fun _ _ _ h => h) rfl (fun w hS => by (try dsimp only at hS); go_simp) s0 ?_
          simp only [Act.put, List.setIfInBounds_toArray, List.set_cons_zero, List.set_cons_succ]
          refine wpAnyL_get (i := 20) (d := 60) (v := .slice ad ld cd) rfl rfl (by kernel_rfl) (by kernel_rfl) (by kernel_rfl) (by kernel_rfl) (by kernel_rfl) (fun _ _ _ h => h) rfl (fun w hS => by (try dsimp only at hS); go_simp) s0 ?_
          simp only [Act.put, List.setIfInBounds_toArray, List.set_cons_zero, List.set_cons_succ]
          refine wpAnyL_get (i := 22) (d := 62) (v := ptrV b2) rfl rfl (by kernel_rfl) (by kernel_rfl) (by kernel_rfl) (by kernel_rfl) (by kernel_rfl) (fun _ _ _ h => h) rfl (fun w hS => by (try dsimp only at hS); go_simp) s0 ?_
          simp only [Act.put, List.setIfInBounds_toArray, List.set_cons_zero, List.set_cons_succ]
          refine wpAnyL_get (i := 23) (d := 63) (v := ptrV b2) rfl rfl (by kernel_rfl) (by kernel_rfl) (by kernel_rfl) (by kernel_rfl) (by kernel_rfl) (fun _ _ _ h => h) rfl (fun w hS => by (try dsimp only at hS); go_simp) s0 ?_
          simp only [Act.put, List.setIfInBounds_toArray, List.set_cons_zero, List.set_cons_succ]
          refine wpAnyL_get (i := 24) (d := 64) (v := .pointer (some ⟨b2, 6, none⟩)) rfl rfl (by kernel_rfl) (by kernel_rfl) (by kernel_rfl) (by kernel_rfl) (by kernel_rfl) (fun _ _ _ h => h) rfl (fun w hS => by (try dsimp only at hS); go_simp) s0 ?_
          simp only [Act.put, List.setIfInBounds_toArray, List.set_cons_zero, List.set_cons_succ]
          refine wpAnyL_get (i := 25) (d := 65) (v := .slice as_ ls cs_) rfl rfl (by kernel_rfl) (by kernel_rfl) (by kernel_rfl) (by kernel_rfl) (by kernel_rfl) (fun _ _ _ h => h) rfl (fun w hS => by (try dsimp only at hS); go_simp) s0 ?_
          simp only [Act.put, List.setIfInBounds_toArray, List.set_cons_zero, List.set_cons_succ]
          clear s0 cj ck
          refine wpAnyL_one (i := 16) (by kernel_rfl) (wpOpL_enter (d := 56) rfl rfl rfl (f := 8) (args := #[.slice av lv cv]) (by simp [execOp, go_sem, Act.eval]) (HC.out.1 wr.drew M0.out.keep) ?_)
          rintro e v0 ⟨sl0, rfl, k1, k2⟩
          have k2 := below_drew k2
          have hT : Below wr.heap.size wr v0 := k2
          obtain ⟨r0, m0, q0, rfl⟩ := k1.shape
          have M1 := Lib.hid (HV.out.in_ hT)
          have N0 := Lib.hid (And.intro k1 k2)
          clear k1 k2 hT
          refine ⟨_, rfl, fun _ => HS.out _ M1.out, ?_⟩
          simp only [Act.put, List.setIfInBounds_toArray, List.set_cons_zero, List.set_cons_succ]
          refine wpAnyL_one (i := 21) (by kernel_rfl) (wpOpL_enter (d := 61) rfl rfl rfl (f := 9) (args := #[.slice ad ld cd]) (by simp [execOp, go_sem, Act.eval]) (HC.out.2.1 v0 M1.out.keep) ?_)
          rintro e v1 ⟨sl1, rfl, k1, k2⟩
          have hT : Below wr.heap.size wr v1 := M1.out.belowr.trans (k2.mono M1.out.belowr.size)
          obtain ⟨r1, m1, q1, rfl⟩ := k1.shape
          have M2 := Lib.hid (HV.out.in_ hT)
          have N1 := Lib.hid (And.intro k1 k2)
          clear k1 k2 hT
          refine ⟨_, rfl, fun _ => HS.out _ M2.out, ?_⟩
          simp only [Act.put, List.setIfInBounds_toArray, List.set_cons_zero, List.set_cons_succ]
          refine wpAnyL_one (i := 26) (by kernel_rfl) (wpOpL_enter (d := 66) rfl rfl rfl (f := 10) (args := #[.slice as_ ls cs_]) (by simp [execOp, go_sem, Act.eval]) (HC.out.2.2 v1 M2.out.keep) ?_)
          rintro e v2 ⟨sl2, rfl, k1, k2⟩
          have hT : Below wr.heap.size wr v2 := M2.out.belowr.trans (k2.mono M2.out.belowr.size)
          obtain ⟨r2, m2, q2, rfl⟩ := k1.shape
          have M3 := Lib.hid (HV.out.in_ hT)
          have N2 := Lib.hid (And.intro k1 k2)
          clear k1 k2 hT
          refine ⟨_, rfl, fun _ => HS.out _ M3.out, ?_⟩
          simp only [Act.put, List.setIfInBounds_toArray, List.set_cons_zero, List.set_cons_succ]
          have s1 := HS.out _ M3.out
          refine wpAnyL_get (i := 27) (d := 67) (v := .agg #[numV 3, str o.name, str [], .slice r0 m0 q0, .slice r1 m1 q1, .slice r2 m2 q2]) rfl rfl (by kernel_rfl) (by kernel_rfl) (by kernel_rfl) (by kernel_rfl) (by kernel_rfl) (fun _ _ _ h => h) rfl (fun w hS => by (try dsimp only at hS); go_simp) s1 ?_
          simp only [Act.put, List.setIfInBounds_toArray, List.set_cons_zero, List.set_cons_succ]
          clear s1
          obtain ⟨V5, hV5⟩ : ∃ V5, V5 = v2.alloc (.cells #[numV 3, str o.name, str [], .slice r0 m0 q0, .slice r1 m1 q1, .slice r2 m2 q2] 65) := ⟨_, rfl⟩
          have s5 := HS.out (v2.alloc (.cells #[numV 3, str o.name, str [], .slice r0 m0 q0, .slice r1 m1 q1, .slice r2 m2 q2] 65)) (HV.out.in_ (M3.out.belowr.alloc M3.out.belowr.size _))
          rw [← hV5] at s5
          refine wpAnyL_one (i := 28) (by kernel_rfl) (wpOpL_get (d := 68) rfl rfl rfl (v := .slice (some ⟨v2.heap.size, 0, none⟩) 1 1) (w' := V5) (by rw [hV5]; simp [execOp, go_sem, Act.eval]) ⟨fun _ => s5, ?_⟩)
          simp only [Act.put, List.setIfInBounds_toArray, List.set_cons_zero, List.set_cons_succ]
          clear s5
          subst hV5
          refine wpAnyL_one (i := 29) (by kernel_rfl) (wpOpL_law (d := 69) rfl rfl rfl (fun K' hK => ?_))
          refine wp_append_lies _ _ _ _ rfl w2.heap.size 65 i0 _ 6 112 Tryz.underlying24 hi hz0 hz1 hz2 rfl (by omega) (.slice al ll lc) acc.length xs (by rfl) (conv_next HV.out.row M3.out.belowr _).row.own
            ⟨v2.heap.size, 0, none⟩ 1 1 [numV 3, str o.name, str [], .slice r0 m0 q0, .slice r1 m1 q1, .slice r2 m2 q2] (by rfl) (by rfl) (World.news_of_block (cs := #[numV 3, str o.name, str [], .slice r0 m0 q0, .slice r1 m1 q1, .slice r2 m2 q2]) (t := 65) (fr := (0, 0)) (heap_alloc_new v2 _)) (by simp [Value.oneCell'])
            (by omega) (by have := HN.out.2.2.2; unfold FMax at this; unfold maxLen; omega) (by have := HN.out.2.2.2; unfold FMax at this; omega) (conv_next HV.out.row M3.out.belowr _).row.le _ rfl ?_
          intro g cap w9 ho hg hat hlt
          have hA := appd (conv_next HV.out.row M3.out.belowr _).row ho hg hat (Nat.le_refl _)
          have h4 := HV.out.in4 M3.out.belowr hA
          have s9 : w9.cell? ⟨w.heap.size, 0, none⟩ = some (.slice al ll lc) ∧ w9.cell? ⟨b2, 1, none⟩ = some (str o.name) ∧ w9.cell? ⟨b2, 4, none⟩ = some (str []) ∧ w9.cell? ⟨b2, 5, none⟩ = some (.slice av lv cv) ∧ w9.cell? ⟨b2, 7, none⟩ = some (.slice ad ld cd) ∧ w9.cell? ⟨b2, 6, none⟩ = some (.slice as_ ls cs_) := ⟨h4.1.cell 0, (h4.2 _ _ _ HB.out).cell 1, (h4.2 _ _ _ HB.out).cell 4, (h4.2 _ _ _ HB.out).cell 5, (h4.2 _ _ _ HB.out).cell 7, (h4.2 _ _ _ HB.out).cell 6⟩
          have f9 : ∀ o, w9.frozen? ⟨w.heap.size, o, none⟩ = false := h4.1.free
          have H9 := Lib.hid hA
          clear ho hg hat hlt hA h4
          refine hK _ _ ⟨fun _ => s9, ?_⟩
          clear hK K'
          simp only [Act.put, List.setIfInBounds_toArray, List.set_cons_zero, List.set_cons_succ]
          refine wpAnyL_get (i := 30) (d := 70) (v := .pointer (some ⟨w.heap.size, 0, none⟩)) rfl rfl (by kernel_rfl) (by kernel_rfl) (by kernel_rfl) (by kernel_rfl) (by kernel_rfl) (fun _ _ _ h => h) rfl (fun w hS => by (try dsimp only at hS); go_simp) s9 ?_
          simp only [Act.put, List.setIfInBounds_toArray, List.set_cons_zero, List.set_cons_succ]
          have g9 := s9.1
          refine wpAnyL_one (i := 31) (by kernel_rfl) (wpOpL_none rfl rfl rfl (w' := w9.setCell ⟨w.heap.size, 0, none⟩ (.slice (some ⟨g, 0, none⟩) (acc.length + 1) cap)) (by simp [execOp, go_sem, Act.eval, g9, f9]) ⟨(fun h => by cases h), ?_⟩)
          refine wpAnyL_done (by kernel_rfl) ?_ _
          clear s9 f9 g9
          go_wp2_with fail
          go_roundg k
          case measure => omega
          case rel =>
            have hcn := conv_next HV.out.row M3.out.belowr (.cells #[numV 3, str o.name, str [], .slice r0 m0 q0, .slice r1 m1 q1, .slice r2 m2 q2] 65)
            have hR0 : IilAt (CN w9 w2.heap.size (Value.slice (some ⟨g, 0, none⟩) (acc.length + 1) cap).ownBlock) (o.vars.map cInp) (.slice r0 m0 q0) := N0.out.1.mono (fun b i u k => H9.out.cn b i u (hcn.new b i u (CN.below N2.out.2 b i u (CN.below N1.out.2 b i u (CN.up (Nat.le_refl _) b i u k)))))
            have hR1 : IdlAt (CN w9 w2.heap.size (Value.slice (some ⟨g, 0, none⟩) (acc.length + 1) cap).ownBlock) (cDirs o.dirs) (.slice r1 m1 q1) := N1.out.1.mono (fun b i u k => H9.out.cn b i u (hcn.new b i u (CN.below N2.out.2 b i u (CN.up (M1.out.belowr.size) b i u k))))
            have hR2 : IslAt (CN w9 w2.heap.size (Value.slice (some ⟨g, 0, none⟩) (acc.length + 1) cap).ownBlock) (cSels o.sels) (.slice r2 m2 q2) := N2.out.1.mono (fun b i u k => H9.out.cn b i u (hcn.new b i u (CN.up (M2.out.belowr.size) b i u k)))
            have hI : IoAt (CN w9 w2.heap.size (Value.slice (some ⟨g, 0, none⟩) (acc.length + 1) cap).ownBlock) (cOp o) [numV 3, str o.name, str [], .slice r0 m0 q0, .slice r1 m1 q1, .slice r2 m2 q2] := ⟨_, _, _, by rw [show (cOp o).kind = 3 from HK.out]; rfl, hR0, hR1, hR2⟩
            exact ⟨_, _, _, _, _, HV.out.step ⟨HN.out.1, HN.out.2.1, HN.out.2.2.1⟩ M3.out.belowr H9.out (IosAt.snoc hI _ _ (IosAt.mono (fun b i u k => H9.out.cn b i u (hcn.old b i u k)) _ _ HV.out.el)) (fun C C' h l xs => IosAt.mono h l xs) (fun _ _ _ _ => trivial) rfl⟩
        · have HK : Hid ((cOp o).kind = 1) := Lib.hid (by show (if o.kind = 2 then (2 : Int) else if o.kind = 3 then 3 else 1) = 1; rw [if_neg hk2, if_neg hk3])
          rw [he] at ck
          clear hk2 hk3 he
          go_wp2_with fail
          refine wp_region_late (S := fun W => W.cell? ⟨w.heap.size, 0, none⟩ = some (.slice al ll lc) ∧ W.cell? ⟨b2, 1, none⟩ = some (str o.name) ∧ W.cell? ⟨b2, 4, none⟩ = some (str []) ∧ W.cell? ⟨b2, 5, none⟩ = some (.slice av lv cv) ∧ W.cell? ⟨b2, 7, none⟩ = some (.slice ad ld cd) ∧ W.cell? ⟨b2, 6, none⟩ = some (.slice as_ ls cs_)) (late := fun i => i == 31) (by kernel_rfl) ?_
          refine wpAnyL_get (i := 0) (d := 40) (v := .pointer (some ⟨w.heap.size, 0, none⟩)) rfl rfl (by kernel_rfl) (by kernel_rfl) (by kernel_rfl) (by kernel_rfl) (by kernel_rfl) (fun _ _ _ h => h) rfl (fun w hS => by (try dsimp only at hS); go_simp) s0 ?_
          simp only [Act.put, List.setIfInBounds_toArray, List.set_cons_zero, List.set_cons_succ]
          refine wpAnyL_get (i := 1) (d := 41) (v := .slice al ll lc) rfl rfl (by kernel_rfl) (by kernel_rfl) (by kernel_rfl) (by kernel_rfl) (by kernel_rfl) (fun _ _ _ h => h) rfl (fun w hS => by (try dsimp only at hS); go_simp) s0 ?_
          simp only [Act.put, List.setIfInBounds_toArray, List.set_cons_zero, List.set_cons_succ]
          refine wpAnyL_get (i := 2) (d := 42) (v := numV 1) rfl rfl (by kernel_rfl) (by kernel_rfl) (by kernel_rfl) (by kernel_rfl) (by kernel_rfl) (fun _ _ _ h => h) rfl (fun w hS => by (try dsimp only at hS); go_simp) s0 ?_
          simp only [Act.put, List.setIfInBounds_toArray, List.set_cons_zero, List.set_cons_succ]
          refine wpAnyL_get (i := 3) (d := 43) (v := ptrV b2) rfl rfl (by kernel_rfl) (by kernel_rfl) (by kernel_rfl) (by kernel_rfl) (by kernel_rfl) (fun _ _ _ h => h) rfl (fun w hS => by (try dsimp only at hS); go_simp) s0 ?_
          simp only [Act.put, List.setIfInBounds_toArray, List.set_cons_zero, List.set_cons_succ]
          refine wpAnyL_get (i := 4) (d := 44) (v := ptrV b2) rfl rfl (by kernel_rfl) (by kernel_rfl) (by kernel_rfl) (by kernel_rfl) (by kernel_rfl) (fun _ _ _ h => h) rfl (fun w hS => by (try dsimp only at hS); go_simp) s0 ?_
          simp only [Act.put, List.setIfInBounds_toArray, List.set_cons_zero, List.set_cons_succ]
          refine wpAnyL_get (i := 5) (d := 45) (v := .pointer (some ⟨b2, 1, none⟩)) rfl rfl (by kernel_rfl) (by kernel_rfl) (by kernel_rfl) (by kernel_rfl) (by kernel_rfl) (fun _ _ _ h => h) rfl (fun w hS => by (try dsimp only at hS); go_simp) s0 ?_
          simp only [Act.put, List.setIfInBounds_toArray, List.set_cons_zero, List.set_cons_succ]
          refine wpAnyL_get (i := 6) (d := 46) (v := .pointer (some ⟨b2, 1, none⟩)) rfl rfl (by kernel_rfl) (by kernel_rfl) (by kernel_rfl) (by kernel_rfl) (by kernel_rfl) (fun _ _ _ h => h) rfl (fun w hS => by (try dsimp only at hS); go_simp) s0 ?_
          simp only [Act.put, List.setIfInBounds_toArray, List.set_cons_zero, List.set_cons_succ]
          refine wpAnyL_get (i := 7) (d := 47) (v := str o.name) rfl rfl (by kernel_rfl) (by kernel_rfl) (by kernel_rfl) (by kernel_rfl) (by kernel_rfl) (fun _ _ _ h => h) rfl (fun w hS => by (try dsimp only at hS); go_simp) s0 ?_
          simp only [Act.put, List.setIfInBounds_toArray, List.set_cons_zero, List.set_cons_succ]
          refine wpAnyL_get (i := 8) (d := 48) (v := ptrV b2) rfl rfl (by kernel_rfl) (by kernel_rfl) (by kernel_rfl) (by kernel_rfl) (by kernel_rfl) (fun _ _ _ h => h) rfl (fun w hS => by (try dsimp only at hS); go_simp) s0 ?_
          simp only [Act.put, List.setIfInBounds_toArray, List.set_cons_zero, List.set_cons_succ]
          refine wpAnyL_get (i := 9) (d := 49) (v := ptrV b2) rfl rfl (by kernel_rfl) (by kernel_rfl) (by kernel_rfl) (by kernel_rfl) (by kernel_rfl) (fun _ _ _ h => h) rfl (fun w hS => by (try dsimp only at hS); go_simp) s0 ?_
          simp only [Act.put, List.setIfInBounds_toArray, List.set_cons_zero, List.set_cons_succ]
          refine wpAnyL_get (i := 10) (d := 50) (v := .pointer (some ⟨b2, 4, none⟩)) rfl rfl (by kernel_rfl) (by kernel_rfl) (by kernel_rfl) (by kernel_rfl) (by kernel_rfl) (fun _ _ _ h => h) rfl (fun w hS => by (try dsimp only at hS); go_simp) s0 ?_
          simp only [Act.put, List.setIfInBounds_toArray, List.set_cons_zero, List.set_cons_succ]
          refine wpAnyL_get (i := 11) (d := 51) (v := str []) rfl rfl (by kernel_rfl) (by kernel_rfl) (by kernel_rfl) (by kernel_rfl) (by kernel_rfl) (fun _ _ _ h => h) rfl (fun w hS => by (try dsimp only at hS); go_simp) s0 ?_
          simp only [Act.put, List.setIfInBounds_toArray, List.set_cons_zero, List.set_cons_succ]
          refine wpAnyL_get (i := 12) (d := 52) (v := ptrV b2) rfl rfl (by kernel_rfl) (by kernel_rfl) (by kernel_rfl) (by kernel_rfl) (by kernel_rfl) (fun _ _ _ h => h) rfl (fun w hS => by (try dsimp only at hS); go_simp) s0 ?_
          simp only [Act.put, List.setIfInBounds_toArray, List.set_cons_zero, List.set_cons_succ]
          refine wpAnyL_get (i := 13) (d := 53) (v := ptrV b2) rfl rfl (by kernel_rfl) (by kernel_rfl) (by kernel_rfl) (by kernel_rfl) (by kernel_rfl) (fun _ _ _ h => h) rfl (fun w hS => by (try dsimp only at hS); go_simp) s0 ?_
          simp only [Act.put, List.setIfInBounds_toArray, List.set_cons_zero, List.set_cons_succ]
          refine wpAnyL_get (i := 14) (d := 54) (v := .pointer (some ⟨b2, 5, none⟩)) rfl rfl (by kernel_rfl) (by kernel_rfl) (by kernel_rfl) (by kernel_rfl) (by kernel_rfl) (fun _ _ _ h => h) rfl (fun w hS => by (try dsimp only at hS); go_simp) s0 ?_
          simp only [Act.put, List.setIfInBounds_toArray, List.set_cons_zero, List.set_cons_succ]
          refine wpAnyL_get (i := 15) (d := 55) (v := .slice av lv cv) rfl rfl (by kernel_rfl) (by kernel_rfl) (by kernel_rfl) (by kernel_rfl) (by kernel_rfl) (fun _ _ _ h => h) rfl (fun w hS => by (try dsimp only at hS); go_simp) s0 ?_
          simp only [Act.put, List.setIfInBounds_toArray, List.set_cons_zero, List.set_cons_succ]
          refine wpAnyL_get (i := 17) (d := 57) (v := ptrV b2) rfl rfl (by kernel_rfl) (by kernel_rfl) (by kernel_rfl) (by kernel_rfl) (by kernel_rfl) (fun _ _ _ h => h) rfl (fun w hS => by (try dsimp only at hS); go_simp) s0 ?_
          simp only [Act.put, List.setIfInBounds_toArray, List.set_cons_zero, List.set_cons_succ]
          refine wpAnyL_get (i := 18) (d := 58) (v := ptrV b2) rfl rfl (by kernel_rfl) (by kernel_rfl) (by kernel_rfl) (by kernel_rfl) (by kernel_rfl) (fun _ _ _ h => h) rfl (fun w hS => by (try dsimp only at hS); go_simp) s0 ?_
          simp only [Act.put, List.setIfInBounds_toArray, List.set_cons_zero, List.set_cons_succ]
          refine wpAnyL_get (i := 19) (d := 59) (v := .pointer (some ⟨b2, 7, none⟩)) rfl rfl (by kernel_rfl) (by kernel_rfl) (by kernel_rfl) (by kernel_rfl) (by kernel_rfl) (fun _ _ _ h => h) rfl (fun w hS => by (try dsimp only at hS); go_simp) s0 ?_
          simp only [Act.put, List.setIfInBounds_toArray, List.set_cons_zero, List.set_cons_succ]
          refine wpAnyL_get (i := 20) (d := 60) (v := .slice ad ld cd) rfl rfl (by kernel_rfl) (by kernel_rfl) (by kernel_rfl) (by kernel_rfl) (by kernel_rfl) (fun _ _ _ h => h) rfl (fun w hS => by (try dsimp only at hS); go_simp) s0 ?_
          simp only [Act.put, List.setIfInBounds_toArray, List.set_cons_zero, List.set_cons_succ]
          refine wpAnyL_get (i := 22) (d := 62) (v := ptrV b2) rfl rfl (by kernel_rfl) (by kernel_rfl) (by kernel_rfl) (by kernel_rfl) (by kernel_rfl) (fun _ _ _ h => h) rfl (fun w hS => by (try dsimp only at hS); go_simp) s0 ?_
          simp only [Act.put, List.setIfInBounds_toArray, List.set_cons_zero, List.set_cons_succ]
          refine wpAnyL_get (i := 23) (d := 63) (v := ptrV b2) rfl rfl (by kernel_rfl) (by kernel_rfl) (by kernel_rfl) (by kernel_rfl) (by kernel_rfl) (fun _ _ _ h => h) rfl (fun w hS => by (try dsimp only at hS); go_simp) s0 ?_
          simp only [Act.put, List.setIfInBounds_toArray, List.set_cons_zero, List.set_cons_succ]
          refine wpAnyL_get (i := 24) (d := 64) (v := .pointer (some ⟨b2, 6, none⟩)) rfl rfl (by kernel_rfl) (by kernel_rfl) (by kernel_rfl) (by kernel_rfl) (by kernel_rfl) (fun _ _ _ h => h) rfl (fun w hS => by (try dsimp only at hS); go_simp) s0 ?_
          simp only [Act.put, List.setIfInBounds_toArray, List.set_cons_zero, List.set_cons_succ]
          refine wpAnyL_get (i := 25) (d := 65) (v := .slice as_ ls cs_) rfl rfl (by kernel_rfl) (by kernel_rfl) (by kernel_rfl) (by kernel_rfl) (by kernel_rfl) (fun _ _ _ h => h) rfl (fun w hS => by (try dsimp only at hS); go_simp) s0 ?_
          simp only [Act.put, List.setIfInBounds_toArray, List.set_cons_zero, List.set_cons_succ]
          clear s0 cj ck
          refine wpAnyL_one (i := 16) (by kernel_rfl) (wpOpL_enter (d := 56) rfl rfl rfl (f := 8) (args := #[.slice av lv cv]) (by simp [execOp, go_sem, Act.eval]) (HC.out.1 wr.drew M0.out.keep) ?_)
          rintro e v0 ⟨sl0, rfl, k1, k2⟩
          have k2 := below_drew k2
          have hT : Below wr.heap.size wr v0 := k2
          obtain ⟨r0, m0, q0, rfl⟩ := k1.shape
          have M1 := Lib.hid (HV.out.in_ hT)
          have N0 := Lib.hid (And.intro k1 k2)
          clear k1 k2 hT
          refine ⟨_, rfl, fun _ => HS.out _ M1.out, ?_⟩
          simp only [Act.put, List.setIfInBounds_toArray, List.set_cons_zero, List.set_cons_succ]
          refine wpAnyL_one (i := 21) (by kernel_rfl) (wpOpL_enter (d := 61) rfl rfl rfl (f := 9) (args := #[.slice ad ld cd]) (by simp [execOp, go_sem, Act.eval]) (HC.out.2.1 v0 M1.out.keep) ?_)
          rintro e v1 ⟨sl1, rfl, k1, k2⟩
          have hT : Below wr.heap.size wr v1 := M1.out.belowr.trans (k2.mono M1.out.belowr.size)
          obtain ⟨r1, m1, q1, rfl⟩ := k1.shape
          have M2 := Lib.hid (HV.out.in_ hT)
          have N1 := Lib.hid (And.intro k1 k2)
          clear k1 k2 hT
          refine ⟨_, rfl, fun _ => HS.out _ M2.out, ?_⟩
          simp only [Act.put, List.setIfInBounds_toArray, List.set_cons_zero, List.set_cons_succ]
          refine wpAnyL_one (i := 26) (by kernel_rfl) (wpOpL_enter (d := 66) rfl rfl rfl (f := 10) (args := #[.slice as_ ls cs_]) (by simp [execOp, go_sem, Act.eval]) (HC.out.2.2 v1 M2.out.keep) ?_)
          rintro e v2 ⟨sl2, rfl, k1, k2⟩
          have hT : Below wr.heap.size wr v2 := M2.out.belowr.trans (k2.mono M2.out.belowr.size)
          obtain ⟨r2, m2, q2, rfl⟩ := k1.shape
          have M3 := Lib.hid (HV.out.in_ hT)
          have N2 := Lib.hid (And.intro k1 k2)
          clear k1 k2 hT
          refine ⟨_, rfl, fun _ => HS.out _ M3.out, ?_⟩
          simp only [Act.put, List.setIfInBounds_toArray, List.set_cons_zero, List.set_cons_succ]
          have s1 := HS.out _ M3.out
          refine wpAnyL_get (i := 27) (d := 67) (v := .agg #[numV 1, str o.name, str [], .slice r0 m0 q0, .slice r1 m1 q1, .slice r2 m2 q2]) rfl rfl (by kernel_rfl) (by kernel_rfl) (by kernel_rfl) (by kernel_rfl) (by kernel_rfl) (fun _ _ _ h => h) rfl (fun w hS => by (try dsimp only at hS); go_simp) s1 ?_
          simp only [Act.put, List.setIfInBounds_toArray, List.set_cons_zero, List.set_cons_succ]
          clear s1
          obtain ⟨V5, hV5⟩ : ∃ V5, V5 = v2.alloc (.cells #[numV 1, str o.name, str [], .slice r0 m0 q0, .slice r1 m1 q1, .slice r2 m2 q2] 65) := ⟨_, rfl⟩
          have s5 := HS.out (v2.alloc (.cells #[numV 1, str o.name, str [], .slice r0 m0 q0, .slice r1 m1 q1, .slice r2 m2 q2] 65)) (HV.out.in_ (M3.out.belowr.alloc M3.out.belowr.size _))
          rw [← hV5] at s5
          refine wpAnyL_one (i := 28) (by kernel_rfl) (wpOpL_get (d := 68) rfl rfl rfl (v := .slice (some ⟨v2.heap.size, 0, none⟩) 1 1) (w' := V5) (by rw [hV5]; simp [execOp, go_sem, Act.eval]) ⟨fun _ => s5, ?_⟩)
          simp only [Act.put, List.setIfInBounds_toArray, List.set_cons_zero, List.set_cons_succ]
          clear s5
          subst hV5
          refine wpAnyL_one (i := 29) (by kernel_rfl) (wpOpL_law (d := 69) rfl rfl rfl (fun K' hK => ?_))
          refine wp_append_lies _ _ _ _ rfl w2.heap.size 65 i0 _ 6 112 Tryz.underlying24 hi hz0 hz1 hz2 rfl (by omega) (.slice al ll lc) acc.length xs (by rfl) (conv_next HV.out.row M3.out.belowr _).row.own
            ⟨v2.heap.size, 0, none⟩ 1 1 [numV 1, str o.name, str [], .slice r0 m0 q0, .slice r1 m1 q1, .slice r2 m2 q2] (by rfl) (by rfl) (World.news_of_block (cs := #[numV 1, str o.name, str [], .slice r0 m0 q0, .slice r1 m1 q1, .slice r2 m2 q2]) (t := 65) (fr := (0, 0)) (heap_alloc_new v2 _)) (by simp [Value.oneCell'])
            (by omega) (by have := HN.out.2.2.2; unfold FMax at this; unfold maxLen; omega) (by have := HN.out.2.2.2; unfold FMax at this; omega) (conv_next HV.out.row M3.out.belowr _).row.le _ rfl ?_
          intro g cap w9 ho hg hat hlt
          have hA := appd (conv_next HV.out.row M3.out.belowr _).row ho hg hat (Nat.le_refl _)
          have h4 := HV.out.in4 M3.out.belowr hA
          have s9 : w9.cell? ⟨w.heap.size, 0, none⟩ = some (.slice al ll lc) ∧ w9.cell? ⟨b2, 1, none⟩ = some (str o.name) ∧ w9.cell? ⟨b2, 4, none⟩ = some (str []) ∧ w9.cell? ⟨b2, 5, none⟩ = some (.slice av lv cv) ∧ w9.cell? ⟨b2, 7, none⟩ = some (.slice ad ld cd) ∧ w9.cell? ⟨b2, 6, none⟩ = some (.slice as_ ls cs_) := ⟨h4.1.cell 0, (h4.2 _ _ _ HB.out).cell 1, (h4.2 _ _ _ HB.out).cell 4, (h4.2 _ _ _ HB.out).cell 5, (h4.2 _ _ _ HB.out).cell 7, (h4.2 _ _ _ HB.out).cell 6⟩
          have f9 : ∀ o, w9.frozen? ⟨w.heap.size, o, none⟩ = false := h4.1.free
          have H9 := Lib.hid hA
          clear ho hg hat hlt hA h4
          refine hK _ _ ⟨fun _ => s9, ?_⟩
          clear hK K'
          simp only [Act.put, List.setIfInBounds_toArray, List.set_cons_zero, List.set_cons_succ]
          refine wpAnyL_get (i := 30) (d := 70) (v := .pointer (some ⟨w.heap.size, 0, none⟩)) rfl rfl (by kernel_rfl) (by kernel_rfl) (by kernel_rfl) (by kernel_rfl) (by kernel_rfl) (fun _ _ _ h => h) rfl (fun w hS => by (try dsimp only at hS); go_simp) s9 ?_
          simp only [Act.put, List.setIfInBounds_toArray, List.set_cons_zero, List.set_cons_succ]
          have g9 := s9.1
          refine wpAnyL_one (i := 31) (by kernel_rfl) (wpOpL_none rfl rfl rfl (w' := w9.setCell ⟨w.heap.size, 0, none⟩ (.slice (some ⟨g, 0, none⟩) (acc.length + 1) cap)) (by simp [execOp, go_sem, Act.eval, g9, f9]) ⟨(fun h => by cases h), ?_⟩)
          refine wpAnyL_done (by kernel_rfl) ?_ _
          clear s9 f9 g9
          go_wp2_with fail
          go_roundg k
          case measure => omega
          case rel =>
            have hcn := conv_next HV.out.row M3.out.belowr (.cells #[numV 1, str o.name, str [], .slice r0 m0 q0, .slice r1 m1 q1, .slice r2 m2 q2] 65)
            have hR0 : IilAt (CN w9 w2.heap.size (Value.slice (some ⟨g, 0, none⟩) (acc.length + 1) cap).ownBlock) (o.vars.map cInp) (.slice r0 m0 q0) := N0.out.1.mono (fun b i u k => H9.out.cn b i u (hcn.new b i u (CN.below N2.out.2 b i u (CN.below N1.out.2 b i u (CN.up (Nat.le_refl _) b i u k)))))
            have hR1 : IdlAt (CN w9 w2.heap.size (Value.slice (some ⟨g, 0, none⟩) (acc.length + 1) cap).ownBlock) (cDirs o.dirs) (.slice r1 m1 q1) := N1.out.1.mono (fun b i u k => H9.out.cn b i u (hcn.new b i u (CN.below N2.out.2 b i u (CN.up (M1.out.belowr.size) b i u k))))
            have hR2 : IslAt (CN w9 w2.heap.size (Value.slice (some ⟨g, 0, none⟩) (acc.length + 1) cap).ownBlock) (cSels o.sels) (.slice r2 m2 q2) := N2.out.1.mono (fun b i u k => H9.out.cn b i u (hcn.new b i u (CN.up (M2.out.belowr.size) b i u k)))
            have hI : IoAt (CN w9 w2.heap.size (Value.slice (some ⟨g, 0, none⟩) (acc.length + 1) cap).ownBlock) (cOp o) [numV 1, str o.name, str [], .slice r0 m0 q0, .slice r1 m1 q1, .slice r2 m2 q2] := ⟨_, _, _, by rw [show (cOp o).kind = 1 from HK.out]; rfl, hR0, hR1, hR2⟩
            exact ⟨_, _, _, _, _, HV.out.step ⟨HN.out.1, HN.out.2.1, HN.out.2.2.1⟩ M3.out.belowr H9.out (IosAt.snoc hI _ _ (IosAt.mono (fun b i u k => H9.out.cn b i u (hcn.old b i u k)) _ _ HV.out.el)) (fun C C' h l xs => IosAt.mono h l xs) (fun _ _ _ _ => trivial) rfl⟩

end Go.Proofs.YtobiaaabikfglaaGreatDoor
