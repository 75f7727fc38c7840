/-
  impl's conversion of values by a contract: lists. No conditions but lengths.
-/
import Derived.Test.YtobiaaabikfglaaGreatDoorR23
namespace Go.Proofs.YtobiaaabikfglaaGreatDoor
open Go.RowKit Go.Proofs.YtobiaaabikfglaaGreatDoor.Pq Go.Lib

theorem below_drew {w w' : World} (h : Below w.drew.heap.size w.drew w') : Below w.heap.size w w' := ⟨h.os, h.tape, h.output, h.size, h.block⟩

/-- behind the calls for one element more, and the making of its block -/
structure CNext (wr w3 W : World) (base : Nat) (t : TypeId) (size : Nat) (v : Value) (n : Nat) (xs : List Value) : Prop where
  row : GrowsN W base t size v n xs
  old : ∀ b i u, CN wr base v.ownBlock b i u → CN W base v.ownBlock b i u
  new : ∀ b i u, CN w3 wr.heap.size none b i u → CN W base v.ownBlock b i u

theorem conv_next {wr w3 : World} {base : Nat} {t : TypeId} {size : Nat} {v : Value} {n : Nat} {xs : List Value} (hr : GrowsN wr base t size v n xs) (h2 : Below wr.heap.size wr w3) (o : Obj) : CNext wr w3 (w3.alloc o) base t size v n xs :=
  ⟨(hr.below h2).below ((Below.refl _ _).alloc (Nat.le_refl _) o), fun b i u k => CN.alloc o b i u (CN.below h2 b i u k), fun b i u k => CN.alloc o b i u (CN.new hr.le (fun k hk => (hr.lt k hk).1) b i u k)⟩

/-- what append leaves -/
structure Appd (W w4 : World) (base : Nat) (t : TypeId) (size : Nat) (v v' : Value) (n : Nat) (ys : List Value) : Prop where
  row : GrowsN w4 base t size v' n ys
  cn : ∀ b i u, CN W base v.ownBlock b i u → CN w4 base v'.ownBlock b i u
  grown : W.grownBy w4 v.ownBlock
  old : ∀ k, v.ownBlock = some k → base ≤ k

theorem appd {W w4 : World} {base : Nat} {t : TypeId} {size : Nat} {v : Value} {n m g cap H : Nat} {xs ys : List Value} (hr : GrowsN W base t size v n xs) (ho : w4.ownsRow base t size (.slice (some ⟨g, 0, none⟩) m cap) m ys) (hg : W.grownBy w4 v.ownBlock) (hat : v.ownBlock = some g ∨ g = H) (hH : W.heap.size ≤ H) :
    Appd W w4 base t size v (.slice (some ⟨g, 0, none⟩) m cap) m ys :=
  ⟨GrowsN.step ho hr.le hg, CN.step hg (fun k hk => by simp [Value.ownBlock] at hk; subst hk; rcases hat with h | h; exact .inl h; exact .inr (by omega)), hg, fun k hk => (hr.lt k hk).2⟩

theorem VsAt.len {B : Bk} : ∀ (vs : List Val) (xs : List Value), VsAt B vs xs → xs.length = vs.length
  | [], xs => fun h => by
    have h : xs = [] := h
    subst h; rfl
  | v :: vs, xs => fun ⟨y, ys, h1, _, h3⟩ => by rw [h1]; simp [VsAt.len vs ys h3]

structure VRel (Q : Val → Prop) (w : World) (base : Nat) (n : Nat) (src : List Value) (out : List IVal) (k : Nat) (i : Value) (wr : World) (j : Nat) (rest : List Val) (acc : List IVal) (v : Value) (xs : List Value) (D : Nat) (kd : Int) (sk : Value) : Prop where
  idx : i = .int .i64 j
  sum : j + k = n
  src : VsAt (Bl w) rest (src.drop j)
  len : rest.length = k
  mem : ∀ u, u ∈ rest → Q u
  done : out = acc ++ cVals rest
  accl : acc.length = j
  row : GrowsN wr base 79 4 v acc.length xs
  el : IvsAt (CN wr base v.ownBlock) acc xs
  below : Below w.heap.size w wr
  box : Bl wr D #[numV kd, str [], v, sk] 79
  res : Bl wr w.heap.size #[numV 0, str [], .slice none 0 0, .slice none 0 0] 79

theorem VRel.finish {Q : Val → Prop} {w : World} {base : Nat} {n : Nat} {src : List Value} {out : List IVal} {i : Value} {wr W : World} {j : Nat} {rest : List Val} {acc : List IVal} {v : Value} {xs : List Value} {D : Nat} {kd : Int} {sk : Value} (h : VRel Q w base n src out 0 i wr j rest acc v xs D kd sk) (hb : w.heap.size < base)
    (hF : Fr [w.heap.size] wr [w.heap.size] W) {ks : List Bs} (hk : RowAt (CN wr base none) 1 sk ks.length (ks.map str)) : CRes IvAt (.mk kd [] out ks) w (.returned (.agg #[numV kd, str [], v, sk])) W := by
  have hrest : rest = [] := List.eq_nil_of_length_eq_zero h.len
  have hout : out = acc := by rw [h.done, hrest]; simp [cVals]
  have up : ∀ b i v, CN wr base none b i v → CN W w.heap.size none b i v := fun b i v k => CN.up (Nat.le_of_lt hb) _ _ _ (CN.fr hF hb b i v k)
  refine ⟨[numV kd, str [], v, sk], rfl, ⟨v, xs, sk, rfl, ?_, ?_, hk.mono up⟩, h.below.trans (hF.to_below h.below.size (by simp))⟩
  · rw [hout]; exact h.row.rd.mono up
  · rw [hout]; exact IvsAt.mono (fun b i v k => up b i v (CN.all b i v k)) _ _ h.el

theorem VRel.next {Q : Val → Prop} {w : World} {base : Nat} {n : Nat} {src : List Value} {out : List IVal} {k : Nat} {i : Value} {wr : World} {j : Nat} {rest : List Val} {acc : List IVal} {v : Value} {xs : List Value} {D : Nat} {kd : Int} {sk : Value} (h : VRel Q w base n src out (k + 1) i wr j rest acc v xs D kd sk) :
    ∃ v0 rest' T b2, rest = v0 :: rest' ∧ src[j]? = some (.iface T (ptrV b2)) ∧ VAt (Bl w) v0 (.iface T (ptrV b2)) ∧ VsAt (Bl w) rest' (src.drop (j + 1)) ∧ rest'.length = k ∧ Q v0 ∧ ∀ u, u ∈ rest' → Q u := by
  have h1 := h.src
  have h2 := h.len
  cases rest with
  | nil => simp at h2
  | cons v0 rest' =>
    obtain ⟨y, ys, e, h3, h4⟩ := h1
    obtain ⟨T, b2, rfl⟩ := h3.shape
    refine ⟨v0, rest', T, b2, rfl, ?_, h3, ?_, by simpa using h2, h.mem v0 (by simp), fun u hu => h.mem u (by simp [hu])⟩
    · have : (src.drop j)[0]? = some (.iface T (ptrV b2)) := by rw [e]; rfl
      simpa using this
    · have : src.drop (j + 1) = ys := by rw [← List.drop_drop, e]; rfl
      rw [this]; exact h4

theorem VsSm.mem {K : Nat} : ∀ {l : List Val}, VsSm K l → ∀ u, u ∈ l → VSm K u
  | [], _, u, hu => by simp at hu
  | v :: l, h, u, hu => by
    simp at hu
    rcases hu with rfl | hu
    · exact h.1
    · exact VsSm.mem h.2 u hu
theorem VsSm.mem_list {K : Nat} {l : List Val} (h : VsSm K l) : ∀ u, u ∈ l → SizeOf.sizeOf u < SizeOf.sizeOf (Val.list l) ∧ VSm K u := fun u hu =>
  ⟨by have := List.sizeOf_lt_of_mem hu; simp; omega, VsSm.mem h u hu⟩

/-- one round of a list -/
theorem VRel.step {Q : Val → Prop} {w : World} {base : Nat} {n : Nat} {src : List Value} {out : List IVal} {k j : Nat} {wr w3 w4 W5 : World} {v0 : Val} {rest' : List Val} {acc : List IVal} {v v' : Value} {xs cs : List Value} {D : Nat} {kd : Int} {sk : Value}
    (h : VRel Q w base n src out (k + 1) (.int .i64 j) wr j (v0 :: rest') acc v xs D kd sk) (hn : VsAt (Bl w) rest' (src.drop (j + 1)) ∧ rest'.length = k ∧ ∀ u, u ∈ rest' → Q u)
    (h1 : IvAt (CN w3 wr.heap.size none) (cVal v0) cs) (h2 : Below wr.heap.size wr w3) (_hlen : cs.length = 4)
    (ha : Appd (w3.alloc (.cells cs.toArray 79)) w4 base 79 4 v v' (acc.length + 1) (xs ++ cs))
    (hF : Fr [D] w4 [D] W5) (hB : Bl W5 D #[numV kd, str [], v', sk] 79) (hD : D < base) (hR : w.heap.size < D) :
    VRel Q w base n src out k (.int .i64 ((j + 1 : Nat) : Int)) W5 (j + 1) rest' (acc ++ [cVal v0]) v' (xs ++ cs) D kd sk := by
  have hc := conv_next h.row h2 (.cells cs.toArray 79)
  have hz := h.below.size
  have z2 := h2.size
  have hb4 : Below w.heap.size w w4 := below_grown ((h.below.trans (h2.mono hz)).alloc (by omega) _) ha.grown (fun k hk => by have := ha.old k hk; omega)
  refine ⟨rfl, by have := h.sum; omega, hn.1, hn.2.1, hn.2.2, by rw [h.done]; simp [cVals], by simp [h.accl], ?_, ?_, hb4.trans (hF.to_below hb4.size (by simp; omega)), hB, ?_⟩
  · have := ha.row.keep (w' := W5) (fun b cs hb k => (hF.bl k (by have := (ha.row.lt b hb).2; simp; omega)).1) hF.kept.size
    simpa using this
  · refine IvsAt.snoc ?_ _ _ ?_
    · exact IvAt.mono (fun b i u k => CN.fr hF hD b i u (ha.cn b i u (hc.new b i u k))) _ _ h1
    · exact IvsAt.mono (fun b i u k => CN.fr hF hD b i u (ha.cn b i u (hc.old b i u k))) _ _ h.el
  · exact (hF.bl (((h.res.below h2 h.res.lt).alloc _).grown ha.grown (fun e => by have := ha.old _ e.symm; omega)) (by simp; omega)).1

def VConv (n : Nat) : Prop := ∀ (v : Val) (x : Value) (w : World), SizeOf.sizeOf v < n → VAt (Bl w) v x → VSm FMax v → Calls Tryz.prog 16 #[x] w (CRes IvAt (cVal v) w)

set_option maxRecDepth 100000 in
set_option maxHeartbeats 4000000 in
theorem value_list (vs : List Val) (x : Value) (w : World) (ih : VConv (SizeOf.sizeOf (Val.list vs))) (h : VAt (Bl w) (.list vs) x) (hs : VSm FMax (.list vs)) :
    Calls Tryz.prog 16 #[x] w (CRes IvAt (cVal (.list vs)) w) := by
  obtain ⟨i0, hi, hz0, hz1, hz2⟩ := info_parts (by kernel_rfl : (Tryz.prog.info? 79).map (fun i => (i.zero, i.size, i.bytes)) = some (some (.agg #[.int .i64 0, .string ⟨#[]⟩, .slice none 0 0, .slice none 0 0]), 4, 72))
  obtain ⟨b, sl, src, l, c, rfl, h1, h2, h3⟩ := h
  obtain ⟨a0, cap0, rfl, hc1, hc2, hrd⟩ := h2.read
  have hlen := VsAt.len _ _ h3
  obtain ⟨w0, hw0⟩ : ∃ w0, w0 = (w.alloc (.cells #[numV 0, str [], .slice none 0 0, .slice none 0 0] 79)).alloc (.cells #[numV 7, str [], .slice none 0 0, .slice none 0 0] 79) := ⟨_, rfl⟩
  have hb0 : Below w.heap.size w w0 := by rw [hw0]; exact ((Below.refl _ _).alloc (Nat.le_refl _) _).alloc (by simp) _
  have hz : w0.heap.size = w.heap.size + 2 := by rw [hw0]; simp
  have hD : Bl w0 (w.heap.size + 1) #[numV 7, str [], .slice none 0 0, .slice none 0 0] 79 := by
    rw [hw0]
    have := Bl.new (w.alloc (.cells #[numV 0, str [], .slice none 0 0, .slice none 0 0] 79)) #[numV 7, str [], .slice none 0 0, .slice none 0 0] 79
    simpa using this
  have hR : Bl w0 w.heap.size #[numV 0, str [], .slice none 0 0, .slice none 0 0] 79 := by rw [hw0]; exact (Bl.new w _ _).alloc _
  have c0 : w0.cell? ⟨b, 0, none⟩ = some (.slice a0 src.length cap0) := (Bl.later hb0 _ _ _ h1).cell 0
  have t1 : ∀ (p : Value) (W : World), (Instr.typeAssert (.iface 150 p) 100 145 true).run Tryz.prog W = .ok (.tuple #[.pointer none, .bool false]) W := fun _ _ => by kernel_rfl
  have t2 : ∀ (p : Value) (W : World), (Instr.typeAssert (.iface 150 p) 100 146 true).run Tryz.prog W = .ok (.tuple #[.pointer none, .bool false]) W := fun _ _ => by kernel_rfl
  have t3 : ∀ (p : Value) (W : World), (Instr.typeAssert (.iface 150 p) 100 148 true).run Tryz.prog W = .ok (.tuple #[.pointer none, .bool false]) W := fun _ _ => by kernel_rfl
  have t4 : ∀ (p : Value) (W : World), (Instr.typeAssert (.iface 150 p) 100 150 true).run Tryz.prog W = .ok (.tuple #[p, .bool true]) W := fun _ _ => by kernel_rfl
  have H := Lib.hid (And.intro hb0 (And.intro hz (And.intro hD (And.intro hR (And.intro h3 (And.intro hs (And.intro hrd hlen)))))))
  have HL := Lib.hid hlen
  have hc3 : (src.length : Int) ≤ 9223372036854775807 := by unfold maxLen at hc2; omega
  clear hb0 hz hD hR h1 h2 h3 hs hrd hlen hc1 hc2
  go_enter Tryz.func16, Tryz.ntmps16
  rw [hw0] at c0
  go_wp2_with fail
  rw [← hw0]
  rw [← hw0] at c0
  go_loopg [41] src.length (fun k i wr => ∃ j rest acc v xs, VRel (fun u => SizeOf.sizeOf u < SizeOf.sizeOf (Val.list vs) ∧ VSm FMax u) w (w.heap.size + 2) src.length src (cVals vs) k i wr j rest acc v xs (w.heap.size + 1) 7 (.slice none 0 0))
  case atStart =>
    obtain ⟨k1, k2, k3, k4, k5, k6, k7, k8⟩ := H.out
    exact ⟨0, vs, [], .slice none 0 0, [], rfl, by simp, by simpa using k5, k8.symm, VsSm.mem_list k6.2, rfl, rfl, ⟨World.ownsRow_nil _ _ _ 4, by omega⟩, rfl, k1, k3, k4⟩
  case round =>
    obtain ⟨j, rest, acc, v, xs, hV⟩ := hrel
    obtain ⟨ao, sl, sc, rfl⟩ := hV.row.shape
    obtain rfl := hV.idx
    have hsum := hV.sum
    have HV := Lib.hid hV
    clear hV
    cases gk with
    | zero =>
      have hb := HV.out.box
      have g0 := hb.cell 0
      have g1 := hb.cell 1
      have g2 := hb.cell 2
      have g3 := hb.cell 3
      have r0 := HV.out.res.cell 0
      have r1 := HV.out.res.cell 1
      have r2 := HV.out.res.cell 2
      have r3 := HV.out.res.cell 3
      have f1 : ∀ o, wr.frozen? ⟨w.heap.size, o, none⟩ = false := HV.out.res.free
      clear hb
      go_wp2_with fail
      refine bodyPost_ret (v := .agg #[numV 7, str [], .slice ao sl sc, .slice none 0 0]) (by simp [results, Tryz.results16, go_sem, r0, r1, r2, r3]) rfl ?_
      exact HV.out.finish (by omega) (((((Fr.refl _ _).set (.inl (by simp)) _).set (.inl (by simp)) _).set (.inl (by simp)) _).set (.inl (by simp)) _) (ks := []) (RowAt.nil 1)
    | succ k =>
      obtain ⟨v0, rest', T2, b2, rfl, hsj, hv0, hvs, hrl⟩ := HV.out.next
      obtain ⟨T, rfl, hcell⟩ := H.out.2.2.2.2.2.2.1 j _ hsj
      have cj : wr.cell? ⟨T, j, none⟩ = some (.iface T2 (ptrV b2)) := cell_later HV.out.below hcell
      have cD : wr.cell? ⟨w.heap.size + 1, 2, none⟩ = some (.slice ao sl sc) := HV.out.box.cell 2
      have HN := Lib.hid (And.intro hv0 (And.intro hvs hrl))
      clear hsj hv0 hvs hrl hcell
      have hcall : Calls Tryz.prog 16 #[.iface T2 (ptrV b2)] wr.drew (CRes IvAt (cVal v0) wr.drew) :=
        ih v0 _ wr.drew HN.out.2.2.2.1.1 (VAt.mono (fun b cs t k => (Bl.later HV.out.below b cs t k).drew) _ _ HN.out.1) HN.out.2.2.2.1.2
      have HC := Lib.hid hcall
      have hbox := HV.out.box
      have hrow := HV.out.row
      have hal : acc.length + 1 ≤ FMax := by have := HV.out.accl; have := H.out.2.2.2.2.2.1.1; have := HL.out; omega
      have HB := Lib.hid (And.intro hbox (And.intro hrow hal))
      clear hcall hbox hrow hal
      have s0 : wr.drew.cell? ⟨w.heap.size + 1, 2, none⟩ = some (.slice ao sl sc) := HB.out.1.cell 2
      go_wp2_with fail
      refine wp_region_late (S := fun w' => w'.cell? ⟨w.heap.size + 1, 2, none⟩ = some (.slice ao sl sc)) (late := fun i => i == 7) (by kernel_rfl) ?_
      refine wpAnyL_take (i := 0) (v := .pointer (some ⟨w.heap.size + 1, 2, none⟩)) rfl (by kernel_rfl) (by kernel_rfl) (by kernel_rfl) (by kernel_rfl) (by kernel_rfl) (fun _ _ _ h => h) (Or.inl ⟨by rfl, fun w hS => by go_simp⟩) s0 ?_
      simp only [Act.put, List.setIfInBounds_toArray]
      refine wpAnyL_take (i := 1) (v := .slice ao sl sc) rfl (by kernel_rfl) (by kernel_rfl) (by kernel_rfl) (by kernel_rfl) (by kernel_rfl) (fun _ _ _ h => h) (Or.inl ⟨by rfl, fun w hS => by dsimp only at hS; go_simp⟩) s0 ?_
      simp only [Act.put]
      refine wpAnyL_take (i := 2) (v := .iface T2 (ptrV b2)) rfl (by kernel_rfl) (by kernel_rfl) (by kernel_rfl) (by kernel_rfl) (by kernel_rfl) (fun _ _ _ h => h) (Or.inl ⟨by rfl, fun w hS => by go_simp⟩) s0 ?_
      simp only [Act.put]
      refine wpAnyL_one (i := 3) (by kernel_rfl) (wpOpL_call rfl rfl (f := 16) (args := #[.iface T2 (ptrV b2)]) (by simp [execOp, go_sem, Act.eval]) HC.out ?_)
      rintro e w3 ⟨cs, rfl, k1, k2⟩
      have k2 := below_drew k2
      obtain ⟨kk, ks, a1, l1, c1, a2, l2, c2, rfl⟩ := k1.shape
      have b3 : Bl w3 (w.heap.size + 1) #[numV 7, str [], .slice ao sl sc, .slice none 0 0] 79 := HB.out.1.below k2 HB.out.1.lt
      have H3 := Lib.hid (And.intro k1 (And.intro k2 b3))
      clear k1 k2 b3
      refine ⟨_, rfl, fun _ => H3.out.2.2.cell 2, ?_⟩
      simp only [Act.put]
      refine wpAnyL_one (i := 4) (by kernel_rfl) (wpOpL_val rfl rfl (v := .slice (some ⟨w3.heap.size, 0, none⟩) 1 1) (w' := w3.alloc (.cells #[numV kk, str ks, .slice a1 l1 c1, .slice a2 l2 c2] 79)) (by simp [execOp, go_sem, Act.eval]) ⟨fun _ => (H3.out.2.2.alloc _).cell 2, ?_⟩)
      simp only [Act.put]
      refine wpAnyL_one (i := 5) (by kernel_rfl) (wpOpL rfl rfl ?_)
      refine wp_append_lies _ _ _ _ rfl (w.heap.size + 2) 79 i0 _ 4 72 Tryz.underlying76 hi hz0 hz1 hz2 rfl (by omega) (.slice ao sl sc) acc.length xs (by rfl) (conv_next HB.out.2.1 H3.out.2.1 _).row.own
        ⟨w3.heap.size, 0, none⟩ 1 1 [numV kk, str ks, .slice a1 l1 c1, .slice a2 l2 c2] (by rfl) (by rfl) (World.news_of_block (cs := #[numV kk, str ks, .slice a1 l1 c1, .slice a2 l2 c2]) (t := 79) (fr := (0, 0)) (heap_alloc_new w3 _)) (by simp [Value.oneCell'])
        (by omega) (by have := HB.out.2.2; unfold FMax at this; unfold maxLen; omega) (by have := HB.out.2.2; unfold FMax at this; omega) (conv_next HB.out.2.1 H3.out.2.1 _).row.le _ rfl ?_
      intro g cap w4 ho hg hat hlt
      have hA := appd (conv_next HB.out.2.1 H3.out.2.1 _).row ho hg hat (Nat.le_refl _)
      have b4 := (H3.out.2.2.alloc (.cells #[numV kk, str ks, .slice a1 l1 c1, .slice a2 l2 c2] 79)).grown hA.grown (fun e => by have := hA.old _ e.symm; omega)
      have g2 : w4.cell? ⟨w.heap.size + 1, 2, none⟩ = some (.slice ao sl sc) := b4.cell 2
      have f4 : ∀ o, w4.frozen? ⟨w.heap.size + 1, o, none⟩ = false := b4.free
      have H4 := Lib.hid (And.intro hA b4)
      clear ho hg hat hlt hA b4
      refine ⟨fun _ => g2, ?_⟩
      simp only [Act.put]
      refine wpAnyL_take (i := 6) (v := .pointer (some ⟨w.heap.size + 1, 2, none⟩)) rfl (by kernel_rfl) (by kernel_rfl) (by kernel_rfl) (by kernel_rfl) (by kernel_rfl) (fun _ _ _ h => h) (Or.inl ⟨by rfl, fun w hS => by go_simp⟩) g2 ?_
      simp only [Act.put]
      refine wpAnyL_one (i := 7) (by kernel_rfl) (wpOpL_skip rfl rfl (w' := w4.setCell ⟨w.heap.size + 1, 2, none⟩ (.slice (some ⟨g, 0, none⟩) (acc.length + 1) cap)) (by simp [execOp, go_sem, Act.eval, g2, f4]) ⟨(fun h => by cases h), ?_⟩)
      simp only [Act.put]
      refine wpAnyL_done (by kernel_rfl) ?_ _
      clear g2 f4 s0 cj cD
      go_wp2_with fail
      go_roundg k
      case measure => omega
      case rel =>
        exact ⟨_, _, _, _, _, HV.out.step ⟨HN.out.2.1, HN.out.2.2.1, HN.out.2.2.2.2⟩ H3.out.1 H3.out.2.1 rfl H4.out.1 ((Fr.refl _ _).set (.inl (by simp)) _) (H4.out.2.set 2 _) (by omega) (by omega)⟩

end Go.Proofs.YtobiaaabikfglaaGreatDoor

/-
  impl's conversion of values: the memory of an object under way, two lists that grow. No conditions.
-/
namespace Go.Proofs.YtobiaaabikfglaaGreatDoor
open Go.RowKit Go.Proofs.YtobiaaabikfglaaGreatDoor.Pq Go.Lib

/-- the cells of the blocks from base on, but two -/
def C2 (w : World) (base : Nat) (x y : Option Nat) : Ck := fun b i v => CN w base x b i v ∧ some b ≠ y

theorem C2.all {w : World} {base : Nat} {x y : Option Nat} : ∀ b i v, C2 w base x y b i v → CN w base none b i v := fun b i v k => CN.all b i v k.1
theorem C2.below {w w' : World} {base : Nat} {x y : Option Nat} (h : Below w.heap.size w w') : ∀ b i v, C2 w base x y b i v → C2 w' base x y b i v := fun b i v k => ⟨CN.below h b i v k.1, k.2⟩
theorem C2.new {w : World} {base base' : Nat} {x y : Option Nat} (hb : base ≤ base') (hx : ∀ k, x = some k → k < base') (hy : ∀ k, y = some k → k < base') : ∀ b i v, CN w base' none b i v → C2 w base x y b i v :=
  fun b i v k => ⟨CN.new hb hx b i v k, fun e => by have := hy _ e.symm; have := k.1; omega⟩
theorem C2.step1 {W w' : World} {base : Nat} {x x' y : Option Nat} (hg : W.grownBy w' x) (hf : ∀ k, x' = some k → x = some k ∨ W.heap.size ≤ k) : ∀ b i v, C2 W base x y b i v → C2 w' base x' y b i v := fun b i v k => ⟨CN.step hg hf b i v k.1, k.2⟩
theorem C2.step2 {W w' : World} {base : Nat} {x y y' : Option Nat} (hg : W.grownBy w' y) (hf : ∀ k, y' = some k → y = some k ∨ W.heap.size ≤ k) : ∀ b i v, C2 W base x y b i v → C2 w' base x y' b i v :=
  fun _ _ _ ⟨⟨h1, h2, cs, t, h3, h4⟩, h5⟩ => ⟨⟨h1, h2, cs, t, h3.grown hg h5, h4⟩, fun e => by rcases hf _ e.symm with h | h; exact h5 h.symm; have := h3.lt; omega⟩
theorem C2.fr {w w' : World} {D base : Nat} {x y : Option Nat} (hf : Fr [D] w [D] w') (hD : D < base) : ∀ b i v, C2 w base x y b i v → C2 w' base x y b i v := fun b i v k => ⟨CN.fr hf hD b i v k.1, k.2⟩

/-- a block of the call's own that is no row -/
def Own2 (W : World) (x y : Option Nat) (b : Nat) (cs : Array Value) (t : TypeId) : Prop := Bl W b cs t ∧ some b ≠ x ∧ some b ≠ y
theorem Own2.below {w w' : World} {x y : Option Nat} {b : Nat} {cs : Array Value} {t : TypeId} (h : Own2 w x y b cs t) (hb : Below w.heap.size w w') : Own2 w' x y b cs t := ⟨h.1.below hb h.1.lt, h.2⟩
theorem Own2.step1 {W w' : World} {x x' y : Option Nat} {b : Nat} {cs : Array Value} {t : TypeId} (h : Own2 W x y b cs t) (hg : W.grownBy w' x) (hf : ∀ k, x' = some k → x = some k ∨ W.heap.size ≤ k) : Own2 w' x' y b cs t :=
  ⟨h.1.grown hg h.2.1, fun e => by rcases hf _ e.symm with k | k; exact h.2.1 k.symm; have := h.1.lt; omega, h.2.2⟩
theorem Own2.step2 {W w' : World} {x y y' : Option Nat} {b : Nat} {cs : Array Value} {t : TypeId} (h : Own2 W x y b cs t) (hg : W.grownBy w' y) (hf : ∀ k, y' = some k → y = some k ∨ W.heap.size ≤ k) : Own2 w' x y' b cs t :=
  ⟨h.1.grown hg h.2.2, h.2.1, fun e => by rcases hf _ e.symm with k | k; exact h.2.2 k.symm; have := h.1.lt; omega⟩

/-- an object under way -/
structure OMid (w W : World) (base D : Nat) (kd : Int) (vl vk vl0 vk0 : Value) (acc : List IVal) (xl : List Value) (acck : List Bs) : Prop where
  below : Below w.heap.size w W
  rl : GrowsN W base 79 4 vl acc.length xl
  rk : GrowsN W base 9 1 vk acck.length (acck.map str)
  ne : ∀ k, vl.ownBlock = some k → vk.ownBlock ≠ some k
  el : IvsAt (C2 W base vl.ownBlock vk.ownBlock) acc xl
  box : Bl W D #[numV kd, str [], vl0, vk0] 79
  res : Bl W w.heap.size #[numV 0, str [], .slice none 0 0, .slice none 0 0] 79
  hR : w.heap.size < D
  hD : D < base

section
variable {w W W' : World} {base D : Nat} {kd : Int} {vl vk vl0 vk0 : Value} {acc : List IVal} {xl : List Value} {acck : List Bs}

theorem OMid.call (h : OMid w W base D kd vl vk vl0 vk0 acc xl acck) (hb : Below W.heap.size W W') : OMid w W' base D kd vl vk vl0 vk0 acc xl acck :=
  ⟨h.below.trans (hb.mono h.below.size), h.rl.below hb, h.rk.below hb, h.ne, IvsAt.mono (C2.below hb) _ _ h.el, h.box.below hb h.box.lt, h.res.below hb h.res.lt, h.hR, h.hD⟩
theorem OMid.alloc (h : OMid w W base D kd vl vk vl0 vk0 acc xl acck) (o : Obj) : OMid w (W.alloc o) base D kd vl vk vl0 vk0 acc xl acck := h.call ((Below.refl _ _).alloc (Nat.le_refl _) o)
theorem OMid.drew (h : OMid w W base D kd vl vk vl0 vk0 acc xl acck) : OMid w W.drew base D kd vl vk vl0 vk0 acc xl acck := h.call ⟨rfl, rfl, rfl, Nat.le_refl _, fun _ _ => rfl⟩
/-- what a call has made -/
theorem OMid.made (h : OMid w W base D kd vl vk vl0 vk0 acc xl acck) (_hb : Below W.heap.size W W') : ∀ b i v, CN W' W.heap.size none b i v → C2 W' base vl.ownBlock vk.ownBlock b i v :=
  C2.new h.rl.le (fun k hk => (h.rl.lt k hk).1) (fun k hk => (h.rk.lt k hk).1)
theorem OMid.fresh (h : OMid w W base D kd vl vk vl0 vk0 acc xl acck) (cs : Array Value) (t : TypeId) : Own2 (W.alloc (.cells cs t)) vl.ownBlock vk.ownBlock W.heap.size cs t :=
  ⟨Bl.new _ _ _, fun e => by have := (h.rl.lt _ e.symm).1; omega, fun e => by have := (h.rk.lt _ e.symm).1; omega⟩

structure OStep (W W' : World) (base : Nat) (x y x' y' : Option Nat) : Prop where
  c2 : ∀ b i u, C2 W base x y b i u → C2 W' base x' y' b i u
  bl : ∀ b cs t, Own2 W x y b cs t → Own2 W' x' y' b cs t

theorem OMid.addL (h : OMid w W base D kd vl vk vl0 vk0 acc xl acck) {v : IVal} {cs : List Value} (hv : IvAt (C2 W base vl.ownBlock vk.ownBlock) v cs) {g cap : Nat} (ho : W'.ownsRow base 79 4 (.slice (some ⟨g, 0, none⟩) (acc.length + 1) cap) (acc.length + 1) (xl ++ cs)) (hg : W.grownBy W' vl.ownBlock) (hat : vl.ownBlock = some g ∨ g = W.heap.size) :
    OMid w W' base D kd (.slice (some ⟨g, 0, none⟩) (acc.length + 1) cap) vk vl0 vk0 (acc ++ [v]) (xl ++ cs) acck ∧ OStep W W' base vl.ownBlock vk.ownBlock (Value.slice (some ⟨g, 0, none⟩) (acc.length + 1) cap).ownBlock vk.ownBlock := by
  have hf : ∀ k, (Value.slice (some ⟨g, 0, none⟩) (acc.length + 1) cap).ownBlock = some k → vl.ownBlock = some k ∨ W.heap.size ≤ k := fun k hk => by
    simp [Value.ownBlock] at hk; subst hk; rcases hat with h | h; exact .inl h; exact .inr (by omega)
  refine ⟨⟨below_grown h.below hg (fun k hk => by have := (h.rl.lt k hk).2; have := h.hD; have := h.hR; omega), ?_, h.rk.keep (fun b cs hb k => k.grown hg (fun e => h.ne b e.symm hb)) hg.size, fun k hk e => ?_, ?_, h.box.grown hg (fun e => by have := (h.rl.lt _ e.symm).2; have := h.hD; omega), h.res.grown hg (fun e => by have := (h.rl.lt _ e.symm).2; have := h.hD; have := h.hR; omega), h.hR, h.hD⟩,
    ⟨C2.step1 hg hf, fun b cs t k => k.step1 hg hf⟩⟩
  · have := GrowsN.step ho h.rl.le hg
    simpa using this
  · rcases hf k hk with h1 | h1
    · exact h.ne k h1 e
    · have := (h.rk.lt k e).1; omega
  · exact IvsAt.snoc (IvAt.mono (C2.step1 hg hf) _ _ hv) _ _ (IvsAt.mono (C2.step1 hg hf) _ _ h.el)

theorem OMid.addK (h : OMid w W base D kd vl vk vl0 vk0 acc xl acck) {n : Bs} {g cap : Nat} (ho : W'.ownsRow base 9 1 (.slice (some ⟨g, 0, none⟩) (acck.length + 1) cap) (acck.length + 1) (acck.map str ++ [str n])) (hg : W.grownBy W' vk.ownBlock) (hat : vk.ownBlock = some g ∨ g = W.heap.size) :
    OMid w W' base D kd vl (.slice (some ⟨g, 0, none⟩) (acck.length + 1) cap) vl0 vk0 acc xl (acck ++ [n]) ∧ OStep W W' base vl.ownBlock vk.ownBlock vl.ownBlock (Value.slice (some ⟨g, 0, none⟩) (acck.length + 1) cap).ownBlock := by
  have hf : ∀ k, (Value.slice (some ⟨g, 0, none⟩) (acck.length + 1) cap).ownBlock = some k → vk.ownBlock = some k ∨ W.heap.size ≤ k := fun k hk => by
    simp [Value.ownBlock] at hk; subst hk; rcases hat with h | h; exact .inl h; exact .inr (by omega)
  refine ⟨⟨below_grown h.below hg (fun k hk => by have := (h.rk.lt k hk).2; have := h.hD; have := h.hR; omega), h.rl.keep (fun b cs hb k => k.grown hg (fun e => h.ne b hb e.symm)) hg.size, ?_, fun k hk e => ?_, IvsAt.mono (C2.step2 hg hf) _ _ h.el, h.box.grown hg (fun e => by have := (h.rk.lt _ e.symm).2; have := h.hD; omega), h.res.grown hg (fun e => by have := (h.rk.lt _ e.symm).2; have := h.hD; have := h.hR; omega), h.hR, h.hD⟩,
    ⟨C2.step2 hg hf, fun b cs t k => k.step2 hg hf⟩⟩
  · have := GrowsN.step ho h.rk.le hg
    simpa using this
  · rcases hf k e with h1 | h1
    · exact h.ne k hk h1
    · have := (h.rl.lt k hk).1; omega

/-- both lists are stored -/
theorem OMid.stored (h : OMid w W base D kd vl vk vl0 vk0 acc xl acck) : OMid w ((W.setCell ⟨D, 3, none⟩ vk).setCell ⟨D, 2, none⟩ vl) base D kd vl vk vl vk acc xl acck := by
  have hF : Fr [D] W [D] ((W.setCell ⟨D, 3, none⟩ vk).setCell ⟨D, 2, none⟩ vl) := ((Fr.refl _ _).set (.inl (by simp)) _).set (.inl (by simp)) _
  refine ⟨h.below.trans (hF.to_below h.below.size (by simp; have := h.hR; omega)), h.rl.keep (fun b cs hb k => (hF.bl k (by have := (h.rl.lt b hb).2; have := h.hD; simp; omega)).1) hF.kept.size, h.rk.keep (fun b cs hb k => (hF.bl k (by have := (h.rk.lt b hb).2; have := h.hD; simp; omega)).1) hF.kept.size, h.ne,
    IvsAt.mono (C2.fr hF h.hD) _ _ h.el, (h.box.set 3 vk).set 2 vl, (hF.bl h.res (by have := h.hR; simp; omega)).1, h.hR, h.hD⟩
end

theorem FsAt.len {B : Bk} : ∀ (vs : List (Bs × Val)) (xs : List Value), FsAt B vs xs → xs.length = vs.length
  | [], xs => fun h => by
    have h : xs = [] := h
    subst h; rfl
  | (n, v) :: vs, xs => fun ⟨b, l, c, y, ys, h1, _, _, h3⟩ => by rw [h1]; simp [FsAt.len vs ys h3]

theorem FsSm.mem {K : Nat} : ∀ {l : List (Bs × Val)}, FsSm K l → ∀ u, u ∈ l → VSm K u.2
  | [], _, u, hu => by simp at hu
  | (n, v) :: l, h, u, hu => by
    simp at hu
    rcases hu with rfl | hu
    · exact h.1
    · exact FsSm.mem h.2 u hu
theorem FsSm.mem_obj {K : Nat} {l : List (Bs × Val)} (h : FsSm K l) : ∀ u, u ∈ l → SizeOf.sizeOf u.2 < SizeOf.sizeOf (Val.obj l) ∧ VSm K u.2 := fun u hu =>
  ⟨by have := List.sizeOf_lt_of_mem hu; cases u; simp at this ⊢; omega, FsSm.mem h u hu⟩

/-- the loop over an object's fields -/
structure ORel (Q : Val → Prop) (w : World) (base : Nat) (n : Nat) (src : List Value) (fs : List (Bs × Val)) (k : Nat) (i : Value) (wr : World) (j : Nat) (rest : List (Bs × Val)) (acc : List IVal) (acck : List Bs) (vl vk : Value) (xl : List Value) (D : Nat) : Prop where
  idx : i = .int .i64 j
  sum : j + k = n
  src : FsAt (Bl w) rest (src.drop j)
  len : rest.length = k
  mem : ∀ u, u ∈ rest → Q u.2
  done : cFs fs = acc ++ cFs rest
  donek : keysOf fs = acck ++ keysOf rest
  accl : acc.length = j
  acckl : acck.length = j
  mid : OMid w wr base D 8 vl vk vl vk acc xl acck

theorem ORel.next {Q : Val → Prop} {w : World} {base : Nat} {n : Nat} {src : List Value} {fs : List (Bs × Val)} {k : Nat} {i : Value} {wr : World} {j : Nat} {rest : List (Bs × Val)} {acc : List IVal} {acck : List Bs} {vl vk : Value} {xl : List Value} {D : Nat} (h : ORel Q w base n src fs (k + 1) i wr j rest acc acck vl vk xl D) :
    ∃ n0 v0 rest' b l c T b2, rest = (n0, v0) :: rest' ∧ src[j]? = some (ptrV b) ∧ Bl w b #[str n0, numV l, numV c, .iface T (ptrV b2)] 160 ∧ VAt (Bl w) v0 (.iface T (ptrV b2)) ∧ FsAt (Bl w) rest' (src.drop (j + 1)) ∧ rest'.length = k ∧ Q v0 ∧ ∀ u, u ∈ rest' → Q u.2 := by
  have h1 := h.src
  have h2 := h.len
  cases rest with
  | nil => simp at h2
  | cons p rest' =>
    obtain ⟨n0, v0⟩ := p
    obtain ⟨b, l, c, y, ys, e, h3, h4, h5⟩ := h1
    obtain ⟨T, b2, rfl⟩ := h4.shape
    refine ⟨n0, v0, rest', b, l, c, T, b2, rfl, ?_, h3, h4, ?_, by simpa using h2, h.mem (n0, v0) (by simp), fun u hu => h.mem u (by simp [hu])⟩
    · have : (src.drop j)[0]? = some (ptrV b) := by rw [e]; rfl
      simpa using this
    · have : src.drop (j + 1) = ys := by rw [← List.drop_drop, e]; rfl
      rw [this]; exact h5

theorem ORel.step {Q : Val → Prop} {w : World} {base : Nat} {n : Nat} {src : List Value} {fs : List (Bs × Val)} {k : Nat} {wr W : World} {j : Nat} {n0 : Bs} {v0 : Val} {rest' : List (Bs × Val)} {acc : List IVal} {acck : List Bs} {vl vk vl' vk' : Value} {xl xl' : List Value} {D : Nat}
    (h : ORel Q w base n src fs (k + 1) (.int .i64 j) wr j ((n0, v0) :: rest') acc acck vl vk xl D) (hn : FsAt (Bl w) rest' (src.drop (j + 1)) ∧ rest'.length = k ∧ ∀ u, u ∈ rest' → Q u.2)
    (hm : OMid w W base D 8 vl' vk' vl vk (acc ++ [cVal v0]) xl' (acck ++ [n0])) :
    ORel Q w base n src fs k (.int .i64 ((j + 1 : Nat) : Int)) ((W.setCell ⟨D, 3, none⟩ vk').setCell ⟨D, 2, none⟩ vl') (j + 1) rest' (acc ++ [cVal v0]) (acck ++ [n0]) vl' vk' xl' D :=
  ⟨rfl, by have := h.sum; omega, hn.1, hn.2.1, hn.2.2, by rw [h.done]; simp [cFs], by rw [h.donek]; simp [keysOf], by simp [h.accl], by simp [h.acckl], hm.stored⟩

theorem ORel.finish {Q : Val → Prop} {w : World} {base : Nat} {n : Nat} {src : List Value} {fs : List (Bs × Val)} {i : Value} {wr W : World} {j : Nat} {rest : List (Bs × Val)} {acc : List IVal} {acck : List Bs} {vl vk : Value} {xl : List Value} {D : Nat} (h : ORel Q w base n src fs 0 i wr j rest acc acck vl vk xl D)
    (hF : Fr [w.heap.size] wr [w.heap.size] W) : CRes IvAt (.mk 8 [] (cFs fs) (keysOf fs)) w (.returned (.agg #[numV 8, str [], vl, vk])) W := by
  have hrest : rest = [] := List.eq_nil_of_length_eq_zero h.len
  have h1 : cFs fs = acc := by rw [h.done, hrest]; simp [cFs]
  have h2 : keysOf fs = acck := by rw [h.donek, hrest]; simp [keysOf]
  have hb : w.heap.size < base := Nat.lt_trans h.mid.hR h.mid.hD
  have up : ∀ b i v, CN wr base none b i v → CN W w.heap.size none b i v := fun b i v k => CN.up (Nat.le_of_lt hb) _ _ _ (CN.fr hF hb b i v k)
  rw [h1, h2]
  exact ⟨[numV 8, str [], vl, vk], rfl, ⟨vl, xl, vk, rfl, h.mid.rl.rd.mono up, IvsAt.mono (fun b i v k => up b i v (C2.all b i v k)) _ _ h.mid.el, h.mid.rk.rd.mono up⟩, h.mid.below.trans (hF.to_below h.mid.below.size (by simp))⟩

end Go.Proofs.YtobiaaabikfglaaGreatDoor
