/-
  impl's conversion of the definitions of variables by a contract. No conditions but lengths.
-/
import Derived.Test.YtobiaaabikfglaaGreatDoorR27
import Derived.Test.YtobiaaabikfglaaGreatDoorR17
namespace Go.Proofs.YtobiaaabikfglaaGreatDoor
open Go.RowKit Go.Proofs.YtobiaaabikfglaaGreatDoor.Pq Go.Lib

theorem InpsAt.len {B : Bk} : ∀ (vs : List Inp) (xs : List Value), InpsAt B vs xs → xs.length = vs.length
  | [], xs => fun h => by
    have h : xs = [] := h
    subst h; rfl
  | v :: vs, xs => fun ⟨y, ys, h1, _, h3⟩ => by rw [h1]; simp [InpsAt.len vs ys h3]

theorem inp_next {Q : Inp → Prop} {w : World} {n : Nat} {src : List Value} {out : List IInp} {k : Nat} {i : Value} {wr : World} {j : Nat} {rest : List Inp} {acc : List IInp} {v : Value} {xs : List Value} (h : LRel InpsAt IisAt (List.map cInp) Q 108 11 w n src out (k + 1) i wr j rest acc v xs) :
    ∃ p rest' b, rest = p :: rest' ∧ src[j]? = some (ptrV b) ∧ InpAt (Bl w) p (ptrV b) ∧ InpsAt (Bl w) rest' (src.drop (j + 1)) ∧ rest'.length = k ∧ Q p ∧ ∀ u, u ∈ rest' → Q u := by
  have h1 := h.src
  have h2 := h.len
  cases rest with
  | nil => simp at h2
  | cons p rest' =>
    obtain ⟨y, ys, e, h3, h4⟩ := h1
    obtain ⟨b, hb⟩ : ∃ b, y = ptrV b := by obtain ⟨b, _, _, _, _, _, _, _, _, _, _, h, _⟩ := h3; exact ⟨b, h⟩
    subst hb
    refine ⟨p, rest', b, rfl, ?_, h3, ?_, by simpa using h2, h.mem _ (by simp), fun u hu => h.mem u (by simp [hu])⟩
    · have : (src.drop j)[0]? = some (ptrV b) := by rw [e]; rfl
      simpa using this
    · have : src.drop (j + 1) = ys := by rw [← List.drop_drop, e]; rfl
      rw [this]; exact h4

theorem CN.hide {w : World} {base : Nat} (o : Obj) : ∀ b i v, CN w base none b i v → CN (w.alloc o) base (some w.heap.size) b i v :=
  fun _ _ _ ⟨h1, _, cs, t, h3, h4⟩ => ⟨h1, fun e => by have := h3.lt; injection e with e; omega, cs, t, h3.alloc o, h4⟩
theorem CN.own {w w' : World} {X base : Nat} (hf : Fr [X] w [X] w') : ∀ b i v, CN w base (some X) b i v → CN w' base (some X) b i v :=
  fun _ _ _ ⟨h1, h2, cs, t, h3, h4⟩ => ⟨h1, h2, cs, t, (hf.bl h3 (fun h => h2 (by simp at h; rw [h]))).1, h4⟩

/-- one definition under way -/
structure ISt (wr W : World) (x : Option Nat) (t : Option (ITy × List Value)) (d : Option (List IDir × Value)) : Prop where
  below : Below wr.heap.size wr W
  box : ∀ X, x = some X → Bl W X #[str [], str [], numV 0, str [], .slice none 0 0, .bool false, numV 0, str [], .slice none 0 0, .slice none 0 0, .slice none 0 0] 108 ∧ wr.heap.size ≤ X
  ty : ∀ p, t = some p → ItAt (CN W wr.heap.size x) p.1 p.2
  dl : ∀ p, d = some p → IdlAt (CN W wr.heap.size x) p.1 p.2

section
variable {wr W W' : World} {x : Option Nat} {t : Option (ITy × List Value)} {d : Option (List IDir × Value)}
theorem ISt.call (h : ISt wr W x t d) (hb : Below W.heap.size W W') : ISt wr W' x t d :=
  ⟨h.below.trans (hb.mono h.below.size), fun X hX => ⟨(h.box X hX).1.below hb (h.box X hX).1.lt, (h.box X hX).2⟩, fun p hp => ItAt.mono (CN.below hb) _ _ (h.ty p hp), fun p hp => (h.dl p hp).mono (CN.below hb)⟩
theorem ISt.typ (h : ISt wr W x t d) (hb : Below W.heap.size W W') {a : ITy} {cs : List Value} (k : ItAt (CN W' W.heap.size none) a cs) : ISt wr W' x (some (a, cs)) d :=
  ⟨(h.call hb).below, (h.call hb).box, fun p hp => by injection hp with hp; subst hp; exact ItAt.mono (CN.new h.below.size (fun X hX => (h.box X hX).1.lt)) _ _ k, (h.call hb).dl⟩
theorem ISt.dirs (h : ISt wr W x t d) (hb : Below W.heap.size W W') {a : List IDir} {sl : Value} (k : IdlAt (CN W' W.heap.size none) a sl) : ISt wr W' x t (some (a, sl)) :=
  ⟨(h.call hb).below, (h.call hb).box, (h.call hb).ty, fun p hp => by injection hp with hp; subst hp; exact k.mono (CN.new h.below.size (fun X hX => (h.box X hX).1.lt))⟩
theorem ISt.made (h : ISt wr W none t d) (hW : W' = W.alloc (.cells #[str [], str [], numV 0, str [], .slice none 0 0, .bool false, numV 0, str [], .slice none 0 0, .slice none 0 0, .slice none 0 0] 108)) : ISt wr W' (some W.heap.size) t d := by
  subst hW
  exact ⟨h.below.alloc h.below.size _, fun X hX => by injection hX with hX; subst hX; exact ⟨Bl.new _ _ _, h.below.size⟩, fun p hp => ItAt.mono (CN.hide _) _ _ (h.ty p hp), fun p hp => (h.dl p hp).mono (CN.hide _)⟩
end

/-- one definition, but for its default value -/
structure IBox (w wr W : World) (X : Nat) (p : Inp) (has : Bool) (ct cv : List Value) (sd : Value) (dv : IVal) : Prop where
  below : Below wr.heap.size wr W
  le : wr.heap.size ≤ X
  box : Bl W X (str p.name :: str [] :: ct ++ .bool has :: cv ++ [sd]).toArray 108
  ty : ItAt (CN W wr.heap.size (some X)) (cTy p.ty) ct
  dv : IvAt (CN W wr.heap.size (some X)) dv cv
  dl : IdlAt (CN W wr.heap.size (some X)) (cDirs p.dirs) sd

theorem IBox.fill {w wr W W' : World} {X : Nat} {p : Inp} {kt : Int} {st : Bs} {at_ : Option Addr} {lt ct : Nat} {sd : Value} {dv0 dv : IVal} {kv : Int} {sv : Bs} {a1 a2 : Option Addr} {l5 c5 l6 c6 : Nat} (h : IBox w wr W X p false [numV kt, str st, .slice at_ lt ct] [numV 0, str [], .slice none 0 0, .slice none 0 0] sd dv0)
    (k1 : IvAt (CN W' W.heap.size none) dv [numV kv, str sv, .slice a1 l5 c5, .slice a2 l6 c6]) (k2 : Below W.heap.size W W') :
    IBox w wr (((((W'.setCell ⟨X, 5, none⟩ (.bool true)).setCell ⟨X, 6, none⟩ (numV kv)).setCell ⟨X, 7, none⟩ (str sv)).setCell ⟨X, 8, none⟩ (.slice a1 l5 c5)).setCell ⟨X, 9, none⟩ (.slice a2 l6 c6)) X p true [numV kt, str st, .slice at_ lt ct] [numV kv, str sv, .slice a1 l5 c5, .slice a2 l6 c6] sd dv := by
  have hF : Fr [X] W' [X] (((((W'.setCell ⟨X, 5, none⟩ (.bool true)).setCell ⟨X, 6, none⟩ (numV kv)).setCell ⟨X, 7, none⟩ (str sv)).setCell ⟨X, 8, none⟩ (.slice a1 l5 c5)).setCell ⟨X, 9, none⟩ (.slice a2 l6 c6)) :=
    (((((Fr.refl _ _).set (.inl (by simp)) _).set (.inl (by simp)) _).set (.inl (by simp)) _).set (.inl (by simp)) _).set (.inl (by simp)) _
  have hB := ((((((h.box.below k2 h.box.lt).set 5 (.bool true)).set 6 (numV kv)).set 7 (str sv)).set 8 (.slice a1 l5 c5)).set 9 (.slice a2 l6 c6))
  simp only [List.cons_append, List.nil_append, List.setIfInBounds_toArray, List.set_cons_succ, List.set_cons_zero] at hB
  have hb := h.below.trans (k2.mono h.below.size)
  exact ⟨hb.trans (hF.to_below hb.size (by simp; exact h.le)), h.le, hB, ItAt.mono (fun b i u k => CN.own hF b i u (CN.below k2 b i u k)) _ _ h.ty,
    IvAt.mono (fun b i u k => CN.own hF b i u (CN.new h.below.size (fun X' hX => by injection hX with hX; subst hX; exact h.box.lt) b i u k)) _ _ k1, h.dl.mono (fun b i u k => CN.own hF b i u (CN.below k2 b i u k))⟩

theorem ibox_of {w wr W : World} {X : Nat} {p : Inp} {kt : Int} {st : Bs} {at_ : Option Addr} {lt ct : Nat} {sd : Value} (h : ISt wr W (some X) (some (cTy p.ty, [numV kt, str st, .slice at_ lt ct])) (some (cDirs p.dirs, sd))) :
    IBox w wr (((((((((((W.setCell ⟨X, 0, none⟩ (str p.name)).setCell ⟨X, 1, none⟩ (str [])).setCell ⟨X, 2, none⟩ (numV kt)).setCell ⟨X, 3, none⟩ (str st)).setCell ⟨X, 4, none⟩ (.slice at_ lt ct)).setCell ⟨X, 5, none⟩ (.bool false)).setCell ⟨X, 6, none⟩ (numV 0)).setCell ⟨X, 7, none⟩ (str [])).setCell ⟨X, 8, none⟩ (.slice none 0 0)).setCell ⟨X, 9, none⟩ (.slice none 0 0)).setCell ⟨X, 10, none⟩ (sd)) X p false [numV kt, str st, .slice at_ lt ct] [numV 0, str [], .slice none 0 0, .slice none 0 0] sd .zero := by
  have hb := h.box X rfl
  have hF : Fr [X] W [X] (((((((((((W.setCell ⟨X, 0, none⟩ (str p.name)).setCell ⟨X, 1, none⟩ (str [])).setCell ⟨X, 2, none⟩ (numV kt)).setCell ⟨X, 3, none⟩ (str st)).setCell ⟨X, 4, none⟩ (.slice at_ lt ct)).setCell ⟨X, 5, none⟩ (.bool false)).setCell ⟨X, 6, none⟩ (numV 0)).setCell ⟨X, 7, none⟩ (str [])).setCell ⟨X, 8, none⟩ (.slice none 0 0)).setCell ⟨X, 9, none⟩ (.slice none 0 0)).setCell ⟨X, 10, none⟩ (sd)) := ((((((((((((Fr.refl _ _).set (.inl (by simp)) _).set (.inl (by simp)) _).set (.inl (by simp)) _).set (.inl (by simp)) _).set (.inl (by simp)) _).set (.inl (by simp)) _).set (.inl (by simp)) _).set (.inl (by simp)) _).set (.inl (by simp)) _).set (.inl (by simp)) _).set (.inl (by simp)) _)
  have hB := (((((((((((hb.1.set 0 (str p.name)).set 1 (str [])).set 2 (numV kt)).set 3 (str st)).set 4 (.slice at_ lt ct)).set 5 (.bool false)).set 6 (numV 0)).set 7 (str [])).set 8 (.slice none 0 0)).set 9 (.slice none 0 0)).set 10 (sd))
  simp only [List.setIfInBounds_toArray, List.set_cons_succ, List.set_cons_zero] at hB
  exact ⟨h.below.trans (hF.to_below h.below.size (by simp; exact hb.2)), hb.2, hB, ItAt.mono (CN.own hF) _ _ (h.ty _ rfl), ⟨.slice none 0 0, [], .slice none 0 0, rfl, RowAt.nil 4, rfl, RowAt.nil 1⟩, (h.dl _ rfl).mono (CN.own hF)⟩

set_option maxRecDepth 100000 in
set_option maxHeartbeats 8000000 in
theorem inputs_all (is : List Inp) (sl : Value) (w : World) (h : VLAt (Bl w) is sl) (hl : is.length ≤ FMax) (hs : ∀ i ∈ is, InpSm FMax i) : Calls Tryz.prog 8 #[sl] w (CLRes IilAt (is.map cInp) w) := by
  obtain ⟨i0, hi, hz0, hz1, hz2⟩ := info_parts (by kernel_rfl : (Tryz.prog.info? 108).map (fun i => (i.zero, i.size, i.bytes)) = some (some (.agg #[.string ⟨#[]⟩, .string ⟨#[]⟩, .int .i64 0, .string ⟨#[]⟩, .slice none 0 0, .bool false, .int .i64 0, .string ⟨#[]⟩, .slice none 0 0, .slice none 0 0, .slice none 0 0]), 11, 184))
  obtain ⟨src, h2, h3⟩ := h
  obtain ⟨a0, cap0, rfl, hc1, hc2, hrd⟩ := h2.read
  have hlen := InpsAt.len _ _ h3
  have H := Lib.hid (And.intro h3 (And.intro hl (And.intro hrd (And.intro hlen hs))))
  have hc3 : (src.length : Int) ≤ 9223372036854775807 := by unfold maxLen at hc2; omega
  clear h2 h3 hs hl hrd hlen hc1 hc2
  go_enter Tryz.func8, Tryz.ntmps8
  go_wp2_with fail
  go_loopg [3, 9] src.length (fun k v i wr => ∃ j rest acc xs, LRel InpsAt IisAt (List.map cInp) (InpSm FMax) 108 11 w src.length src (is.map cInp) k i wr j rest acc v xs)
  case atStart => exact ⟨0, is, [], [], LRel.start H.out.1 H.out.2.2.2.1 H.out.2.2.2.2 (fun _ => rfl)⟩
  case round =>
    obtain ⟨j, rest, acc, xs, hV⟩ := hrel
    obtain ⟨ao, l1, c1, rfl⟩ := hV.row.shape
    obtain rfl := hV.idx
    have hsum := hV.sum
    have HV := Lib.hid hV
    clear hV
    cases gk with
    | zero =>
      go_wp2_with fail
      go_ret
      obtain ⟨k1, k2⟩ := HV.out.finish rfl (fun C C' h l xs => IisAt.mono h l xs)
      exact ⟨_, rfl, k1, k2⟩
    | succ k =>
      obtain ⟨p, rest', b, rfl, hsj, hp, his, hrl, hq, hqs⟩ := inp_next HV.out
      obtain ⟨T, rfl, hcell⟩ := H.out.2.2.1 j _ hsj
      have cj : wr.cell? ⟨T, j, none⟩ = some (ptrV b) := cell_later HV.out.below hcell
      obtain ⟨b', l2, c2, y, z, sd, xd, l3, c3, l4, c4, hbb, hb, hty, hdf, hsd, hdd⟩ := hp
      obtain rfl : b = b' := by injection hbb with hbb; injection hbb with hbb; injection hbb
      clear hbb
      obtain ⟨T2, b2, rfl⟩ := hty.shape
      obtain ⟨ag, lg, cg, rfl⟩ := hsd.shape
      have hcall : ∀ W, Below w.heap.size w W → Calls Tryz.prog 15 #[.iface T2 (ptrV b2)] W (CRes ItAt (cTy p.ty) W) := fun W hW => typ_any p.ty _ W (TyAt.mono (Bl.later hW) _ _ hty)
      have hcall2 : ∀ W, Below w.heap.size w W → Calls Tryz.prog 9 #[.slice ag lg cg] W (CLRes IdlAt (cDirs p.dirs) W) := fun W hW =>
        dirs_all p.dirs _ W ⟨xd, hsd.mono (Bl.later hW), DsAt.mono (Bl.later hW) _ _ hdd⟩ hq.2.1 hq.2.2
      have hS : ∀ W, Below wr.heap.size wr W → W.cell? ⟨b, 0, none⟩ = some (str p.name) ∧ W.cell? ⟨b, 5, none⟩ = some (str []) ∧ W.cell? ⟨b, 3, none⟩ = some (.iface T2 (ptrV b2)) ∧ W.cell? ⟨b, 6, none⟩ = some (.slice ag lg cg) := fun W hW' => by
        have hW := HV.out.below.trans (hW'.mono HV.out.below.size)
        exact ⟨(Bl.later hW _ _ _ hb).cell 0, (Bl.later hW _ _ _ hb).cell 5, (Bl.later hW _ _ _ hb).cell 3, (Bl.later hW _ _ _ hb).cell 6⟩
      have hacc : acc.length + 1 ≤ FMax := by have := HV.out.accl; have := H.out.2.1; have := H.out.2.2.2.1; omega
      have hwb : ∀ W, Below wr.heap.size wr W → Below w.heap.size w W := fun W hW => HV.out.below.trans (hW.mono HV.out.below.size)
      have HS := Lib.hid hS
      have HN := Lib.hid (And.intro his (And.intro hrl (And.intro hqs (And.intro hcall (And.intro hcall2 (And.intro hacc (And.intro hwb (And.intro hb (And.intro hdf hq)))))))))
      clear hsj hb hty hsd hdd hdf his hrl hq hqs hcall hcall2 hS hacc hcell hwb
      go_upto_region 5 with (fail)
      go_cut [6] (fun xv wx => ∃ X ct sd, xv = .pointer (some ⟨X, 0, none⟩) ∧ IBox w wr wx X p false ct [numV 0, str [], .slice none 0 0, .slice none 0 0] sd .zero)
      case first =>
        have M0 : Hid (ISt wr wr.drew none none none) := Lib.hid ⟨⟨rfl, rfl, rfl, Nat.le_refl _, fun _ _ => rfl⟩, (fun _ h => by cases h), (fun _ h => by cases h), (fun _ h => by cases h)⟩
        have s0 := HS.out _ M0.out.below
        refine wp_region_late (S := fun W => W.cell? ⟨b, 0, none⟩ = some (str p.name) ∧ W.cell? ⟨b, 5, none⟩ = some (str []) ∧ W.cell? ⟨b, 3, none⟩ = some (.iface T2 (ptrV b2)) ∧ W.cell? ⟨b, 6, none⟩ = some (.slice ag lg cg)) (late := fun i => i == 21) (by kernel_rfl) ?_
        refine wpAnyL_get (i := 0) (d := 13) (v := ptrV b) rfl rfl (by kernel_rfl) (by kernel_rfl) (by kernel_rfl) (by kernel_rfl) (by kernel_rfl) (fun _ _ _ h => h) rfl (fun w hS => by (try dsimp only at hS); go_simp) s0 ?_
        simp only [Act.put, List.setIfInBounds_toArray, List.set_cons_zero, List.set_cons_succ]
        refine wpAnyL_get (i := 1) (d := 14) (v := ptrV b) rfl rfl (by kernel_rfl) (by kernel_rfl) (by kernel_rfl) (by kernel_rfl) (by kernel_rfl) (fun _ _ _ h => h) rfl (fun w hS => by (try dsimp only at hS); go_simp) s0 ?_
        simp only [Act.put, List.setIfInBounds_toArray, List.set_cons_zero, List.set_cons_succ]
        refine wpAnyL_get (i := 2) (d := 15) (v := .pointer (some ⟨b, 0, none⟩)) rfl rfl (by kernel_rfl) (by kernel_rfl) (by kernel_rfl) (by kernel_rfl) (by kernel_rfl) (fun _ _ _ h => h) rfl (fun w hS => by (try dsimp only at hS); go_simp) s0 ?_
        simp only [Act.put, List.setIfInBounds_toArray, List.set_cons_zero, List.set_cons_succ]
        refine wpAnyL_get (i := 3) (d := 16) (v := .pointer (some ⟨b, 0, none⟩)) rfl rfl (by kernel_rfl) (by kernel_rfl) (by kernel_rfl) (by kernel_rfl) (by kernel_rfl) (fun _ _ _ h => h) rfl (fun w hS => by (try dsimp only at hS); go_simp) s0 ?_
        simp only [Act.put, List.setIfInBounds_toArray, List.set_cons_zero, List.set_cons_succ]
        refine wpAnyL_get (i := 4) (d := 17) (v := str p.name) rfl rfl (by kernel_rfl) (by kernel_rfl) (by kernel_rfl) (by kernel_rfl) (by kernel_rfl) (fun _ _ _ h => h) rfl (fun w hS => by (try dsimp only at hS); go_simp) s0 ?_
        simp only [Act.put, List.setIfInBounds_toArray, List.set_cons_zero, List.set_cons_succ]
        refine wpAnyL_get (i := 5) (d := 18) (v := ptrV b) rfl rfl (by kernel_rfl) (by kernel_rfl) (by kernel_rfl) (by kernel_rfl) (by kernel_rfl) (fun _ _ _ h => h) rfl (fun w hS => by (try dsimp only at hS); go_simp) s0 ?_
        simp only [Act.put, List.setIfInBounds_toArray, List.set_cons_zero, List.set_cons_succ]
        refine wpAnyL_get (i := 6) (d := 19) (v := ptrV b) rfl rfl (by kernel_rfl) (by kernel_rfl) (by kernel_rfl) (by kernel_rfl) (by kernel_rfl) (fun _ _ _ h => h) rfl (fun w hS => by (try dsimp only at hS); go_simp) s0 ?_
        simp only [Act.put, List.setIfInBounds_toArray, List.set_cons_zero, List.set_cons_succ]
        refine wpAnyL_get (i := 7) (d := 20) (v := .pointer (some ⟨b, 5, none⟩)) rfl rfl (by kernel_rfl) (by kernel_rfl) (by kernel_rfl) (by kernel_rfl) (by kernel_rfl) (fun _ _ _ h => h) rfl (fun w hS => by (try dsimp only at hS); go_simp) s0 ?_
        simp only [Act.put, List.setIfInBounds_toArray, List.set_cons_zero, List.set_cons_succ]
        refine wpAnyL_get (i := 8) (d := 21) (v := str []) rfl rfl (by kernel_rfl) (by kernel_rfl) (by kernel_rfl) (by kernel_rfl) (by kernel_rfl) (fun _ _ _ h => h) rfl (fun w hS => by (try dsimp only at hS); go_simp) s0 ?_
        simp only [Act.put, List.setIfInBounds_toArray, List.set_cons_zero, List.set_cons_succ]
        refine wpAnyL_get (i := 9) (d := 22) (v := ptrV b) rfl rfl (by kernel_rfl) (by kernel_rfl) (by kernel_rfl) (by kernel_rfl) (by kernel_rfl) (fun _ _ _ h => h) rfl (fun w hS => by (try dsimp only at hS); go_simp) s0 ?_
        simp only [Act.put, List.setIfInBounds_toArray, List.set_cons_zero, List.set_cons_succ]
        refine wpAnyL_get (i := 10) (d := 23) (v := ptrV b) rfl rfl (by kernel_rfl) (by kernel_rfl) (by kernel_rfl) (by kernel_rfl) (by kernel_rfl) (fun _ _ _ h => h) rfl (fun w hS => by (try dsimp only at hS); go_simp) s0 ?_
        simp only [Act.put, List.setIfInBounds_toArray, List.set_cons_zero, List.set_cons_succ]
        refine wpAnyL_get (i := 11) (d := 24) (v := .pointer (some ⟨b, 3, none⟩)) rfl rfl (by kernel_rfl) (by kernel_rfl) (by kernel_rfl) (by kernel_rfl) (by kernel_rfl) (fun _ _ _ h => h) rfl (fun w hS => by (try dsimp only at hS); go_simp) s0 ?_
        simp only [Act.put, List.setIfInBounds_toArray, List.set_cons_zero, List.set_cons_succ]
        refine wpAnyL_get (i := 12) (d := 25) (v := .iface T2 (ptrV b2)) rfl rfl (by kernel_rfl) (by kernel_rfl) (by kernel_rfl) (by kernel_rfl) (by kernel_rfl) (fun _ _ _ h => h) rfl (fun w hS => by (try dsimp only at hS); go_simp) s0 ?_
        simp only [Act.put, List.setIfInBounds_toArray, List.set_cons_zero, List.set_cons_succ]
        refine wpAnyL_get (i := 14) (d := 27) (v := ptrV b) rfl rfl (by kernel_rfl) (by kernel_rfl) (by kernel_rfl) (by kernel_rfl) (by kernel_rfl) (fun _ _ _ h => h) rfl (fun w hS => by (try dsimp only at hS); go_simp) s0 ?_
        simp only [Act.put, List.setIfInBounds_toArray, List.set_cons_zero, List.set_cons_succ]
        refine wpAnyL_get (i := 15) (d := 28) (v := ptrV b) rfl rfl (by kernel_rfl) (by kernel_rfl) (by kernel_rfl) (by kernel_rfl) (by kernel_rfl) (fun _ _ _ h => h) rfl (fun w hS => by (try dsimp only at hS); go_simp) s0 ?_
        simp only [Act.put, List.setIfInBounds_toArray, List.set_cons_zero, List.set_cons_succ]
        refine wpAnyL_get (i := 16) (d := 29) (v := .pointer (some ⟨b, 6, none⟩)) rfl rfl (by kernel_rfl) (by kernel_rfl) (by kernel_rfl) (by kernel_rfl) (by kernel_rfl) (fun _ _ _ h => h) rfl (fun w hS => by (try dsimp only at hS); go_simp) s0 ?_
        simp only [Act.put, List.setIfInBounds_toArray, List.set_cons_zero, List.set_cons_succ]
        refine wpAnyL_get (i := 17) (d := 30) (v := .slice ag lg cg) rfl rfl (by kernel_rfl) (by kernel_rfl) (by kernel_rfl) (by kernel_rfl) (by kernel_rfl) (fun _ _ _ h => h) rfl (fun w hS => by (try dsimp only at hS); go_simp) s0 ?_
        simp only [Act.put, List.setIfInBounds_toArray, List.set_cons_zero, List.set_cons_succ]
        clear s0 cj
        refine wpAnyL_all (rs := [13, 20]) (by kernel_rfl) (by simp) ?_
        intro i hi
        simp only [List.mem_cons, List.not_mem_nil, or_false] at hi
        rcases hi with rfl | rfl
        · refine wpOpL_enter (d := 26) rfl rfl rfl (f := 15) (args := #[.iface T2 (ptrV b2)]) (by simp [execOp, go_sem, Act.eval]) (HN.out.2.2.2.1 wr.drew (HN.out.2.2.2.2.2.2.1 _ M0.out.below)) ?_
          rintro e W1 ⟨cs, rfl, k1, k2⟩
          obtain ⟨kt, st, at_, lt, ct, rfl⟩ := k1.shape
          have M1 := Lib.hid (M0.out.typ k2 k1)
          clear k1 k2 M0
          refine ⟨_, rfl, fun _ => HS.out _ M1.out.below, ?_⟩
          simp only [Act.put, List.setIfInBounds_toArray, List.set_cons_zero, List.set_cons_succ]
          refine wpAnyL_all (rs := [18, 20]) (by kernel_rfl) (by simp) ?_
          intro i hi
          simp only [List.mem_cons, List.not_mem_nil, or_false] at hi
          rcases hi with rfl | rfl
          · refine wpOpL_enter (d := 31) rfl rfl rfl (f := 9) (args := #[.slice ag lg cg]) (by simp [execOp, go_sem, Act.eval]) (HN.out.2.2.2.2.1 W1 (HN.out.2.2.2.2.2.2.1 _ M1.out.below)) ?_
            rintro e W2 ⟨sl3, rfl, k1, k2⟩
            obtain ⟨ad, ld, cd, rfl⟩ := k1.shape
            have M2 := Lib.hid (M1.out.dirs k2 k1)
            clear k1 k2 M1
            have s1 := HS.out _ M2.out.below
            refine ⟨_, rfl, fun _ => s1, ?_⟩
            simp only [Act.put, List.setIfInBounds_toArray, List.set_cons_zero, List.set_cons_succ]
            refine wpAnyL_get (i := 19) (d := 32) (v := .agg #[str p.name, str [], numV kt, str st, .slice at_ lt ct, .bool false, numV 0, str [], .slice none 0 0, .slice none 0 0, .slice ad ld cd]) rfl rfl (by kernel_rfl) (by kernel_rfl) (by kernel_rfl) (by kernel_rfl) (by kernel_rfl) (fun _ _ _ h => h) rfl (fun w hS => by (try dsimp only at hS); go_simp) s1 ?_
            simp only [Act.put, List.setIfInBounds_toArray, List.set_cons_zero, List.set_cons_succ]
            clear s1
            refine wpAnyL_one (i := 20) (by kernel_rfl) ?_
            obtain ⟨W3, hW3⟩ : ∃ W3, W3 = W2.alloc (.cells #[str [], str [], numV 0, str [], .slice none 0 0, .bool false, numV 0, str [], .slice none 0 0, .slice none 0 0, .slice none 0 0] 108) := ⟨_, rfl⟩
            obtain ⟨X, hX⟩ : ∃ X, X = W2.heap.size := ⟨_, rfl⟩
            have M3 := Lib.hid (M2.out.made hW3)
            rw [← hX] at M3
            refine wpOpL_get (d := 6) rfl rfl rfl (v := .pointer (some ⟨X, 0, none⟩)) (w' := W3) (by rw [hW3, hX]; simp [execOp, go_sem]) ⟨fun _ => HS.out _ M3.out.below, ?_⟩
            clear hW3 hX M2
            simp only [Act.put, List.setIfInBounds_toArray, List.set_cons_zero, List.set_cons_succ]
            have hb := M3.out.box X rfl
            have q0 := hb.1.cell 0
            have q1 := hb.1.cell 1
            have q2 := hb.1.cell 2
            have q3 := hb.1.cell 3
            have q4 := hb.1.cell 4
            have q5 := hb.1.cell 5
            have q6 := hb.1.cell 6
            have q7 := hb.1.cell 7
            have q8 := hb.1.cell 8
            have q9 := hb.1.cell 9
            have q10 := hb.1.cell 10
            have f0 : ∀ o, W3.frozen? ⟨X, o, none⟩ = false := hb.1.free
            clear hb
            refine wpAnyL_one (i := 21) (by kernel_rfl) (wpOpL_none rfl rfl rfl (w' := (((((((((((W3.setCell ⟨X, 0, none⟩ (str p.name)).setCell ⟨X, 1, none⟩ (str [])).setCell ⟨X, 2, none⟩ (numV kt)).setCell ⟨X, 3, none⟩ (str st)).setCell ⟨X, 4, none⟩ (.slice at_ lt ct)).setCell ⟨X, 5, none⟩ (.bool false)).setCell ⟨X, 6, none⟩ (numV 0)).setCell ⟨X, 7, none⟩ (str [])).setCell ⟨X, 8, none⟩ (.slice none 0 0)).setCell ⟨X, 9, none⟩ (.slice none 0 0)).setCell ⟨X, 10, none⟩ (.slice ad ld cd))) (by simp [execOp, go_sem, Act.eval, q0, q1, q2, q3, q4, q5, q6, q7, q8, q9, q10, f0]) ⟨(fun h => by cases h), ?_⟩)
            refine wpAnyL_done (by kernel_rfl) ?_ _
            go_wp2_with fail
            go_meet
            refine ⟨X, [numV kt, str st, .slice at_ lt ct], .slice ad ld cd, rfl, ?_⟩
            exact ibox_of M3.out
          · obtain ⟨W4, hW4⟩ : ∃ W4, W4 = W1.alloc (.cells #[str [], str [], numV 0, str [], .slice none 0 0, .bool false, numV 0, str [], .slice none 0 0, .slice none 0 0, .slice none 0 0] 108) := ⟨_, rfl⟩
            obtain ⟨X, hX⟩ : ∃ X, X = W1.heap.size := ⟨_, rfl⟩
            have M4 := Lib.hid (M1.out.made hW4)
            rw [← hX] at M4
            refine wpOpL_get (d := 6) rfl rfl rfl (v := .pointer (some ⟨X, 0, none⟩)) (w' := W4) (by rw [hW4, hX]; simp [execOp, go_sem]) ⟨fun _ => HS.out _ M4.out.below, ?_⟩
            clear hW4 hX M1
            simp only [Act.put, List.setIfInBounds_toArray, List.set_cons_zero, List.set_cons_succ]
            refine wpAnyL_one (i := 18) (by kernel_rfl) ?_
            refine wpOpL_enter (d := 31) rfl rfl rfl (f := 9) (args := #[.slice ag lg cg]) (by simp [execOp, go_sem, Act.eval]) (HN.out.2.2.2.2.1 W4 (HN.out.2.2.2.2.2.2.1 _ M4.out.below)) ?_
            rintro e W5 ⟨sl3, rfl, k1, k2⟩
            obtain ⟨ad, ld, cd, rfl⟩ := k1.shape
            have M5 := Lib.hid (M4.out.dirs k2 k1)
            clear k1 k2 M4
            have s1 := HS.out _ M5.out.below
            refine ⟨_, rfl, fun _ => s1, ?_⟩
            simp only [Act.put, List.setIfInBounds_toArray, List.set_cons_zero, List.set_cons_succ]
            refine wpAnyL_get (i := 19) (d := 32) (v := .agg #[str p.name, str [], numV kt, str st, .slice at_ lt ct, .bool false, numV 0, str [], .slice none 0 0, .slice none 0 0, .slice ad ld cd]) rfl rfl (by kernel_rfl) (by kernel_rfl) (by kernel_rfl) (by kernel_rfl) (by kernel_rfl) (fun _ _ _ h => h) rfl (fun w hS => by (try dsimp only at hS); go_simp) s1 ?_
            simp only [Act.put, List.setIfInBounds_toArray, List.set_cons_zero, List.set_cons_succ]
            clear s1
            have hb := M5.out.box X rfl
            have q0 := hb.1.cell 0
            have q1 := hb.1.cell 1
            have q2 := hb.1.cell 2
            have q3 := hb.1.cell 3
            have q4 := hb.1.cell 4
            have q5 := hb.1.cell 5
            have q6 := hb.1.cell 6
            have q7 := hb.1.cell 7
            have q8 := hb.1.cell 8
            have q9 := hb.1.cell 9
            have q10 := hb.1.cell 10
            have f0 : ∀ o, W5.frozen? ⟨X, o, none⟩ = false := hb.1.free
            clear hb
            refine wpAnyL_one (i := 21) (by kernel_rfl) (wpOpL_none rfl rfl rfl (w' := (((((((((((W5.setCell ⟨X, 0, none⟩ (str p.name)).setCell ⟨X, 1, none⟩ (str [])).setCell ⟨X, 2, none⟩ (numV kt)).setCell ⟨X, 3, none⟩ (str st)).setCell ⟨X, 4, none⟩ (.slice at_ lt ct)).setCell ⟨X, 5, none⟩ (.bool false)).setCell ⟨X, 6, none⟩ (numV 0)).setCell ⟨X, 7, none⟩ (str [])).setCell ⟨X, 8, none⟩ (.slice none 0 0)).setCell ⟨X, 9, none⟩ (.slice none 0 0)).setCell ⟨X, 10, none⟩ (.slice ad ld cd))) (by simp [execOp, go_sem, Act.eval, q0, q1, q2, q3, q4, q5, q6, q7, q8, q9, q10, f0]) ⟨(fun h => by cases h), ?_⟩)
            refine wpAnyL_done (by kernel_rfl) ?_ _
            go_wp2_with fail
            go_meet
            refine ⟨X, [numV kt, str st, .slice at_ lt ct], .slice ad ld cd, rfl, ?_⟩
            exact ibox_of M5.out
        · obtain ⟨W6, hW6⟩ : ∃ W6, W6 = wr.drew.alloc (.cells #[str [], str [], numV 0, str [], .slice none 0 0, .bool false, numV 0, str [], .slice none 0 0, .slice none 0 0, .slice none 0 0] 108) := ⟨_, rfl⟩
          obtain ⟨X, hX⟩ : ∃ X, X = wr.drew.heap.size := ⟨_, rfl⟩
          have M6 := Lib.hid (M0.out.made hW6)
          rw [← hX] at M6
          refine wpOpL_get (d := 6) rfl rfl rfl (v := .pointer (some ⟨X, 0, none⟩)) (w' := W6) (by rw [hW6, hX]; simp [execOp, go_sem]) ⟨fun _ => HS.out _ M6.out.below, ?_⟩
          clear hW6 hX M0
          simp only [Act.put, List.setIfInBounds_toArray, List.set_cons_zero, List.set_cons_succ]
          refine wpAnyL_one (i := 13) (by kernel_rfl) ?_
          refine wpOpL_enter (d := 26) rfl rfl rfl (f := 15) (args := #[.iface T2 (ptrV b2)]) (by simp [execOp, go_sem, Act.eval]) (HN.out.2.2.2.1 W6 (HN.out.2.2.2.2.2.2.1 _ M6.out.below)) ?_
          rintro e W7 ⟨cs, rfl, k1, k2⟩
          obtain ⟨kt, st, at_, lt, ct, rfl⟩ := k1.shape
          have M7 := Lib.hid (M6.out.typ k2 k1)
          clear k1 k2 M6
          refine ⟨_, rfl, fun _ => HS.out _ M7.out.below, ?_⟩
          simp only [Act.put, List.setIfInBounds_toArray, List.set_cons_zero, List.set_cons_succ]
          refine wpAnyL_one (i := 18) (by kernel_rfl) ?_
          refine wpOpL_enter (d := 31) rfl rfl rfl (f := 9) (args := #[.slice ag lg cg]) (by simp [execOp, go_sem, Act.eval]) (HN.out.2.2.2.2.1 W7 (HN.out.2.2.2.2.2.2.1 _ M7.out.below)) ?_
          rintro e W8 ⟨sl3, rfl, k1, k2⟩
          obtain ⟨ad, ld, cd, rfl⟩ := k1.shape
          have M8 := Lib.hid (M7.out.dirs k2 k1)
          clear k1 k2 M7
          have s1 := HS.out _ M8.out.below
          refine ⟨_, rfl, fun _ => s1, ?_⟩
          simp only [Act.put, List.setIfInBounds_toArray, List.set_cons_zero, List.set_cons_succ]
          refine wpAnyL_get (i := 19) (d := 32) (v := .agg #[str p.name, str [], numV kt, str st, .slice at_ lt ct, .bool false, numV 0, str [], .slice none 0 0, .slice none 0 0, .slice ad ld cd]) rfl rfl (by kernel_rfl) (by kernel_rfl) (by kernel_rfl) (by kernel_rfl) (by kernel_rfl) (fun _ _ _ h => h) rfl (fun w hS => by (try dsimp only at hS); go_simp) s1 ?_
          simp only [Act.put, List.setIfInBounds_toArray, List.set_cons_zero, List.set_cons_succ]
          clear s1
          have hb := M8.out.box X rfl
          have q0 := hb.1.cell 0
          have q1 := hb.1.cell 1
          have q2 := hb.1.cell 2
          have q3 := hb.1.cell 3
          have q4 := hb.1.cell 4
          have q5 := hb.1.cell 5
          have q6 := hb.1.cell 6
          have q7 := hb.1.cell 7
          have q8 := hb.1.cell 8
          have q9 := hb.1.cell 9
          have q10 := hb.1.cell 10
          have f0 : ∀ o, W8.frozen? ⟨X, o, none⟩ = false := hb.1.free
          clear hb
          refine wpAnyL_one (i := 21) (by kernel_rfl) (wpOpL_none rfl rfl rfl (w' := (((((((((((W8.setCell ⟨X, 0, none⟩ (str p.name)).setCell ⟨X, 1, none⟩ (str [])).setCell ⟨X, 2, none⟩ (numV kt)).setCell ⟨X, 3, none⟩ (str st)).setCell ⟨X, 4, none⟩ (.slice at_ lt ct)).setCell ⟨X, 5, none⟩ (.bool false)).setCell ⟨X, 6, none⟩ (numV 0)).setCell ⟨X, 7, none⟩ (str [])).setCell ⟨X, 8, none⟩ (.slice none 0 0)).setCell ⟨X, 9, none⟩ (.slice none 0 0)).setCell ⟨X, 10, none⟩ (.slice ad ld cd))) (by simp [execOp, go_sem, Act.eval, q0, q1, q2, q3, q4, q5, q6, q7, q8, q9, q10, f0]) ⟨(fun h => by cases h), ?_⟩)
          refine wpAnyL_done (by kernel_rfl) ?_ _
          go_wp2_with fail
          go_meet
          refine ⟨X, [numV kt, str st, .slice at_ lt ct], .slice ad ld cd, rfl, ?_⟩
          exact ibox_of M8.out
      case rest =>
        obtain ⟨X, ct, sd, rfl, hI⟩ := hcut
        obtain ⟨kt, st, at_, lt, ctc, rfl⟩ := hI.ty.shape
        obtain ⟨ad, ld, cd, rfl⟩ := hI.dl.shape
        have cz : wc.cell? ⟨b, 4, none⟩ = some z := (Bl.later (HN.out.2.2.2.2.2.2.1 _ hI.below) _ _ _ HN.out.2.2.2.2.2.2.2.1).cell 4
        have HI := Lib.hid hI
        clear hI
        go_upto_region 6 with (fail)
        go_cut [37] (fun t wx => t = .bool p.dflt.isSome ∧ wx = wc)
        case first =>
          have hd := HN.out.2.2.2.2.2.2.2.2.1
          obtain ⟨od, hod⟩ : ∃ od, p.dflt = od := ⟨_, rfl⟩
          rw [hod] at hd
          have HOD := Lib.hid hod
          clear hod
          cases od with
          | none =>
            have hd : z = .nilIface := hd
            subst hd
            go_wp2_with fail
            go_meet
            exact ⟨by rw [HOD.out]; rfl, rfl⟩
          | some v =>
            have hd : VAt (Bl w) v z := hd
            obtain ⟨T3, b3, rfl⟩ := hd.shape
            clear hd
            have hne : ∀ W, (binOp .neq 100 (.iface T3 (ptrV b3)) .nilIface).run Tryz.prog W = .ok (.bool true) W := fun W => by kernel_rfl
            go_wp2_with fail
            go_meet
            exact ⟨by rw [HOD.out]; rfl, rfl⟩
        obtain ⟨rfl, rfl⟩ := hcut
        go_upto_if 37 with (fail)
        go_cut [] (fun wx => ∃ kv sv a1 l5 c5 a2 l6 c6, IBox w wr wx X p p.dflt.isSome [numV kt, str st, .slice at_ lt ctc] [numV kv, str sv, .slice a1 l5 c5, .slice a2 l6 c6] (.slice ad ld cd) (cInp p).dflt)
        case first =>
          obtain ⟨od, hod⟩ : ∃ od, p.dflt = od := ⟨_, rfl⟩
          have hd := HN.out.2.2.2.2.2.2.2.2.1
          have hsm := HN.out.2.2.2.2.2.2.2.2.2.1
          rw [hod] at hd hsm
          have HOD := Lib.hid hod
          rw [hod]
          clear hod
          cases od with
          | none =>
            have hd : z = .nilIface := hd
            subst hd
            go_wp2_with fail
            go_meet
            refine ⟨0, [], none, 0, 0, none, 0, 0, ?_⟩
            have e : (cInp p).dflt = .zero := by show (match p.dflt with | none => IVal.zero | some v => cVal v) = _; rw [HOD.out]
            have e2 : p.dflt.isSome = false := by rw [HOD.out]; rfl
            rw [e, e2]
            exact HI.out
          | some v =>
            have hd : VAt (Bl w) v z := hd
            obtain ⟨T3, b3, rfl⟩ := hd.shape
            have hcall := value_any v _ wc (VAt.mono (Bl.later (HN.out.2.2.2.2.2.2.1 _ HI.out.below)) _ _ hd) (hsm v rfl)
            have HC := Lib.hid hcall
            clear hd hsm hcall
            go_wp2_with fail
            refine HC.out.mono ?_
            rintro e w7 ⟨cs, rfl, k1, k2⟩
            obtain ⟨kv, sv, a1, l5, c5, a2, l6, c6, rfl⟩ := k1.shape
            have hb7 := HI.out.box.below k2 HI.out.box.lt
            have g5 := hb7.cell 5
            have g6 := hb7.cell 6
            have g7 := hb7.cell 7
            have g8 := hb7.cell 8
            have g9 := hb7.cell 9
            have f7 : ∀ o, w7.frozen? ⟨X, o, none⟩ = false := hb7.free
            have H7 := Lib.hid (And.intro k1 (And.intro k2 hb7))
            clear k1 k2 hb7
            go_wp2_with fail
            go_meet
            refine ⟨kv, sv, a1, l5, c5, a2, l6, c6, ?_⟩
            have e : (cInp p).dflt = cVal v := by show (match p.dflt with | none => IVal.zero | some v => cVal v) = _; rw [HOD.out]
            have e2 : p.dflt.isSome = true := by rw [HOD.out]; rfl
            rw [e, e2]
            exact HI.out.fill H7.out.1 H7.out.2.1
        case rest =>
          obtain ⟨kv, sv, a1, l5, c5, a2, l6, c6, hI2⟩ := hcut
          clear HI cz
          have g0 := hI2.box.cell 0
          have g1 := hI2.box.cell 1
          have g2 := hI2.box.cell 2
          have g3 := hI2.box.cell 3
          have g4 := hI2.box.cell 4
          have g5 := hI2.box.cell 5
          have g6 := hI2.box.cell 6
          have g7 := hI2.box.cell 7
          have g8 := hI2.box.cell 8
          have g9 := hI2.box.cell 9
          have g10 := hI2.box.cell 10
          obtain ⟨cs, hcs⟩ : ∃ cs : List Value, cs = [str p.name, str [], numV kt, str st, .slice at_ lt ctc, .bool p.dflt.isSome, numV kv, str sv, .slice a1 l5 c5, .slice a2 l6 c6, .slice ad ld cd] := ⟨_, rfl⟩
          have HI2 := Lib.hid hI2
          have HCS := Lib.hid hcs
          clear hI2 hcs
          go_wp2_with (
            at_builtin
            refine wpList_append_lies _ rfl _ _ _ rfl w.heap.size 108 i0 _ 11 184 Tryz.underlying58 hi hz0 hz1 hz2 rfl (by omega) (.slice ao l1 c1) acc.length xs rfl (conv_next HV.out.row HI2.out.below _).row.own
              ⟨wc.heap.size, 0, none⟩ 1 1 [str p.name, str [], numV kt, str st, .slice at_ lt ctc, .bool p.dflt.isSome, numV kv, str sv, .slice a1 l5 c5, .slice a2 l6 c6, .slice ad ld cd] rfl rfl (World.news_of_block (cs := #[str p.name, str [], numV kt, str st, .slice at_ lt ctc, .bool p.dflt.isSome, numV kv, str sv, .slice a1 l5 c5, .slice a2 l6 c6, .slice ad ld cd]) (t := 108) (fr := (0, 0)) (heap_alloc_new wc _)) (by simp [Value.oneCell'])
              (by omega) (by have := HN.out.2.2.2.2.2.1; unfold FMax at this; unfold maxLen; omega) (by have := HN.out.2.2.2.2.2.1; unfold FMax at this; omega) (conv_next HV.out.row HI2.out.below _).row.le _ rfl ?_
            intro g cap w4 ho hg hat hlt
            have hA := appd (conv_next HV.out.row HI2.out.below _).row ho hg hat (Nat.le_refl _)
            have H4 := Lib.hid hA
            clear ho hg hat hlt hA)
          clear g0 g1 g2 g3 g4 g5 g6 g7 g8 g9 g10
          go_roundg k
          case measure => omega
          case rel =>
            have hcn := conv_next HV.out.row HI2.out.below (.cells #[str p.name, str [], numV kt, str st, .slice at_ lt ctc, .bool p.dflt.isSome, numV kv, str sv, .slice a1 l5 c5, .slice a2 l6 c6, .slice ad ld cd] 108)
            have up : ∀ b i u, CN _ wr.heap.size (some X) b i u → CN w4 w.heap.size (Value.slice (some ⟨g, 0, none⟩) (acc.length + 1) cap).ownBlock b i u := fun b i u k => H4.out.cn b i u (hcn.new b i u (CN.all b i u k))
            have hI : IiAt (CN w4 w.heap.size (Value.slice (some ⟨g, 0, none⟩) (acc.length + 1) cap).ownBlock) (cInp p) [str p.name, str [], numV kt, str st, .slice at_ lt ctc, .bool p.dflt.isSome, numV kv, str sv, .slice a1 l5 c5, .slice a2 l6 c6, .slice ad ld cd] :=
              ⟨_, _, _, rfl, ItAt.mono up _ _ HI2.out.ty, IvAt.mono up _ _ HI2.out.dv, HI2.out.dl.mono up⟩
            exact ⟨_, _, _, _, HV.out.step ⟨HN.out.1, HN.out.2.1, HN.out.2.2.1⟩ rfl HI2.out.below H4.out (IisAt.snoc hI _ _ (IisAt.mono (fun b i u k => H4.out.cn b i u (hcn.old b i u k)) _ _ HV.out.el))⟩

end Go.Proofs.YtobiaaabikfglaaGreatDoor
