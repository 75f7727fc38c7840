/-
  impl's conversion of arguments by a contract; directives and arguments of all depths. No conditions but lengths.
-/
import Derived.Test.YtobiaaabikfglaaGreatDoorR26
namespace Go.Proofs.YtobiaaabikfglaaGreatDoor
open Go.RowKit Go.Proofs.YtobiaaabikfglaaGreatDoor.Pq Go.Lib

theorem AsSm.mem {K : Nat} : ∀ {l : List Arg}, AsSm K l → ∀ u, u ∈ l → VSm K u.2.1 ∧ u.2.2.length ≤ K ∧ DsSm K u.2.2
  | [], _, u, hu => by simp at hu
  | (n, v, ds) :: l, h, u, hu => by
    simp at hu
    rcases hu with rfl | hu
    · exact ⟨h.1, h.2.1, h.2.2.1⟩
    · exact AsSm.mem h.2.2.2 u hu

theorem arg_next {Q : Arg → Prop} {w : World} {n : Nat} {src : List Value} {out : List IArg} {k : Nat} {i : Value} {wr : World} {j : Nat} {rest : List Arg} {acc : List IArg} {v : Value} {xs : List Value} (h : LRel AsAt IasAt cArgs Q 81 6 w n src out (k + 1) i wr j rest acc v xs) :
    ∃ nm v0 ds rest' b T b2 sl l c, rest = (nm, v0, ds) :: rest' ∧ src[j]? = some (ptrV b) ∧ Bl w b #[str nm, numV l, numV c, .iface T (ptrV b2), sl] 163 ∧ VAt (Bl w) v0 (.iface T (ptrV b2)) ∧ DLAt (Bl w) ds sl ∧ AsAt (Bl w) rest' (src.drop (j + 1)) ∧ rest'.length = k ∧ Q (nm, v0, ds) ∧ ∀ u, u ∈ rest' → Q u := by
  have h1 := h.src
  have h2 := h.len
  cases rest with
  | nil => simp at h2
  | cons d rest' =>
    obtain ⟨nm, v0, ds⟩ := d
    obtain ⟨b, l, c, y, sl, zs, ys, e, h3, h4, h5, h6, h7⟩ := h1
    obtain ⟨T, b2, rfl⟩ := h4.shape
    refine ⟨nm, v0, ds, rest', b, T, b2, sl, l, c, rfl, ?_, h3, h4, ⟨zs, h5, h6⟩, ?_, by simpa using h2, h.mem _ (by simp), fun u hu => h.mem u (by simp [hu])⟩
    · have : (src.drop j)[0]? = some (ptrV b) := by rw [e]; rfl
      simpa using this
    · have : src.drop (j + 1) = ys := by rw [← List.drop_drop, e]; rfl
      rw [this]; exact h7

set_option maxRecDepth 100000 in
set_option maxHeartbeats 4000000 in
theorem args_conv (n : Nat) (ih : DConv n) : AConv n := by
  intro gs sl w hn h hl hs
  obtain ⟨i0, hi, hz0, hz1, hz2⟩ := info_parts (by kernel_rfl : (Tryz.prog.info? 81).map (fun i => (i.zero, i.size, i.bytes)) = some (some (.agg #[.string ⟨#[]⟩, .int .i64 0, .string ⟨#[]⟩, .slice none 0 0, .slice none 0 0, .slice none 0 0]), 6, 112))
  obtain ⟨src, h2, h3⟩ := h
  obtain ⟨a0, cap0, rfl, hc1, hc2, hrd⟩ := h2.read
  have hlen := AsAt.len _ _ h3
  have H := Lib.hid (And.intro h3 (And.intro hl (And.intro hrd (And.intro hlen (fun g hg => And.intro (hn g hg) (AsSm.mem hs g hg))))))
  have hc3 : (src.length : Int) ≤ 9223372036854775807 := by unfold maxLen at hc2; omega
  clear h2 h3 hs hl hrd hlen hc1 hc2 hn
  go_enter Tryz.func17, Tryz.ntmps17
  go_wp2_with fail
  go_loopg [3, 8] src.length (fun k v i wr => ∃ j rest acc xs, LRel AsAt IasAt cArgs (fun g => (∀ d, d ∈ g.2.2 → SizeOf.sizeOf d < n) ∧ VSm FMax g.2.1 ∧ g.2.2.length ≤ FMax ∧ DsSm FMax g.2.2) 81 6 w src.length src (cArgs gs) k i wr j rest acc v xs)
  case atStart => exact ⟨0, gs, [], [], LRel.start H.out.1 H.out.2.2.2.1 H.out.2.2.2.2 (fun _ => rfl)⟩
  case round =>
    obtain ⟨j, rest, acc, xs, hV⟩ := hrel
    obtain ⟨ao, l1, c1, rfl⟩ := hV.row.shape
    obtain rfl := hV.idx
    have hsum := hV.sum
    have HV := Lib.hid hV
    clear hV
    cases gk with
    | zero =>
      go_wp2_with fail
      go_ret
      obtain ⟨k1, k2⟩ := HV.out.finish rfl (fun C C' h l xs => IasAt.mono h l xs)
      exact ⟨_, rfl, k1, k2⟩
    | succ k =>
      obtain ⟨nm, v0, ds, rest', b, T2, b2, sl2, l, c, rfl, hsj, hb, hv0, hdl, hds, hrl, hq, hqs⟩ := arg_next HV.out
      obtain ⟨T, rfl, hcell⟩ := H.out.2.2.1 j _ hsj
      have cj : wr.cell? ⟨T, j, none⟩ = some (ptrV b) := cell_later HV.out.below hcell
      obtain ⟨za, hza1, hza2⟩ := hdl
      obtain ⟨ag, lg, cg, rfl⟩ := hza1.shape
      have hcall : ∀ W, Below w.heap.size w W → Calls Tryz.prog 16 #[.iface T2 (ptrV b2)] W (CRes IvAt (cVal v0) W) := fun W hW => value_any v0 _ W (VAt.mono (Bl.later hW) _ _ hv0) hq.2.1
      have hcall2 : ∀ W, Below w.heap.size w W → Calls Tryz.prog 9 #[.slice ag lg cg] W (CLRes IdlAt (cDirs ds) W) := fun W hW =>
        ih ds _ W hq.1 ⟨za, hza1.mono (Bl.later hW), DsAt.mono (Bl.later hW) _ _ hza2⟩ hq.2.2.1 hq.2.2.2
      have hS : ∀ W, Below w.heap.size w W → W.cell? ⟨b, 0, none⟩ = some (str nm) ∧ W.cell? ⟨b, 3, none⟩ = some (.iface T2 (ptrV b2)) ∧ W.cell? ⟨b, 4, none⟩ = some (.slice ag lg cg) := fun W hW => ⟨(Bl.later hW _ _ _ hb).cell 0, (Bl.later hW _ _ _ hb).cell 3, (Bl.later hW _ _ _ hb).cell 4⟩
      have hacc : acc.length + 1 ≤ FMax := by have := HV.out.accl; have := H.out.2.1; have := H.out.2.2.2.1; omega
      have HS := Lib.hid hS
      have HN := Lib.hid (And.intro hds (And.intro hrl (And.intro hqs (And.intro hcall (And.intro hcall2 hacc)))))
      have hW0 : Below w.heap.size w wr.drew := HV.out.below.trans ⟨rfl, rfl, rfl, Nat.le_refl _, fun _ _ => rfl⟩
      have HW0 := Lib.hid hW0
      have s0 := HS.out _ HW0.out
      clear hsj hb hza1 hza2 hv0 hds hrl hq hqs hcall hcall2 hS hacc hcell hW0
      go_wp2_with fail
      go_region_held3 (fun w' => w'.cell? ⟨b, 0, none⟩ = some (str nm) ∧ w'.cell? ⟨b, 3, none⟩ = some (.iface T2 (ptrV b2)) ∧ w'.cell? ⟨b, 4, none⟩ = some (.slice ag lg cg)) (first | exact s0 | exact s1 | exact s2 | exact s3 | exact s4) ((first
        | (go_at_call 16
           refine (HN.out.2.2.2.1 _ HW0.out).mono ?_
           rintro e w2 ⟨cs, rfl, k1, k2⟩
           have k2 := below_drew k2
           obtain ⟨kk, ks, a1, l1', c1', a2, l2, c2, rfl⟩ := k1.shape
           have hW2 : Below w.heap.size w w2 := HV.out.below.trans (k2.mono HV.out.below.size)
           have s1 := HS.out _ hW2
           have H2 := Lib.hid (And.intro k1 (And.intro k2 hW2))
           clear k1 k2 hW2)
        | (go_at_call 9
           refine (HN.out.2.2.2.2.1 _ H2.out.2.2).mono ?_
           rintro e w3 ⟨sl3, rfl, k1, k2⟩
           obtain ⟨a3, l3, c3, rfl⟩ := k1.shape
           have hW3 : Below w.heap.size w w3 := H2.out.2.2.trans (k2.mono H2.out.2.2.size)
           have s2 := HS.out _ hW3
           have s3 := HS.out _ (hW3.alloc hW3.size (.cells #[str nm, numV kk, str ks, .slice a1 l1' c1', .slice a2 l2 c2, .slice a3 l3 c3] 81))
           have H3 := Lib.hid (And.intro k1 (And.intro k2 (And.intro hW3 (H2.out.2.1.trans (k2.mono H2.out.2.1.size)))))
           clear k1 k2 hW3)
        | (refine step_append_lies _ (by rfl) _ _ _ (by rfl) w.heap.size 81 i0 _ 6 112 Tryz.underlying82 hi hz0 hz1 hz2 rfl (by omega) (.slice ao l1 c1) acc.length xs (by rfl) (conv_next HV.out.row H3.out.2.2.2 _).row.own
             ⟨w3.heap.size, 0, none⟩ 1 1 [str nm, numV kk, str ks, .slice a1 l1' c1', .slice a2 l2 c2, .slice a3 l3 c3] (by rfl) (by rfl) (World.news_of_block (cs := #[str nm, numV kk, str ks, .slice a1 l1' c1', .slice a2 l2 c2, .slice a3 l3 c3]) (t := 81) (fr := (0, 0)) (heap_alloc_new w3 _)) (by simp [Value.oneCell'])
             (by omega) (by have := HN.out.2.2.2.2.2; unfold FMax at this; unfold maxLen; omega) (by have := HN.out.2.2.2.2.2; unfold FMax at this; omega) (conv_next HV.out.row H3.out.2.2.2 _).row.le (w3.heap.size + 1) (by simp) ?_
           intro g cap w4 ho hg hat hlt
           have hA := appd (conv_next HV.out.row H3.out.2.2.2 _).row ho hg hat (by simp)
           have hW4 : Below w.heap.size w w4 := below_grown (H3.out.2.2.1.alloc H3.out.2.2.1.size _) hA.grown (fun k hk => hA.old k hk)
           have s4 := HS.out _ hW4
           have H4 := Lib.hid hA
           clear ho hg hat hlt hA hW4)))
      clear s0 s1 s2 s3 s4 cj
      go_wp2_with fail
      go_roundg k
      case measure => omega
      case rel =>
        have hcn := conv_next HV.out.row H3.out.2.2.2 (.cells #[str nm, numV kk, str ks, .slice a1 l1' c1', .slice a2 l2 c2, .slice a3 l3 c3] 81)
        have hz := H2.out.2.1.size
        have hI := IvAt.mono (fun b i u k => H4.out.cn b i u (hcn.new b i u (CN.below H3.out.2.1 b i u k))) _ _ H2.out.1
        have hD : IdlAt (CN w4 w.heap.size (Value.slice (some ⟨g, 0, none⟩) (acc.length + 1) cap).ownBlock) (cDirs ds) (.slice a3 l3 c3) := H3.out.1.mono (fun b i u k => H4.out.cn b i u (hcn.new b i u (CN.up hz b i u k)))
        exact ⟨_, _, _, _, HV.out.step ⟨HN.out.1, HN.out.2.1, HN.out.2.2.1⟩ rfl H3.out.2.2.2 H4.out (IasAt.snoc hI hD _ _ (IasAt.mono (fun b i u k => H4.out.cn b i u (hcn.old b i u k)) _ _ HV.out.el))⟩

theorem dirs_conv_all (n : Nat) : DConv n := by
  induction n using Nat.strongRecOn with
  | ind n ih => exact dirs_conv n (fun m hm => args_conv m (ih m hm))

theorem dirs_all (ds : List Dir) (sl : Value) (w : World) (h : DLAt (Bl w) ds sl) (hl : ds.length ≤ FMax) (hs : DsSm FMax ds) : Calls Tryz.prog 9 #[sl] w (CLRes IdlAt (cDirs ds) w) :=
  dirs_conv_all (SizeOf.sizeOf ds) ds sl w (fun _d hd => List.sizeOf_lt_of_mem hd) h hl hs

theorem args_all (gs : List Arg) (sl : Value) (w : World) (h : ALAt (Bl w) gs sl) (hl : gs.length ≤ FMax) (hs : AsSm FMax gs) : Calls Tryz.prog 17 #[sl] w (CLRes IalAt (cArgs gs) w) :=
  args_conv (SizeOf.sizeOf gs) (dirs_conv_all _) gs sl w (fun g hg d hd => by
    have h1 := List.sizeOf_lt_of_mem hg
    have h2 := List.sizeOf_lt_of_mem hd
    obtain ⟨a, b, c⟩ := g
    simp at h1 h2 ⊢
    omega) h hl hs

end Go.Proofs.YtobiaaabikfglaaGreatDoor
