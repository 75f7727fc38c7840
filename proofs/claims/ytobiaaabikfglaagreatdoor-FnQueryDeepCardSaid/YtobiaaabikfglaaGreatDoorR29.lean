/-
  impl's conversion of selections by a contract. No conditions but lengths.
-/
import Derived.Test.YtobiaaabikfglaaGreatDoorR28
namespace Go.Proofs.YtobiaaabikfglaaGreatDoor
open Go.RowKit Go.Proofs.YtobiaaabikfglaaGreatDoor.Pq Go.Lib

def SConv (n : Nat) : Prop := ∀ (ss : List Sel) (sl : Value) (w : World), (∀ s, s ∈ ss → SizeOf.sizeOf s < n) → SLAt (Bl w) ss sl → ss.length ≤ FMax → SelsSm FMax ss → Calls Tryz.prog 10 #[sl] w (CLRes IslAt (cSels ss) w)

theorem SelsAt.len {B : Bk} : ∀ (vs : List Sel) (xs : List Value), SelsAt B vs xs → xs.length = vs.length
  | [], xs => fun h => by
    have h : xs = [] := h
    subst h; rfl
  | v :: vs, xs => fun ⟨y, ys, h1, _, h3⟩ => by rw [h1]; simp [SelsAt.len vs ys h3]
theorem SelsSm.mem {K : Nat} : ∀ {l : List Sel}, SelsSm K l → ∀ u, u ∈ l → SelSm K u
  | [], _, u, hu => by simp at hu
  | v :: l, h, u, hu => by
    simp at hu
    rcases hu with rfl | hu
    · exact h.1
    · exact SelsSm.mem h.2 u hu

theorem SelAt.face {B : Bk} {s : Sel} {x : Value} (h : SelAt B s x) : ∃ T b, x = .iface T (ptrV b) := by
  cases s with
  | field a n gs ds ss => obtain ⟨b, _, _, _, _, _, _, _, _, _, _, _, _, h, _⟩ := h; exact ⟨_, b, h⟩
  | spread n ds => obtain ⟨b, _, _, _, _, _, _, h, _⟩ := h; exact ⟨_, b, h⟩
  | inline on ds ss => obtain ⟨b, _, _, _, _, _, _, _, _, h, _⟩ := h; exact ⟨_, b, h⟩

theorem sel_next {Q : Sel → Prop} {w : World} {n : Nat} {src : List Value} {out : List ISel} {k : Nat} {i : Value} {wr : World} {j : Nat} {rest : List Sel} {acc : List ISel} {v : Value} {xs : List Value} (h : LRel SelsAt IssAt cSels Q 84 7 w n src out (k + 1) i wr j rest acc v xs) :
    ∃ p rest' T b, rest = p :: rest' ∧ src[j]? = some (.iface T (ptrV b)) ∧ SelAt (Bl w) p (.iface T (ptrV b)) ∧ SelsAt (Bl w) rest' (src.drop (j + 1)) ∧ rest'.length = k ∧ Q p ∧ ∀ u, u ∈ rest' → Q u := by
  have h1 := h.src
  have h2 := h.len
  cases rest with
  | nil => simp at h2
  | cons p rest' =>
    obtain ⟨y, ys, e, h3, h4⟩ := h1
    obtain ⟨T, b, rfl⟩ := h3.face
    refine ⟨p, rest', T, b, rfl, ?_, h3, ?_, by simpa using h2, h.mem _ (by simp), fun u hu => h.mem u (by simp [hu])⟩
    · have : (src.drop j)[0]? = some (.iface T (ptrV b)) := by rw [e]; rfl
      simpa using this
    · have : src.drop (j + 1) = ys := by rw [← List.drop_drop, e]; rfl
      rw [this]; exact h4

set_option maxRecDepth 100000 in
set_option maxHeartbeats 8000000 in
theorem sels_conv (n : Nat) (ih : ∀ m, m < n → SConv m) : SConv n := by
  intro ss sl w hn h hl hs
  obtain ⟨i0, hi, hz0, hz1, hz2⟩ := info_parts (by kernel_rfl : (Tryz.prog.info? 84).map (fun i => (i.zero, i.size, i.bytes)) = some (some (.agg #[.int .i64 0, .string ⟨#[]⟩, .string ⟨#[]⟩, .string ⟨#[]⟩, .slice none 0 0, .slice none 0 0, .slice none 0 0]), 7, 128))
  obtain ⟨src, h2, h3⟩ := h
  obtain ⟨a0, cap0, rfl, hc1, hc2, hrd⟩ := h2.read
  have hlen := SelsAt.len _ _ h3
  have H := Lib.hid (And.intro h3 (And.intro hl (And.intro hrd (And.intro hlen (fun d hd => And.intro (hn d hd) (SelsSm.mem hs d hd))))))
  have hc3 : (src.length : Int) ≤ 9223372036854775807 := by unfold maxLen at hc2; omega
  clear h2 h3 hs hl hrd hlen hc1 hc2 hn
  go_enter Tryz.func10, Tryz.ntmps10
  go_wp2_with fail
  go_loopg [3, 11] src.length (fun k v i wr => ∃ j rest acc xs, LRel SelsAt IssAt cSels (fun d => SizeOf.sizeOf d < n ∧ SelSm FMax d) 84 7 w src.length src (cSels ss) k i wr j rest acc v xs)
  case atStart => exact ⟨0, ss, [], [], LRel.start H.out.1 H.out.2.2.2.1 H.out.2.2.2.2 (fun _ => rfl)⟩
  case round =>
    obtain ⟨j, rest, acc, xs, hV⟩ := hrel
    obtain ⟨ao, l1, c1, rfl⟩ := hV.row.shape
    obtain rfl := hV.idx
    have hsum := hV.sum
    have HV := Lib.hid hV
    clear hV
    cases gk with
    | zero =>
      go_wp2_with fail
      go_ret
      obtain ⟨k1, k2⟩ := HV.out.finish rfl (fun C C' h l xs => IssAt.mono h l xs)
      exact ⟨_, rfl, k1, k2⟩
    | succ k =>
      obtain ⟨p, rest', TI, b, rfl, hsj, hp, hps, hrl, hq, hqs⟩ := sel_next HV.out
      obtain ⟨T, rfl, hcell⟩ := H.out.2.2.1 j _ hsj
      have cj : wr.cell? ⟨T, j, none⟩ = some (.iface TI (ptrV b)) := cell_later HV.out.below hcell
      have hacc : acc.length + 1 ≤ FMax := by have := HV.out.accl; have := H.out.2.1; have := H.out.2.2.2.1; omega
      have HN := Lib.hid (And.intro hps (And.intro hrl (And.intro hqs hacc)))
      have hW0 : Below w.heap.size w wr.drew := HV.out.below.trans ⟨rfl, rfl, rfl, Nat.le_refl _, fun _ _ => rfl⟩
      have HW0 := Lib.hid hW0
      clear hsj hps hrl hqs hacc hcell hW0
      cases p with
      | field a nm gs ds ss2 =>
        obtain ⟨b', l2, c2, l3, c3, sa, xa, sd, xd, sl2, xs2, l4, c4, hbb, hb, hsa, hga, hsd, hdd, hss, hsx⟩ := hp
        obtain ⟨rfl, hb2⟩ : TI = 120 ∧ b = b' := by injection hbb with h1 h2; injection h2 with h2; injection h2 with h2; injection h2 with h2; exact ⟨h1, h2⟩
        clear hbb
        subst hb2
        obtain ⟨ag, lg, cg, rfl⟩ := hsa.shape
        obtain ⟨ad, ld, cd, rfl⟩ := hsd.shape
        obtain ⟨as_, ls, cs_, rfl⟩ := hss.shape
        have hc0 : ∀ W, Below w.heap.size w W → Calls Tryz.prog 17 #[.slice ag lg cg] W (CLRes IalAt (cArgs gs) W) := fun W hW => args_all gs _ W ⟨xa, hsa.mono (Bl.later hW), AsAt.mono (Bl.later hW) _ _ hga⟩ hq.2.1 hq.2.2.1
        have hc1 : ∀ W, Below w.heap.size w W → Calls Tryz.prog 9 #[.slice ad ld cd] W (CLRes IdlAt (cDirs ds) W) := fun W hW => dirs_all ds _ W ⟨xd, hsd.mono (Bl.later hW), DsAt.mono (Bl.later hW) _ _ hdd⟩ hq.2.2.2.1 hq.2.2.2.2.1
        have hc2 : ∀ W, Below w.heap.size w W → Calls Tryz.prog 10 #[.slice as_ ls cs_] W (CLRes IslAt (cSels ss2) W) := fun W hW => ih _ hq.1 ss2 _ W (fun s hm => by have := List.sizeOf_lt_of_mem hm; simp; omega) ⟨xs2, hss.mono (Bl.later hW), SelsAt.mono (Bl.later hW) _ _ hsx⟩ hq.2.2.2.2.2.1 hq.2.2.2.2.2.2
        have hS : ∀ W, Below w.heap.size w W → W.cell? ⟨b, 0, none⟩ = some (str a) ∧ W.cell? ⟨b, 3, none⟩ = some (str nm) ∧ W.cell? ⟨b, 6, none⟩ = some (.slice ag lg cg) ∧ W.cell? ⟨b, 7, none⟩ = some (.slice ad ld cd) ∧ W.cell? ⟨b, 8, none⟩ = some (.slice as_ ls cs_) := fun W hW => ⟨(Bl.later hW _ _ _ hb).cell 0, (Bl.later hW _ _ _ hb).cell 3, (Bl.later hW _ _ _ hb).cell 6, (Bl.later hW _ _ _ hb).cell 7, (Bl.later hW _ _ _ hb).cell 8⟩
        have t1 : ∀ (q : Value) (W : World), (Instr.typeAssert (.iface 120 q) 119 120 true).run Tryz.prog W = .ok (.tuple #[q, .bool true]) W := fun _ _ => by kernel_rfl
        have HS := Lib.hid hS
        have HC := Lib.hid (And.intro hc0 (And.intro hc1 hc2))
        have s0 := HS.out _ HW0.out
        clear hS hb hc0 hc1 hc2 hq hsa hga hsd hdd hss hsx
        go_wp2_with fail
        go_region_held3 (fun W => W.cell? ⟨b, 0, none⟩ = some (str a) ∧ W.cell? ⟨b, 3, none⟩ = some (str nm) ∧ W.cell? ⟨b, 6, none⟩ = some (.slice ag lg cg) ∧ W.cell? ⟨b, 7, none⟩ = some (.slice ad ld cd) ∧ W.cell? ⟨b, 8, none⟩ = some (.slice as_ ls cs_)) (first | exact s0 | exact s1 | exact s2 | exact s3 | exact s4 | exact s5) ((first
          | (go_at_call 17
             refine (HC.out.1 _ HW0.out).mono ?_
             rintro e v0 ⟨sl0', rfl, k1, k2⟩
             have k2 := below_drew k2
             obtain ⟨r0, m0, q0, rfl⟩ := k1.shape
             have hT : Below wr.heap.size wr v0 := k2
             have hWi : Below w.heap.size w v0 := HV.out.below.trans (hT.mono HV.out.below.size)
             have s1 := HS.out _ hWi
             have H0 := Lib.hid (And.intro k1 (And.intro k2 (And.intro hWi hT)))
             clear k1 k2 hWi hT)
          | (go_at_call 9
             refine (HC.out.2.1 _ H0.out.2.2.1).mono ?_
             rintro e v1 ⟨sl1', rfl, k1, k2⟩
             obtain ⟨r1, m1, q1, rfl⟩ := k1.shape
             have hT : Below wr.heap.size wr v1 := H0.out.2.2.2.trans (k2.mono H0.out.2.2.2.size)
             have hWi : Below w.heap.size w v1 := HV.out.below.trans (hT.mono HV.out.below.size)
             have s2 := HS.out _ hWi
             have H1 := Lib.hid (And.intro k1 (And.intro k2 (And.intro hWi hT)))
             clear k1 k2 hWi hT)
          | (go_at_call 10
             refine (HC.out.2.2 _ H1.out.2.2.1).mono ?_
             rintro e v2 ⟨sl2', rfl, k1, k2⟩
             obtain ⟨r2, m2, q2, rfl⟩ := k1.shape
             have hT : Below wr.heap.size wr v2 := H1.out.2.2.2.trans (k2.mono H1.out.2.2.2.size)
             have hWi : Below w.heap.size w v2 := HV.out.below.trans (hT.mono HV.out.below.size)
             have s3 := HS.out _ hWi
             have s4 := HS.out _ (hWi.alloc hWi.size (.cells #[numV 1, str a, str nm, str [], .slice r0 m0 q0, .slice r1 m1 q1, .slice r2 m2 q2] 84))
             have H2 := Lib.hid (And.intro k1 (And.intro k2 (And.intro hWi hT)))
             clear k1 k2 hWi hT)
          | (refine step_append_lies _ (by rfl) _ _ _ (by rfl) w.heap.size 84 i0 _ 7 128 Tryz.underlying62 hi hz0 hz1 hz2 rfl (by omega) (.slice ao l1 c1) acc.length xs (by rfl) (conv_next HV.out.row H2.out.2.2.2 _).row.own
               ⟨v2.heap.size, 0, none⟩ 1 1 [numV 1, str a, str nm, str [], .slice r0 m0 q0, .slice r1 m1 q1, .slice r2 m2 q2] (by rfl) (by rfl) (World.news_of_block (cs := #[numV 1, str a, str nm, str [], .slice r0 m0 q0, .slice r1 m1 q1, .slice r2 m2 q2]) (t := 84) (fr := (0, 0)) (heap_alloc_new v2 _)) (by simp [Value.oneCell'])
               (by omega) (by have := HN.out.2.2.2; unfold FMax at this; unfold maxLen; omega) (by have := HN.out.2.2.2; unfold FMax at this; omega) (conv_next HV.out.row H2.out.2.2.2 _).row.le (v2.heap.size + 1) (by simp) ?_
             intro g cap w9 ho hg hat hlt
             have hA := appd (conv_next HV.out.row H2.out.2.2.2 _).row ho hg hat (by simp)
             have hW9 : Below w.heap.size w w9 := below_grown (H2.out.2.2.1.alloc H2.out.2.2.1.size _) hA.grown (fun k hk => hA.old k hk)
             have s5 := HS.out _ hW9
             have H9 := Lib.hid hA
             clear ho hg hat hlt hA hW9)))
        clear s0 s1 s2 s3 s4 s5 cj
        go_wp2_with fail
        go_roundg k
        case measure => omega
        case rel =>
          have hcn := conv_next HV.out.row H2.out.2.2.2 (.cells #[numV 1, str a, str nm, str [], .slice r0 m0 q0, .slice r1 m1 q1, .slice r2 m2 q2] 84)
          have hR0 : IalAt (CN w9 w.heap.size (Value.slice (some ⟨g, 0, none⟩) (acc.length + 1) cap).ownBlock) (cArgs gs) (.slice r0 m0 q0) := H0.out.1.mono (fun b i u k => H9.out.cn b i u (hcn.new b i u (CN.below H2.out.2.1 b i u (CN.below H1.out.2.1 b i u (CN.up (Nat.le_refl _) b i u k)))))
          have hR1 : IdlAt (CN w9 w.heap.size (Value.slice (some ⟨g, 0, none⟩) (acc.length + 1) cap).ownBlock) (cDirs ds) (.slice r1 m1 q1) := H1.out.1.mono (fun b i u k => H9.out.cn b i u (hcn.new b i u (CN.below H2.out.2.1 b i u (CN.up (H0.out.2.2.2.size) b i u k))))
          have hR2 : IslAt (CN w9 w.heap.size (Value.slice (some ⟨g, 0, none⟩) (acc.length + 1) cap).ownBlock) (cSels ss2) (.slice r2 m2 q2) := H2.out.1.mono (fun b i u k => H9.out.cn b i u (hcn.new b i u (CN.up (H1.out.2.2.2.size) b i u k)))
          obtain ⟨ya, e0, f0⟩ := hR0
          obtain ⟨yd, e1, f1⟩ := hR1
          obtain ⟨ys, e2, f2⟩ := hR2
          have hI : IsAt (CN w9 w.heap.size (Value.slice (some ⟨g, 0, none⟩) (acc.length + 1) cap).ownBlock) (.mk 1 a nm [] (cArgs gs) (cDirs ds) (cSels ss2)) [numV 1, str a, str nm, str [], .slice r0 m0 q0, .slice r1 m1 q1, .slice r2 m2 q2] := ⟨_, ya, _, yd, _, ys, rfl, e0, f0, e1, f1, e2, f2⟩
          exact ⟨_, _, _, _, HV.out.step ⟨HN.out.1, HN.out.2.1, HN.out.2.2.1⟩ rfl H2.out.2.2.2 H9.out (IssAt.snoc hI _ _ (IssAt.mono (fun b i u k => H9.out.cn b i u (hcn.old b i u k)) _ _ HV.out.el))⟩
      | spread nm ds =>
        obtain ⟨b', l2, c2, sd, xd, l3, c3, hbb, hb, hsd, hdd⟩ := hp
        obtain ⟨rfl, hb2⟩ : TI = 123 ∧ b = b' := by injection hbb with h1 h2; injection h2 with h2; injection h2 with h2; injection h2 with h2; exact ⟨h1, h2⟩
        clear hbb
        subst hb2
        obtain ⟨ad, ld, cd, rfl⟩ := hsd.shape
        have hc0 : ∀ W, Below w.heap.size w W → Calls Tryz.prog 9 #[.slice ad ld cd] W (CLRes IdlAt (cDirs ds) W) := fun W hW => dirs_all ds _ W ⟨xd, hsd.mono (Bl.later hW), DsAt.mono (Bl.later hW) _ _ hdd⟩ hq.2.1 hq.2.2
        have hS : ∀ W, Below w.heap.size w W → W.cell? ⟨b, 0, none⟩ = some (str nm) ∧ W.cell? ⟨b, 3, none⟩ = some (.slice ad ld cd) := fun W hW => ⟨(Bl.later hW _ _ _ hb).cell 0, (Bl.later hW _ _ _ hb).cell 3⟩
        have t1 : ∀ (q : Value) (W : World), (Instr.typeAssert (.iface 123 q) 119 120 true).run Tryz.prog W = .ok (.tuple #[.pointer none, .bool false]) W := fun _ _ => by kernel_rfl
        have t2 : ∀ (q : Value) (W : World), (Instr.typeAssert (.iface 123 q) 119 123 true).run Tryz.prog W = .ok (.tuple #[q, .bool true]) W := fun _ _ => by kernel_rfl
        have HS := Lib.hid hS
        have HC := Lib.hid hc0
        have s0 := HS.out _ HW0.out
        clear hS hb hc0 hq hsd hdd
        go_wp2_with fail
        go_region_held3 (fun W => W.cell? ⟨b, 0, none⟩ = some (str nm) ∧ W.cell? ⟨b, 3, none⟩ = some (.slice ad ld cd)) (first | exact s0 | exact s1 | exact s2 | exact s3) ((first
          | (go_at_call 9
             refine (HC.out _ HW0.out).mono ?_
             rintro e v0 ⟨sl0', rfl, k1, k2⟩
             have k2 := below_drew k2
             obtain ⟨r0, m0, q0, rfl⟩ := k1.shape
             have hT : Below wr.heap.size wr v0 := k2
             have hWi : Below w.heap.size w v0 := HV.out.below.trans (hT.mono HV.out.below.size)
             have s1 := HS.out _ hWi
             have s2 := HS.out _ (hWi.alloc hWi.size (.cells #[numV 2, str [], str nm, str [], .slice none 0 0, .slice r0 m0 q0, .slice none 0 0] 84))
             have H0 := Lib.hid (And.intro k1 (And.intro k2 (And.intro hWi hT)))
             clear k1 k2 hWi hT)
          | (refine step_append_lies _ (by rfl) _ _ _ (by rfl) w.heap.size 84 i0 _ 7 128 Tryz.underlying62 hi hz0 hz1 hz2 rfl (by omega) (.slice ao l1 c1) acc.length xs (by rfl) (conv_next HV.out.row H0.out.2.2.2 _).row.own
               ⟨v0.heap.size, 0, none⟩ 1 1 [numV 2, str [], str nm, str [], .slice none 0 0, .slice r0 m0 q0, .slice none 0 0] (by rfl) (by rfl) (World.news_of_block (cs := #[numV 2, str [], str nm, str [], .slice none 0 0, .slice r0 m0 q0, .slice none 0 0]) (t := 84) (fr := (0, 0)) (heap_alloc_new v0 _)) (by simp [Value.oneCell'])
               (by omega) (by have := HN.out.2.2.2; unfold FMax at this; unfold maxLen; omega) (by have := HN.out.2.2.2; unfold FMax at this; omega) (conv_next HV.out.row H0.out.2.2.2 _).row.le (v0.heap.size + 1) (by simp) ?_
             intro g cap w9 ho hg hat hlt
             have hA := appd (conv_next HV.out.row H0.out.2.2.2 _).row ho hg hat (by simp)
             have hW9 : Below w.heap.size w w9 := below_grown (H0.out.2.2.1.alloc H0.out.2.2.1.size _) hA.grown (fun k hk => hA.old k hk)
             have s3 := HS.out _ hW9
             have H9 := Lib.hid hA
             clear ho hg hat hlt hA hW9)))
        clear s0 s1 s2 s3 cj
        go_wp2_with fail
        go_roundg k
        case measure => omega
        case rel =>
          have hcn := conv_next HV.out.row H0.out.2.2.2 (.cells #[numV 2, str [], str nm, str [], .slice none 0 0, .slice r0 m0 q0, .slice none 0 0] 84)
          have hR0 : IdlAt (CN w9 w.heap.size (Value.slice (some ⟨g, 0, none⟩) (acc.length + 1) cap).ownBlock) (cDirs ds) (.slice r0 m0 q0) := H0.out.1.mono (fun b i u k => H9.out.cn b i u (hcn.new b i u (CN.up (Nat.le_refl _) b i u k)))
          obtain ⟨yd, e1, f1⟩ := hR0
          have hI : IsAt (CN w9 w.heap.size (Value.slice (some ⟨g, 0, none⟩) (acc.length + 1) cap).ownBlock) (.mk 2 [] nm [] [] (cDirs ds) []) [numV 2, str [], str nm, str [], .slice none 0 0, .slice r0 m0 q0, .slice none 0 0] := ⟨_, [], _, yd, _, [], rfl, RowAt.nil 6, rfl, e1, f1, RowAt.nil 7, rfl⟩
          exact ⟨_, _, _, _, HV.out.step ⟨HN.out.1, HN.out.2.1, HN.out.2.2.1⟩ rfl H0.out.2.2.2 H9.out (IssAt.snoc hI _ _ (IssAt.mono (fun b i u k => H9.out.cn b i u (hcn.old b i u k)) _ _ HV.out.el))⟩
      | inline on ds ss2 =>
        obtain ⟨b', l2, c2, sl2, xs2, sd, xd, l3, c3, hbb, hb, hsd, hdd, hss, hsx⟩ := hp
        obtain ⟨rfl, hb2⟩ : TI = 126 ∧ b = b' := by injection hbb with h1 h2; injection h2 with h2; injection h2 with h2; injection h2 with h2; exact ⟨h1, h2⟩
        clear hbb
        subst hb2
        obtain ⟨ad, ld, cd, rfl⟩ := hsd.shape
        obtain ⟨as_, ls, cs_, rfl⟩ := hss.shape
        have hc0 : ∀ W, Below w.heap.size w W → Calls Tryz.prog 9 #[.slice ad ld cd] W (CLRes IdlAt (cDirs ds) W) := fun W hW => dirs_all ds _ W ⟨xd, hsd.mono (Bl.later hW), DsAt.mono (Bl.later hW) _ _ hdd⟩ hq.2.1 hq.2.2.1
        have hc1 : ∀ W, Below w.heap.size w W → Calls Tryz.prog 10 #[.slice as_ ls cs_] W (CLRes IslAt (cSels ss2) W) := fun W hW => ih _ hq.1 ss2 _ W (fun s hm => by have := List.sizeOf_lt_of_mem hm; simp; omega) ⟨xs2, hss.mono (Bl.later hW), SelsAt.mono (Bl.later hW) _ _ hsx⟩ hq.2.2.2.1 hq.2.2.2.2
        have hS : ∀ W, Below w.heap.size w W → W.cell? ⟨b, 0, none⟩ = some (str (on.getD [])) ∧ W.cell? ⟨b, 3, none⟩ = some (.slice as_ ls cs_) ∧ W.cell? ⟨b, 4, none⟩ = some (.slice ad ld cd) := fun W hW => ⟨(Bl.later hW _ _ _ hb).cell 0, (Bl.later hW _ _ _ hb).cell 3, (Bl.later hW _ _ _ hb).cell 4⟩
        have t1 : ∀ (q : Value) (W : World), (Instr.typeAssert (.iface 126 q) 119 120 true).run Tryz.prog W = .ok (.tuple #[.pointer none, .bool false]) W := fun _ _ => by kernel_rfl
        have t2 : ∀ (q : Value) (W : World), (Instr.typeAssert (.iface 126 q) 119 123 true).run Tryz.prog W = .ok (.tuple #[.pointer none, .bool false]) W := fun _ _ => by kernel_rfl
        have t3 : ∀ (q : Value) (W : World), (Instr.typeAssert (.iface 126 q) 119 126 true).run Tryz.prog W = .ok (.tuple #[q, .bool true]) W := fun _ _ => by kernel_rfl
        have HS := Lib.hid hS
        have HC := Lib.hid (And.intro hc0 hc1)
        have s0 := HS.out _ HW0.out
        clear hS hb hc0 hc1 hq hsd hdd hss hsx
        go_wp2_with fail
        go_region_held3 (fun W => W.cell? ⟨b, 0, none⟩ = some (str (on.getD [])) ∧ W.cell? ⟨b, 3, none⟩ = some (.slice as_ ls cs_) ∧ W.cell? ⟨b, 4, none⟩ = some (.slice ad ld cd)) (first | exact s0 | exact s1 | exact s2 | exact s3 | exact s4) ((first
          | (go_at_call 9
             refine (HC.out.1 _ HW0.out).mono ?_
             rintro e v0 ⟨sl0', rfl, k1, k2⟩
             have k2 := below_drew k2
             obtain ⟨r0, m0, q0, rfl⟩ := k1.shape
             have hT : Below wr.heap.size wr v0 := k2
             have hWi : Below w.heap.size w v0 := HV.out.below.trans (hT.mono HV.out.below.size)
             have s1 := HS.out _ hWi
             have H0 := Lib.hid (And.intro k1 (And.intro k2 (And.intro hWi hT)))
             clear k1 k2 hWi hT)
          | (go_at_call 10
             refine (HC.out.2 _ H0.out.2.2.1).mono ?_
             rintro e v1 ⟨sl1', rfl, k1, k2⟩
             obtain ⟨r1, m1, q1, rfl⟩ := k1.shape
             have hT : Below wr.heap.size wr v1 := H0.out.2.2.2.trans (k2.mono H0.out.2.2.2.size)
             have hWi : Below w.heap.size w v1 := HV.out.below.trans (hT.mono HV.out.below.size)
             have s2 := HS.out _ hWi
             have s3 := HS.out _ (hWi.alloc hWi.size (.cells #[numV 3, str [], str [], str (on.getD []), .slice none 0 0, .slice r0 m0 q0, .slice r1 m1 q1] 84))
             have H1 := Lib.hid (And.intro k1 (And.intro k2 (And.intro hWi hT)))
             clear k1 k2 hWi hT)
          | (refine step_append_lies _ (by rfl) _ _ _ (by rfl) w.heap.size 84 i0 _ 7 128 Tryz.underlying62 hi hz0 hz1 hz2 rfl (by omega) (.slice ao l1 c1) acc.length xs (by rfl) (conv_next HV.out.row H1.out.2.2.2 _).row.own
               ⟨v1.heap.size, 0, none⟩ 1 1 [numV 3, str [], str [], str (on.getD []), .slice none 0 0, .slice r0 m0 q0, .slice r1 m1 q1] (by rfl) (by rfl) (World.news_of_block (cs := #[numV 3, str [], str [], str (on.getD []), .slice none 0 0, .slice r0 m0 q0, .slice r1 m1 q1]) (t := 84) (fr := (0, 0)) (heap_alloc_new v1 _)) (by simp [Value.oneCell'])
               (by omega) (by have := HN.out.2.2.2; unfold FMax at this; unfold maxLen; omega) (by have := HN.out.2.2.2; unfold FMax at this; omega) (conv_next HV.out.row H1.out.2.2.2 _).row.le (v1.heap.size + 1) (by simp) ?_
             intro g cap w9 ho hg hat hlt
             have hA := appd (conv_next HV.out.row H1.out.2.2.2 _).row ho hg hat (by simp)
             have hW9 : Below w.heap.size w w9 := below_grown (H1.out.2.2.1.alloc H1.out.2.2.1.size _) hA.grown (fun k hk => hA.old k hk)
             have s4 := HS.out _ hW9
             have H9 := Lib.hid hA
             clear ho hg hat hlt hA hW9)))
        clear s0 s1 s2 s3 s4 cj
        go_wp2_with fail
        go_roundg k
        case measure => omega
        case rel =>
          have hcn := conv_next HV.out.row H1.out.2.2.2 (.cells #[numV 3, str [], str [], str (on.getD []), .slice none 0 0, .slice r0 m0 q0, .slice r1 m1 q1] 84)
          have hR0 : IdlAt (CN w9 w.heap.size (Value.slice (some ⟨g, 0, none⟩) (acc.length + 1) cap).ownBlock) (cDirs ds) (.slice r0 m0 q0) := H0.out.1.mono (fun b i u k => H9.out.cn b i u (hcn.new b i u (CN.below H1.out.2.1 b i u (CN.up (Nat.le_refl _) b i u k))))
          have hR1 : IslAt (CN w9 w.heap.size (Value.slice (some ⟨g, 0, none⟩) (acc.length + 1) cap).ownBlock) (cSels ss2) (.slice r1 m1 q1) := H1.out.1.mono (fun b i u k => H9.out.cn b i u (hcn.new b i u (CN.up (H0.out.2.2.2.size) b i u k)))
          obtain ⟨yd, e1, f1⟩ := hR0
          obtain ⟨ys, e2, f2⟩ := hR1
          have hI : IsAt (CN w9 w.heap.size (Value.slice (some ⟨g, 0, none⟩) (acc.length + 1) cap).ownBlock) (.mk 3 [] [] (on.getD []) [] (cDirs ds) (cSels ss2)) [numV 3, str [], str [], str (on.getD []), .slice none 0 0, .slice r0 m0 q0, .slice r1 m1 q1] := ⟨_, [], _, yd, _, ys, rfl, RowAt.nil 6, rfl, e1, f1, e2, f2⟩
          exact ⟨_, _, _, _, HV.out.step ⟨HN.out.1, HN.out.2.1, HN.out.2.2.1⟩ rfl H1.out.2.2.2 H9.out (IssAt.snoc hI _ _ (IssAt.mono (fun b i u k => H9.out.cn b i u (hcn.old b i u k)) _ _ HV.out.el))⟩

theorem sels_conv_all (n : Nat) : SConv n := by
  induction n using Nat.strongRecOn with
  | ind n ih => exact sels_conv n ih

theorem sels_all (ss : List Sel) (sl : Value) (w : World) (h : SLAt (Bl w) ss sl) (hl : ss.length ≤ FMax) (hs : SelsSm FMax ss) : Calls Tryz.prog 10 #[sl] w (CLRes IslAt (cSels ss) w) :=
  sels_conv_all (SizeOf.sizeOf ss) ss sl w (fun _d hd => List.sizeOf_lt_of_mem hd) h hl hs

end Go.Proofs.YtobiaaabikfglaaGreatDoor
