/-
  impl's conversion of values by a contract: all values. No conditions but lengths.
-/
import Derived.Test.YtobiaaabikfglaaGreatDoorR25
namespace Go.Proofs.YtobiaaabikfglaaGreatDoor
open Go.RowKit Go.Proofs.YtobiaaabikfglaaGreatDoor.Pq Go.Lib

set_option maxRecDepth 100000 in
set_option maxHeartbeats 1000000 in
theorem value_null (x : Value) (w : World) (h : VAt (Bl w) .null x) : Calls Tryz.prog 16 #[x] w (CRes IvAt (cVal .null) w) := by
  obtain ⟨b, l, c, rfl, h⟩ := h
  have t1 : ∀ (p : Value) (W : World), (Instr.typeAssert (.iface 145 p) 100 145 true).run Tryz.prog W = .ok (.tuple #[p, .bool true]) W := fun _ _ => by kernel_rfl
  clear h
  go_enter Tryz.func16, Tryz.ntmps16
  go_wp2_with fail
  exact bodyPost_ret (v := .agg #[numV 1, str [], .slice none 0 0, .slice none 0 0]) (by simp [results, Tryz.results16, go_sem]) rfl (iv_plain w _ 1 _)

set_option maxRecDepth 100000 in
set_option maxHeartbeats 1000000 in
theorem value_var (s : Bs) (x : Value) (w : World) (h : VAt (Bl w) (.var s) x) : Calls Tryz.prog 16 #[x] w (CRes IvAt (cVal (.var s)) w) := by
  obtain ⟨b, l, c, rfl, h⟩ := h
  have t1 : ∀ (p : Value) (W : World), (Instr.typeAssert (.iface 146 p) 100 145 true).run Tryz.prog W = .ok (.tuple #[.pointer none, .bool false]) W := fun _ _ => by kernel_rfl
  have t2 : ∀ (p : Value) (W : World), (Instr.typeAssert (.iface 146 p) 100 146 true).run Tryz.prog W = .ok (.tuple #[p, .bool true]) W := fun _ _ => by kernel_rfl
  have c0 : (w.alloc (.cells #[numV 0, str [], .slice none 0 0, .slice none 0 0] 79)).cell? ⟨b, 0, none⟩ = some (str s) := (h.alloc _).cell 0
  clear h
  go_enter Tryz.func16, Tryz.ntmps16
  go_wp2_with fail
  exact bodyPost_ret (v := .agg #[numV 9, str s, .slice none 0 0, .slice none 0 0]) (by simp [results, Tryz.results16, go_sem]) rfl (iv_plain w _ 9 _)

/-- a value made by another function, handed on -/
theorem iv_handed {w w1 W : World} {D : Obj} {v : IVal} {cs : List Value} (h1 : IvAt (CN w1 (w.alloc D).heap.size none) v cs) (h2 : Below (w.alloc D).heap.size (w.alloc D) w1) (hF : Fr [w.heap.size] w1 [w.heap.size] W) : CRes IvAt v w (.returned (.agg cs.toArray)) W := by
  have z := h2.size
  simp at z
  refine ⟨cs, rfl, IvAt.mono (fun b i u k => CN.up (by simp) b i u (CN.fr hF (by simp) b i u k)) _ _ h1, ?_⟩
  exact (((Below.refl _ _).alloc (Nat.le_refl _) D).trans (h2.mono (by simp))).trans (hF.to_below (by omega) (by simp))

set_option maxRecDepth 100000 in
set_option maxHeartbeats 1000000 in
theorem value_prim (k : Int) (s : Bs) (x : Value) (w : World) (h : VAt (Bl w) (.prim k s) x) (hk : k ≠ -6) : Calls Tryz.prog 16 #[x] w (CRes IvAt (cVal (.prim k s)) w) := by
  obtain ⟨b, l, c, rfl, h⟩ := h
  have t1 : ∀ (p : Value) (W : World), (Instr.typeAssert (.iface 148 p) 100 145 true).run Tryz.prog W = .ok (.tuple #[.pointer none, .bool false]) W := fun _ _ => by kernel_rfl
  have t2 : ∀ (p : Value) (W : World), (Instr.typeAssert (.iface 148 p) 100 146 true).run Tryz.prog W = .ok (.tuple #[.pointer none, .bool false]) W := fun _ _ => by kernel_rfl
  have t3 : ∀ (p : Value) (W : World), (Instr.typeAssert (.iface 148 p) 100 148 true).run Tryz.prog W = .ok (.tuple #[p, .bool true]) W := fun _ _ => by kernel_rfl
  have hl := literal_any b k s l c (w.alloc (.cells #[numV 0, str [], .slice none 0 0, .slice none 0 0] 79)) (h.alloc _) hk
  have HL := Lib.hid hl
  clear h hl hk
  show Calls _ _ _ _ (CRes IvAt (cPrim k s) w)
  go_enter Tryz.func16, Tryz.ntmps16
  go_wp2_with fail
  refine HL.out.mono ?_
  rintro e w1 ⟨cs, rfl, k1, k2⟩
  obtain ⟨kk, ks, a1, l1, c1, a2, l2, c2, rfl⟩ := k1.shape
  have hD : Bl w1 w.heap.size #[numV 0, str [], .slice none 0 0, .slice none 0 0] 79 := (Bl.new w _ _).below k2 (by simp)
  have g0 := hD.cell 0
  have g1 := hD.cell 1
  have g2 := hD.cell 2
  have g3 := hD.cell 3
  have f1 : ∀ o, w1.frozen? ⟨w.heap.size, o, none⟩ = false := hD.free
  have H1 := Lib.hid (And.intro k1 k2)
  clear k1 k2 hD
  go_wp2_with fail
  refine bodyPost_ret (v := .agg #[numV kk, str ks, .slice a1 l1 c1, .slice a2 l2 c2]) (by simp [results, Tryz.results16, go_sem, g0, g1, g2, g3]) rfl ?_
  exact iv_handed H1.out.1 H1.out.2 (((((Fr.refl _ _).set (.inl (by simp)) _).set (.inl (by simp)) _).set (.inl (by simp)) _).set (.inl (by simp)) _)

theorem value_conv : ∀ n, VConv n
  | 0 => fun _ _ _ h => absurd h (Nat.not_lt_zero _)
  | n + 1 => fun v x w hv h hs => by
    have ih := value_conv n
    cases v with
    | null => exact value_null x w h
    | var s => exact value_var s x w h
    | prim k s => exact value_prim k s x w h hs
    | list vs => exact value_list vs x w (fun u y W hu => ih u y W (by omega)) h hs
    | obj fs => exact value_obj fs x w (fun u y W hu => ih u y W (by omega)) h hs

theorem value_any (v : Val) (x : Value) (w : World) (h : VAt (Bl w) v x) (hs : VSm FMax v) : Calls Tryz.prog 16 #[x] w (CRes IvAt (cVal v) w) :=
  value_conv (SizeOf.sizeOf v + 1) v x w (Nat.lt_succ_self _) h hs

end Go.Proofs.YtobiaaabikfglaaGreatDoor

/-
  Loops that build a list in a variable, by a relation. No conditions.
-/
namespace Go.Proofs.YtobiaaabikfglaaGreatDoor
open Go.RowKit Go.Proofs.YtobiaaabikfglaaGreatDoor.Pq Go.Lib

structure LRel {α β : Type} (Src : Bk → List α → List Value → Prop) (Els : Ck → List β → List Value → Prop) (conv : List α → List β) (Q : α → Prop) (t : TypeId) (size : Nat) (w : World) (n : Nat) (src : List Value) (out : List β)
    (k : Nat) (i : Value) (wr : World) (j : Nat) (rest : List α) (acc : List β) (v : Value) (xs : List Value) : Prop where
  idx : i = .int .i64 j
  sum : j + k = n
  src : Src (Bl w) rest (src.drop j)
  len : rest.length = k
  mem : ∀ u, u ∈ rest → Q u
  done : out = acc ++ conv rest
  accl : acc.length = j
  row : GrowsN wr w.heap.size t size v acc.length xs
  el : Els (CN wr w.heap.size v.ownBlock) acc xs
  below : Below w.heap.size w wr

section
variable {α β : Type} {Src : Bk → List α → List Value → Prop} {Els : Ck → List β → List Value → Prop} {conv : List α → List β} {Q : α → Prop} {t : TypeId} {size : Nat} {w : World} {n : Nat} {src : List Value} {out : List β}

theorem LRel.start {l : List α} (h1 : Src (Bl w) l src) (h2 : src.length = l.length) (hq : ∀ u, u ∈ l → Q u) (he : ∀ C, Els C [] []) : LRel Src Els conv Q t size w src.length src (conv l) src.length (.int .i64 (((0 : Nat) : Int))) w 0 l [] (.slice none 0 0) [] :=
  ⟨rfl, by simp, by simpa using h1, h2.symm, hq, by simp, rfl, GrowsN.nil _ _ _, he _, .refl _ _⟩

theorem LRel.step {k j : Nat} {wr w3 w4 : World} {a : α} {rest' : List α} {acc : List β} {b : β} {v v' : Value} {xs cs : List Value}
    (h : LRel Src Els conv Q t size w n src out (k + 1) (.int .i64 j) wr j (a :: rest') acc v xs) (hn : Src (Bl w) rest' (src.drop (j + 1)) ∧ rest'.length = k ∧ ∀ u, u ∈ rest' → Q u) (hc : conv (a :: rest') = b :: conv rest')
    (h2 : Below wr.heap.size wr w3) (ha : Appd (w3.alloc (.cells cs.toArray t)) w4 w.heap.size t size v v' (acc.length + 1) (xs ++ cs))
    (he : Els (CN w4 w.heap.size v'.ownBlock) (acc ++ [b]) (xs ++ cs)) :
    LRel Src Els conv Q t size w n src out k (.int .i64 ((j + 1 : Nat) : Int)) w4 (j + 1) rest' (acc ++ [b]) v' (xs ++ cs) := by
  refine ⟨rfl, by have := h.sum; omega, hn.1, hn.2.1, hn.2.2, by rw [h.done, hc]; simp, by simp [h.accl], ?_, he, ?_⟩
  · have := ha.row
    simpa using this
  · have hz := h.below.size
    have z2 := h2.size
    exact below_grown ((h.below.trans (h2.mono hz)).alloc (by omega) _) ha.grown (fun k hk => ha.old k hk)

theorem LRel.finish {i : Value} {wr : World} {j : Nat} {rest : List α} {acc : List β} {v : Value} {xs : List Value} (h : LRel Src Els conv Q t size w n src out 0 i wr j rest acc v xs) (hc : conv [] = [])
    (hm : ∀ C C', (∀ b i v, C b i v → C' b i v) → ∀ l xs, Els C l xs → Els C' l xs) :
    (∃ xs, RowAt (CN wr w.heap.size none) size v out.length xs ∧ Els (CN wr w.heap.size none) out xs) ∧ Below w.heap.size w wr := by
  have hrest : rest = [] := List.eq_nil_of_length_eq_zero h.len
  have hout : out = acc := by rw [h.done, hrest, hc]; simp
  rw [hout]
  exact ⟨⟨xs, h.row.rd, hm _ _ CN.all _ _ h.el⟩, h.below⟩
end

end Go.Proofs.YtobiaaabikfglaaGreatDoor

/-
  impl's conversion of directives by a contract. No conditions but lengths.
-/
namespace Go.Proofs.YtobiaaabikfglaaGreatDoor
open Go.RowKit Go.Proofs.YtobiaaabikfglaaGreatDoor.Pq Go.Lib

def DConv (n : Nat) : Prop := ∀ (ds : List Dir) (sl : Value) (w : World), (∀ d, d ∈ ds → SizeOf.sizeOf d < n) → DLAt (Bl w) ds sl → ds.length ≤ FMax → DsSm FMax ds → Calls Tryz.prog 9 #[sl] w (CLRes IdlAt (cDirs ds) w)
def AConv (n : Nat) : Prop := ∀ (gs : List Arg) (sl : Value) (w : World), (∀ g, g ∈ gs → ∀ d, d ∈ g.2.2 → SizeOf.sizeOf d < n) → ALAt (Bl w) gs sl → gs.length ≤ FMax → AsSm FMax gs → Calls Tryz.prog 17 #[sl] w (CLRes IalAt (cArgs gs) w)

theorem DsAt.len {B : Bk} : ∀ (vs : List Dir) (xs : List Value), DsAt B vs xs → xs.length = vs.length
  | [], xs => fun h => by
    have h : xs = [] := h
    subst h; rfl
  | v :: vs, xs => fun ⟨y, ys, h1, _, h3⟩ => by rw [h1]; simp [DsAt.len vs ys h3]
theorem AsAt.len {B : Bk} : ∀ (vs : List Arg) (xs : List Value), AsAt B vs xs → xs.length = vs.length
  | [], xs => fun h => by
    have h : xs = [] := h
    subst h; rfl
  | (n, v, ds) :: vs, xs => fun ⟨b, l, c, y, sl, zs, ys, h1, _, _, _, _, h3⟩ => by rw [h1]; simp [AsAt.len vs ys h3]
theorem DsSm.mem {K : Nat} : ∀ {l : List Dir}, DsSm K l → ∀ u, u ∈ l → DSm K u
  | [], _, u, hu => by simp at hu
  | v :: l, h, u, hu => by
    simp at hu
    rcases hu with rfl | hu
    · exact h.1
    · exact DsSm.mem h.2 u hu

theorem dir_next {Q : Dir → Prop} {w : World} {n : Nat} {src : List Value} {out : List IDir} {k : Nat} {i : Value} {wr : World} {j : Nat} {rest : List Dir} {acc : List IDir} {v : Value} {xs : List Value} (h : LRel DsAt IdsAt cDirs Q 117 2 w n src out (k + 1) i wr j rest acc v xs) :
    ∃ nm gs rest' b sl l c, rest = .mk nm gs :: rest' ∧ src[j]? = some (ptrV b) ∧ Bl w b #[str nm, numV l, numV c, sl] 114 ∧ ALAt (Bl w) gs sl ∧ DsAt (Bl w) rest' (src.drop (j + 1)) ∧ rest'.length = k ∧ Q (.mk nm gs) ∧ ∀ u, u ∈ rest' → Q u := by
  have h1 := h.src
  have h2 := h.len
  cases rest with
  | nil => simp at h2
  | cons d rest' =>
    obtain ⟨y, ys, e, h3, h4⟩ := h1
    cases d with
    | mk nm gs =>
    obtain ⟨b, sl, zs, l, c, rfl, h5, h6, h7⟩ := h3
    refine ⟨nm, gs, rest', b, sl, l, c, rfl, ?_, h5, ⟨zs, h6, h7⟩, ?_, by simpa using h2, h.mem _ (by simp), fun u hu => h.mem u (by simp [hu])⟩
    · have : (src.drop j)[0]? = some (ptrV b) := by rw [e]; rfl
      simpa using this
    · have : src.drop (j + 1) = ys := by rw [← List.drop_drop, e]; rfl
      rw [this]; exact h4

set_option maxRecDepth 100000 in
set_option maxHeartbeats 4000000 in
theorem dirs_conv (n : Nat) (ih : ∀ m, m < n → AConv m) : DConv n := by
  intro ds sl w hn h hl hs
  obtain ⟨i0, hi, hz0, hz1, hz2⟩ := info_parts (by kernel_rfl : (Tryz.prog.info? 117).map (fun i => (i.zero, i.size, i.bytes)) = some (some (.agg #[.string ⟨#[]⟩, .slice none 0 0]), 2, 40))
  obtain ⟨src, h2, h3⟩ := h
  obtain ⟨a0, cap0, rfl, hc1, hc2, hrd⟩ := h2.read
  have hlen := DsAt.len _ _ h3
  have H := Lib.hid (And.intro h3 (And.intro hl (And.intro hrd (And.intro hlen (fun d hd => And.intro (hn d hd) (DsSm.mem hs d hd))))))
  have hc3 : (src.length : Int) ≤ 9223372036854775807 := by unfold maxLen at hc2; omega
  clear h2 h3 hs hl hrd hlen hc1 hc2 hn
  go_enter Tryz.func9, Tryz.ntmps9
  go_wp2_with fail
  go_loopg [3, 8] src.length (fun k v i wr => ∃ j rest acc xs, LRel DsAt IdsAt cDirs (fun d => SizeOf.sizeOf d < n ∧ DSm FMax d) 117 2 w src.length src (cDirs ds) k i wr j rest acc v xs)
  case atStart => exact ⟨0, ds, [], [], LRel.start H.out.1 H.out.2.2.2.1 H.out.2.2.2.2 (fun _ => rfl)⟩
  case round =>
    obtain ⟨j, rest, acc, xs, hV⟩ := hrel
    obtain ⟨ao, l1, c1, rfl⟩ := hV.row.shape
    obtain rfl := hV.idx
    have hsum := hV.sum
    have HV := Lib.hid hV
    clear hV
    cases gk with
    | zero =>
      go_wp2_with fail
      go_ret
      obtain ⟨k1, k2⟩ := HV.out.finish rfl (fun C C' h l xs => IdsAt.mono h l xs)
      exact ⟨_, rfl, k1, k2⟩
    | succ k =>
      obtain ⟨nm, gs, rest', b, sl2, l, c, rfl, hsj, hb, hal, hds, hrl, hq, hqs⟩ := dir_next HV.out
      obtain ⟨T, rfl, hcell⟩ := H.out.2.2.1 j _ hsj
      have cj : wr.cell? ⟨T, j, none⟩ = some (ptrV b) := cell_later HV.out.below hcell
      obtain ⟨za, hza1, hza2⟩ := hal
      obtain ⟨ag, lg, cg, rfl⟩ := hza1.shape
      have hcall : ∀ W, Below w.heap.size w W → Calls Tryz.prog 17 #[.slice ag lg cg] W (CLRes IalAt (cArgs gs) W) := fun W hW =>
        ih _ hq.1 gs _ W (fun g hg d hd => by
          have h1 := List.sizeOf_lt_of_mem hg
          have h2 := List.sizeOf_lt_of_mem hd
          obtain ⟨a, b, c⟩ := g
          simp at h1 h2 ⊢
          omega) ⟨za, hza1.mono (Bl.later hW), AsAt.mono (Bl.later hW) _ _ hza2⟩ hq.2.1 hq.2.2
      have hS : ∀ W, Below w.heap.size w W → W.cell? ⟨b, 0, none⟩ = some (str nm) ∧ W.cell? ⟨b, 3, none⟩ = some (.slice ag lg cg) := fun W hW => ⟨(Bl.later hW _ _ _ hb).cell 0, (Bl.later hW _ _ _ hb).cell 3⟩
      have hacc : acc.length + 1 ≤ FMax := by have := HV.out.accl; have := H.out.2.1; have := H.out.2.2.2.1; omega
      have HS := Lib.hid hS
      have HN := Lib.hid (And.intro hds (And.intro hrl (And.intro hqs (And.intro hcall hacc))))
      have hW0 : Below w.heap.size w wr.drew := HV.out.below.trans ⟨rfl, rfl, rfl, Nat.le_refl _, fun _ _ => rfl⟩
      have HW0 := Lib.hid hW0
      have s0 := HS.out _ HW0.out
      clear hsj hb hza1 hza2 hds hrl hq hqs hcall hS hacc hcell hW0
      go_wp2_with fail
      go_region_held3 (fun w' => w'.cell? ⟨b, 0, none⟩ = some (str nm) ∧ w'.cell? ⟨b, 3, none⟩ = some (.slice ag lg cg)) (first | exact s0 | exact s1 | exact s2 | exact s3) ((first
        | (go_at_call 17
           refine (HN.out.2.2.2.1 _ HW0.out).mono ?_
           rintro e w3 ⟨sl3, rfl, k1, k2⟩
           have k2 := below_drew k2
           obtain ⟨a3, l3, c3, rfl⟩ := k1.shape
           have hW3 : Below w.heap.size w w3 := HV.out.below.trans (k2.mono HV.out.below.size)
           have s1 := HS.out _ hW3
           have s2 := HS.out _ (hW3.alloc hW3.size (.cells #[str nm, .slice a3 l3 c3] 117))
           have H3 := Lib.hid (And.intro k1 (And.intro k2 hW3))
           clear k1 k2 hW3)
        | (refine step_append_lies _ (by rfl) _ _ _ (by rfl) w.heap.size 117 i0 _ 2 40 Tryz.underlying60 hi hz0 hz1 hz2 rfl (by omega) (.slice ao l1 c1) acc.length xs (by rfl) (conv_next HV.out.row H3.out.2.1 _).row.own
             ⟨w3.heap.size, 0, none⟩ 1 1 [str nm, .slice a3 l3 c3] (by rfl) (by rfl) (World.news_of_block (cs := #[str nm, .slice a3 l3 c3]) (t := 117) (fr := (0, 0)) (heap_alloc_new w3 _)) (by simp [Value.oneCell'])
             (by omega) (by have := HN.out.2.2.2.2; unfold FMax at this; unfold maxLen; omega) (by have := HN.out.2.2.2.2; unfold FMax at this; omega) (conv_next HV.out.row H3.out.2.1 _).row.le (w3.heap.size + 1) (by simp) ?_
           intro g cap w4 ho hg hat hlt
           have hA := appd (conv_next HV.out.row H3.out.2.1 _).row ho hg hat (by simp)
           have hW4 : Below w.heap.size w w4 := below_grown (H3.out.2.2.alloc H3.out.2.2.size _) hA.grown (fun k hk => hA.old k hk)
           have s3 := HS.out _ hW4
           have H4 := Lib.hid hA
           clear ho hg hat hlt hA hW4)))
      clear s0 s1 s2 s3 cj
      go_wp2_with fail
      go_roundg k
      case measure => omega
      case rel =>
        have hcn := conv_next HV.out.row H3.out.2.1 (.cells #[str nm, .slice a3 l3 c3] 117)
        have hI : IdAt (CN w4 w.heap.size (Value.slice (some ⟨g, 0, none⟩) (acc.length + 1) cap).ownBlock) (.mk nm (cArgs gs)) [str nm, .slice a3 l3 c3] := by
          obtain ⟨za, q1, q2⟩ := H3.out.1
          exact ⟨_, za, rfl, q1.mono (fun b i u k => H4.out.cn b i u (hcn.new b i u k)), IasAt.mono (fun b i u k => H4.out.cn b i u (hcn.new b i u k)) _ _ q2⟩
        exact ⟨_, _, _, _, HV.out.step ⟨HN.out.1, HN.out.2.1, HN.out.2.2.1⟩ rfl H3.out.2.1 H4.out (IdsAt.snoc hI _ _ (IdsAt.mono (fun b i u k => H4.out.cn b i u (hcn.old b i u k)) _ _ HV.out.el))⟩

end Go.Proofs.YtobiaaabikfglaaGreatDoor
