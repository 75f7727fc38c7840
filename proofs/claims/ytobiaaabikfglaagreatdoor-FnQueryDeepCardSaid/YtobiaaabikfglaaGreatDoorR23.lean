/-
  impl's conversion of types by a contract. No conditions but lengths.
-/
import Derived.Test.YtobiaaabikfglaaGreatDoorR22
import Derived.OrdersHeld
import Derived.RegionTactic
namespace Go.Proofs.YtobiaaabikfglaaGreatDoor
open Go.RowKit Go.Proofs.YtobiaaabikfglaaGreatDoor.Pq Go.Lib

theorem RowAt.single {C : Ck} {size b : Nat} {xs : List Value} (hs : xs.length = size) (h : ∀ j v, xs[j]? = some v → C b j v) : RowAt C size (.slice (some ⟨b, 0, none⟩) 1 1) 1 xs :=
  ⟨_, 1, rfl, Nat.le_refl _, by unfold maxLen; omega, by omega, .inr ⟨b, 0, rfl, fun j v hj => by rw [Nat.zero_add]; exact h j v hj⟩⟩

theorem ItAt.len {C : Ck} {t : ITy} {cs : List Value} (h : ItAt C t cs) : cs.length = 3 := by
  obtain ⟨k, s, a1, l1, c1, rfl⟩ := h.shape
  rfl

/-- stores into block D turn nothing of the blocks behind it -/
theorem CN.fr {w w' : World} {D base : Nat} {x : Option Nat} (hf : Fr [D] w [D] w') (hD : D < base) : ∀ b i v, CN w base x b i v → CN w' base x b i v :=
  fun _ _ _ ⟨h1, h2, cs, t, h3, h4⟩ => ⟨h1, h2, cs, t, (hf.bl h3 (by simp; omega)).1, h4⟩

theorem CN.alloc {w : World} {base : Nat} {x : Option Nat} (o : Obj) : ∀ b i v, CN w base x b i v → CN (w.alloc o) base x b i v := CN.below ((Below.refl _ _).alloc (Nat.le_refl _) o)

/-- a type of one part -/
theorem it_one {w w1 W : World} {D : Obj} {k : Int} {t : ITy} {cs : List Value} (h1 : ItAt (CN w1 (w.alloc D).heap.size none) t cs) (h2 : Below (w.alloc D).heap.size (w.alloc D) w1)
    (hF : Fr [w.heap.size] (w1.alloc (.cells cs.toArray 105)) [w.heap.size] W) : CRes ItAt (.mk k [] [t]) w (.returned (.agg #[numV k, str [], .slice (some ⟨w1.heap.size, 0, none⟩) 1 1])) W := by
  have z := h2.size
  simp at z
  have hB : Below w.heap.size w W := ((((Below.refl _ _).alloc (Nat.le_refl _) D).trans (h2.mono (by simp))).alloc (by omega) _).trans (hF.to_below (by simp; omega) (by simp))
  refine ⟨[numV k, str [], .slice (some ⟨w1.heap.size, 0, none⟩) 1 1], rfl, ⟨_, cs, rfl, ?_, ?_⟩, hB⟩
  · refine RowAt.single h1.len (fun j v hj => ?_)
    exact CN.up (Nat.le_succ _) _ _ _ (CN.fr hF (Nat.lt_succ_self _) _ _ _ ⟨by omega, by simp, _, _, Bl.new w1 _ _, by simpa using hj⟩)
  · refine ⟨cs, [], by simp, ItAt.mono (fun b j v hc => ?_) _ _ h1, rfl⟩
    exact CN.up (Nat.le_succ _) _ _ _ (CN.fr hF (Nat.lt_succ_self _) _ _ _ (CN.alloc _ _ _ _ (CN.up (by simp) _ _ _ hc)))

set_option maxRecDepth 100000 in
set_option maxHeartbeats 1000000 in
theorem typ_any : ∀ (t : Ty) (x : Value) (w : World), TyAt (Bl w) t x → Calls Tryz.prog 15 #[x] w (CRes ItAt (cTy t) w)
  | .named n, x, w, h => by
    obtain ⟨b, l, c, rfl, h⟩ := h
    have c0 : (w.alloc (.cells #[numV 0, str [], .slice none 0 0] 105)).cell? ⟨b, 0, none⟩ = some (str n) := (h.alloc _).cell 0
    have t1 : ∀ (p : Value) (W : World), (Instr.typeAssert (.iface 141 p) 98 136 true).run Tryz.prog W = .ok (.tuple #[.pointer none, .bool false]) W := fun _ _ => by kernel_rfl
    have t2 : ∀ (p : Value) (W : World), (Instr.typeAssert (.iface 141 p) 98 139 true).run Tryz.prog W = .ok (.tuple #[.pointer none, .bool false]) W := fun _ _ => by kernel_rfl
    have t3 : ∀ (p : Value) (W : World), (Instr.typeAssert (.iface 141 p) 98 141 true).run Tryz.prog W = .ok (.tuple #[p, .bool true]) W := fun _ _ => by kernel_rfl
    clear h
    go_enter Tryz.func15, Tryz.ntmps15
    go_wp2_with fail
    refine bodyPost_ret (v := .agg #[numV 1, str n, .slice none 0 0]) (by simp [results, Tryz.results15, go_sem]) rfl ?_
    exact ⟨[numV 1, str n, .slice none 0 0], rfl, ⟨.slice none 0 0, [], rfl, RowAt.nil 3, rfl⟩, (Below.refl _ _).alloc (Nat.le_refl _) _⟩
  | .list t, x, w, h => by
    obtain ⟨b, y, rfl, h1, h2⟩ := h
    obtain ⟨T, b2, rfl⟩ := h2.shape
    have c0 : (w.alloc (.cells #[numV 0, str [], .slice none 0 0] 105)).cell? ⟨b, 0, none⟩ = some (.iface T (ptrV b2)) := (h1.alloc _).cell 0
    have ih := typ_any t _ (w.alloc (.cells #[numV 0, str [], .slice none 0 0] 105)) (TyAt.mono (fun _ _ _ k => k.alloc _) _ _ h2)
    have t1 : ∀ (p : Value) (W : World), (Instr.typeAssert (.iface 136 p) 98 136 true).run Tryz.prog W = .ok (.tuple #[p, .bool true]) W := fun _ _ => by kernel_rfl
    have H := Lib.hid ih
    clear h1 h2 ih
    go_enter Tryz.func15, Tryz.ntmps15
    go_wp2_with fail
    refine H.out.mono ?_
    rintro e w1 ⟨cs, rfl, k1, k2⟩
    obtain ⟨k, s, a1, l1, c1, rfl⟩ := k1.shape
    have hD : Bl (w1.alloc (.cells #[numV k, str s, .slice a1 l1 c1] 105)) w.heap.size #[numV 0, str [], .slice none 0 0] 105 := ((Bl.new w _ _).below k2 (by simp)).alloc _
    have g0 := hD.cell 0
    have g1 := hD.cell 1
    have g2 := hD.cell 2
    have f1 : ∀ o, (w1.alloc (.cells #[numV k, str s, .slice a1 l1 c1] 105)).frozen? ⟨w.heap.size, o, none⟩ = false := hD.free
    have H1 := Lib.hid (And.intro k1 k2)
    clear k1 k2 hD
    go_wp2_with fail
    refine bodyPost_ret (v := .agg #[numV 2, str [], .slice (some ⟨w1.heap.size, 0, none⟩) 1 1]) (by simp [results, Tryz.results15, go_sem, g0, g1, g2]) rfl ?_
    exact it_one H1.out.1 H1.out.2 ((((Fr.refl _ _).set (.inl (by simp)) _).set (.inl (by simp)) _).set (.inl (by simp)) _)
  | .nonnull t, x, w, h => by
    obtain ⟨b, y, rfl, h1, h2⟩ := h
    obtain ⟨T, b2, rfl⟩ := h2.shape
    have c0 : (w.alloc (.cells #[numV 0, str [], .slice none 0 0] 105)).cell? ⟨b, 0, none⟩ = some (.iface T (ptrV b2)) := (h1.alloc _).cell 0
    have ih := typ_any t _ (w.alloc (.cells #[numV 0, str [], .slice none 0 0] 105)) (TyAt.mono (fun _ _ _ k => k.alloc _) _ _ h2)
    have t1 : ∀ (p : Value) (W : World), (Instr.typeAssert (.iface 139 p) 98 136 true).run Tryz.prog W = .ok (.tuple #[.pointer none, .bool false]) W := fun _ _ => by kernel_rfl
    have t2 : ∀ (p : Value) (W : World), (Instr.typeAssert (.iface 139 p) 98 139 true).run Tryz.prog W = .ok (.tuple #[p, .bool true]) W := fun _ _ => by kernel_rfl
    have H := Lib.hid ih
    clear h1 h2 ih
    go_enter Tryz.func15, Tryz.ntmps15
    go_wp2_with fail
    refine H.out.mono ?_
    rintro e w1 ⟨cs, rfl, k1, k2⟩
    obtain ⟨k, s, a1, l1, c1, rfl⟩ := k1.shape
    have hD : Bl (w1.alloc (.cells #[numV k, str s, .slice a1 l1 c1] 105)) w.heap.size #[numV 0, str [], .slice none 0 0] 105 := ((Bl.new w _ _).below k2 (by simp)).alloc _
    have g0 := hD.cell 0
    have g1 := hD.cell 1
    have g2 := hD.cell 2
    have f1 : ∀ o, (w1.alloc (.cells #[numV k, str s, .slice a1 l1 c1] 105)).frozen? ⟨w.heap.size, o, none⟩ = false := hD.free
    have H1 := Lib.hid (And.intro k1 k2)
    clear k1 k2 hD
    go_wp2_with fail
    refine bodyPost_ret (v := .agg #[numV 3, str [], .slice (some ⟨w1.heap.size, 0, none⟩) 1 1]) (by simp [results, Tryz.results15, go_sem, g0, g1, g2]) rfl ?_
    exact it_one H1.out.1 H1.out.2 ((((Fr.refl _ _).set (.inl (by simp)) _).set (.inl (by simp)) _).set (.inl (by simp)) _)

end Go.Proofs.YtobiaaabikfglaaGreatDoor

/-
  Regions that draw their order: a load may be taken first though a store of the region, which waits for it, writes its cell. Of no program.
-/
namespace Go.Proofs.YtobiaaabikfglaaGreatDoor

section
variable {P : Program} {ops : Array Oper} {Q : Exit → Act → World → Prop} {md : Region.Mode} {S : World → Prop} {late : Nat → Bool}

/-- whatever order is picked from here on, and S holds behind every operation that is carried out but the late ones -/
def wpAnyL (P : Program) (md : Region.Mode) (ops : Array Oper) (Q : Exit → Act → World → Prop) (S : World → Prop) (late : Nat → Bool) : Nat → Array Bool → Act → World → Prop
  | 0, listed, a, w => Region.ready md ops listed = [] ∧ Q .normal a w
  | fuel + 1, listed, a, w =>
    (Region.ready md ops listed = [] → Q .normal a w) ∧
    ∀ i ∈ Region.ready md ops listed, wpOp P ops Q i (fun a' w' => (late i = false → S w') ∧ wpAnyL P md ops Q S late fuel (listed.setIfInBounds i true) a' w') a w

theorem wpAny_of_late : ∀ (fuel : Nat) (listed : Array Bool) (a : Act) (w : World), wpAnyL P md ops Q S late fuel listed a w → wpAny P md ops Q fuel listed a w
  | 0, _, _, _, h => h
  | fuel + 1, _, _, _, h => ⟨h.1, fun i hi => wpOp_mono (fun a' w' h' => wpAny_of_late fuel _ a' w' h'.2) (h.2 i hi)⟩

/-- what has come up has come up behind what it waits for -/
def Closed (md : Region.Mode) (ops : Array Oper) (listed : Array Bool) : Prop := ∀ k o, ops[k]? = some o → listed.getD k false = true → ∀ e ∈ o.after, Region.binds md e = true → listed.getD e.on false = true

def closedB (md : Region.Mode) (ops : Array Oper) (listed : Array Bool) : Bool :=
  (List.range ops.size).all fun k => !listed.getD k false || ((ops[k]?).map fun o => o.after.toList.all fun e => !Region.binds md e || listed.getD e.on false).getD true

theorem closed_of {listed : Array Bool} (h : closedB md ops listed = true) : Closed md ops listed := by
  intro k o hk hl e he hb
  have h1 := List.all_eq_true.1 h k (List.mem_range.2 (Array.getElem?_eq_some_iff.1 hk).1)
  rw [hl, hk] at h1
  have h2 : (o.after.toList.all fun e => !Region.binds md e || listed.getD e.on false) = true := by simpa only [Bool.not_true, Bool.false_or, Option.map_some, Option.getD_some] using h1
  have h3 := List.all_eq_true.1 h2 e (by simpa using he)
  simpa only [hb, Bool.not_true, Bool.false_or] using h3

theorem Closed.set {listed : Array Bool} (h : Closed md ops listed) {j : Nat} (hj : j ∈ Region.ready md ops listed) : Closed md ops (listed.setIfInBounds j true) := by
  intro k o hk hl e he hb
  by_cases hjk : j = k
  · subst hjk
    obtain ⟨_, oj, hoj, hall⟩ := mem_ready.1 hj
    rw [hoj] at hk
    injection hk with hk
    subst hk
    exact getD_set_true (hall e he hb)
  · rw [getD_set_ne false hjk] at hl
    exact getD_set_true (h k o hk hl e he hb)

/-- j waits for i, at first hand or not -/
def reach (md : Region.Mode) (ops : Array Oper) (i : Nat) : Nat → Nat → Bool
  | 0, _ => false
  | n + 1, j => ((ops[j]?).map fun o => o.after.toList.any fun e => Region.binds md e && (e.on == i || reach md ops i n e.on)).getD false

theorem reach_listed {i : Nat} {listed : Array Bool} (h : Closed md ops listed) : ∀ n j o, ops[j]? = some o → reach md ops i n j = true → (∀ e ∈ o.after, Region.binds md e = true → listed.getD e.on false = true) → listed.getD i false = true
  | 0, _, _, _, hr, _ => by simp [reach] at hr
  | n + 1, j, o, hj, hr, hall => by
    rw [reach, hj] at hr
    have h2 : (o.after.toList.any fun e => Region.binds md e && (e.on == i || reach md ops i n e.on)) = true := by simpa only [Option.map_some, Option.getD_some] using hr
    obtain ⟨e, he, h3⟩ := List.any_eq_true.1 h2
    simp only [Bool.and_eq_true, Bool.or_eq_true, beq_iff_eq] at h3
    have h4 := hall e (by simpa using he) h3.1
    rcases h3.2 with h5 | h5
    · rw [← h5]; exact h4
    · cases hk : ops[e.on]? with
      | none => cases n <;> simp [reach, hk] at h5
      | some ok => exact reach_listed h n e.on ok hk h5 (h e.on ok hk h4)

/-- every late operation waits for number i -/
def waits (md : Region.Mode) (ops : Array Oper) (late : Nat → Bool) (i : Nat) : Bool :=
  (List.range ops.size).all fun j => !late j || reach md ops i ops.size j

theorem wpAnyL_first {i : Nat} {oi : Oper} {v : Value} (hi : ops[i]? = some oi) (hsel : ∀ (j : Nat) (o : Oper) cs b, ops[j]? = some o → o.op ≠ .select cs b)
    (hl : waits md ops late i = true)
    (hQ : ∀ c a w, Q (.panic c) (a.put oi.dst v) w → Q (.panic c) a w) :
    ∀ (fuel : Nat) (listed : Array Bool) (a : Act) (w : World),
      (∀ j oj, ops[j]? = some oj → j ≠ i → listed.getD j true = false → (∀ e ∈ oj.after, Region.binds md e = true → e.on ≠ i) → oi.apart ops oj = true) →
      i ∈ Region.ready md ops listed → Closed md ops listed → YieldsIf P ops S oi v a → S w →
      wpAnyL P md ops Q S late fuel (listed.setIfInBounds i true) (a.put oi.dst v) w → wpAnyL P md ops Q S late (fuel + 1) listed a w := by
  intro fuel
  induction fuel with
  | zero =>
    intro listed a w _ hr _ hy hS H
    refine ⟨fun h => (by rw [h] at hr; cases hr), fun j hj => ?_⟩
    by_cases hji : j = i
    · subst hji; exact hy.wpOp hi hS ⟨fun _ => hS, H⟩
    · have := ready_mono hj hji
      rw [H.1] at this
      cases this
  | succ fuel ih =>
    intro listed a w hfree hr hcl hy hS H
    refine ⟨fun h => (by rw [h] at hr; cases hr), fun j hj => ?_⟩
    by_cases hji : j = i
    · subst hji; exact hy.wpOp hi hS ⟨fun _ => hS, H⟩
    · have h1 := H.2 j (ready_mono hj hji)
      obtain ⟨hjun, oj, hoj, hall⟩ := mem_ready.1 hj
      have hnot : ∀ e ∈ oj.after, Region.binds md e = true → e.on ≠ i := fun e he hb heq => by
        have h1 := hall e he hb
        have h0 := (mem_ready.1 hr).1
        rw [heq] at h1
        rcases Nat.lt_or_ge i listed.size with h' | h'
        · simp [h'] at h0 h1; rw [h0] at h1; cases h1
        · simp [Array.getElem?_eq_none h'] at h1
      have hnl : late j = false := by
        cases hlj : late j with
        | false => rfl
        | true =>
          have h5 := List.all_eq_true.1 hl j (List.mem_range.2 (Array.getElem?_eq_some_iff.1 hoj).1)
          rw [hlj, Bool.not_true, Bool.false_or] at h5
          have h6 := reach_listed hcl _ j oj hoj h5 hall
          have h0 := (mem_ready.1 hr).1
          rcases Nat.lt_or_ge i listed.size with h' | h'
          · simp [h'] at h0 h6; rw [h0] at h6; cases h6
          · simp [Array.getElem?_eq_none h'] at h6
      have h2 := wpOp_putIf hoj (hfree j oj hoj hji hjun hnot) (fun cs b => hsel i oi cs b hi) (fun cs b => hsel j oj cs b hoj) hQ hy h1
      have hfree' : ∀ k ok, ops[k]? = some ok → k ≠ i → (listed.setIfInBounds j true).getD k true = false →
          (∀ e ∈ ok.after, Region.binds md e = true → e.on ≠ i) → oi.apart ops ok = true := fun k ok hk hki hun hno => by
        refine hfree k ok hk hki ?_ hno
        by_cases hjk : j = k
        · subst hjk; exact hjun
        · rw [getD_set_ne true hjk] at hun; exact hun
      refine wpOp_mono (fun a' w' h3 => ⟨h3.2.1, ih (listed.setIfInBounds j true) a' w' hfree' (ready_mono hr (Ne.symm hji)) (hcl.set hj) h3.1 (h3.2.1 hnl) ?_⟩) h2
      rw [Array.setIfInBounds_comm _ _ hji]
      exact h3.2.2

theorem wpAnyL_take {i : Nat} {oi : Oper} {v : Value} {fuel : Nat} {listed : Array Bool} {a : Act} {w : World} (hi : ops[i]? = some oi)
    (hs : Region.noSelect ops = true) (hw : waits md ops late i = true) (hf : Region.free md ops listed i = true) (hr : (Region.ready md ops listed).contains i = true) (hcl : closedB md ops listed = true)
    (hQ : ∀ c a w, Q (.panic c) (a.put oi.dst v) w → Q (.panic c) a w) (hy : YieldsIf P ops S oi v a) (hS : S w)
    (h : wpAnyL P md ops Q S late fuel (listed.setIfInBounds i true) (a.put oi.dst v) w) : wpAnyL P md ops Q S late (fuel + 1) listed a w :=
  wpAnyL_first hi (Region.noSelect_spec hs) hw hQ fuel listed a w (Region.free_spec hi hf) (by simpa using hr) (closed_of hcl) hy hS h

theorem wpAnyL_all {rs : List Nat} {fuel : Nat} {listed : Array Bool} {a : Act} {w : World} (hr : Region.ready md ops listed = rs) (hne : rs ≠ [])
    (h : ∀ i ∈ rs, wpOp P ops Q i (fun a' w' => (late i = false → S w') ∧ wpAnyL P md ops Q S late fuel (listed.setIfInBounds i true) a' w') a w) : wpAnyL P md ops Q S late (fuel + 1) listed a w :=
  ⟨fun h0 => absurd (hr ▸ h0) hne, hr ▸ h⟩

/-- .. its slot given -/
theorem wpAnyL_get {i d : Nat} {oi : Oper} {v : Value} {fuel : Nat} {listed : Array Bool} {a : Act} {w : World} (hi : ops[i]? = some oi) (hd : oi.dst = some d)
    (hs : Region.noSelect ops = true) (hw : waits md ops late i = true) (hf : Region.free md ops listed i = true) (hr : (Region.ready md ops listed).contains i = true) (hcl : closedB md ops listed = true)
    (hQ : ∀ c a w, Q (.panic c) (a.put (some d) v) w → Q (.panic c) a w) (hg : oi.guard = none) (hy : ∀ w, S w → (execOp a.eval oi).run P w = .ok (.value v) w) (hS : S w)
    (h : wpAnyL P md ops Q S late fuel (listed.setIfInBounds i true) (a.put (some d) v) w) : wpAnyL P md ops Q S late (fuel + 1) listed a w := by
  refine wpAnyL_take hi hs hw hf hr hcl ?_ (.inl ⟨by simp [Region.wanted, hg], hy⟩) hS ?_
  · rw [hd]; exact hQ
  · rw [hd]; exact h

theorem wpAnyL_one {i : Nat} {fuel : Nat} {listed : Array Bool} {a : Act} {w : World} (hr : Region.ready md ops listed = [i])
    (h : wpOp P ops Q i (fun a' w' => (late i = false → S w') ∧ wpAnyL P md ops Q S late fuel (listed.setIfInBounds i true) a' w') a w) : wpAnyL P md ops Q S late (fuel + 1) listed a w :=
  wpAnyL_all hr (by simp) (fun j hj => by simp at hj; subst hj; exact h)

theorem wpAnyL_done {listed : Array Bool} {a : Act} {w : World} (hr : Region.ready md ops listed = []) (h : Q .normal a w) :
    ∀ fuel, wpAnyL P md ops Q S late fuel listed a w
  | 0 => ⟨hr, h⟩
  | _ + 1 => ⟨fun _ => h, by rw [hr]; simp⟩

/-- the beginning -/
theorem wp_region_late {id : Nat} {a : Act} {w : World} (hm : P.follows .mixedOrders = true)
    (h : wpAnyL P .any ops Q S late ops.size (Array.replicate ops.size false) a w.drew) : (Code.region id ops true).wp P Q a w :=
  wp_region_any hm (wpAny_of_late _ _ _ _ h)

/-- one operation comes up: its own step -/
theorem wpOpL {i : Nat} {o : Oper} {a : Act} {w : World} {K : Act → World → Prop} (hi : ops[i]? = some o) (hg : o.guard = none) (h : o.wp P a w K Q) : wpOp P ops Q i K a w := by
  unfold wpOp
  simp only [hi]
  have hw : Region.wanted o (yielded ops a.tmps) = true := by simp [Region.wanted, hg]
  simp only [hw, if_true]
  exact .inl h
/-- .. that leaves a value -/
theorem wpOpL_val {i : Nat} {o : Oper} {v : Value} {a : Act} {w w' : World} {K : Act → World → Prop} (hi : ops[i]? = some o) (hg : o.guard = none) (hr : (execOp a.eval o).run P w = .ok (.value v) w') (h : K (a.put o.dst v) w') : wpOp P ops Q i K a w :=
  wpOpL hi hg (by simp only [Oper.wp, hr, Oper.upon]; exact h)
theorem wpOpL_get {i d : Nat} {o : Oper} {v : Value} {a : Act} {w w' : World} {K : Act → World → Prop} (hi : ops[i]? = some o) (hd : o.dst = some d) (hg : o.guard = none) (hr : (execOp a.eval o).run P w = .ok (.value v) w') (h : K (a.put (some d) v) w') : wpOp P ops Q i K a w :=
  wpOpL_val hi hg hr (by rw [hd]; exact h)
/-- .. that leaves none -/
theorem wpOpL_skip {i : Nat} {o : Oper} {a : Act} {w w' : World} {K : Act → World → Prop} (hi : ops[i]? = some o) (hg : o.guard = none) (hr : (execOp a.eval o).run P w = .ok .skip w') (h : K (a.put o.dst undef) w') : wpOp P ops Q i K a w :=
  wpOpL hi hg (by simp only [Oper.wp, hr, Oper.upon]; exact h)
theorem wpOpL_none {i : Nat} {o : Oper} {a : Act} {w w' : World} {K : Act → World → Prop} (hi : ops[i]? = some o) (hd : o.dst = none) (hg : o.guard = none) (hr : (execOp a.eval o).run P w = .ok .skip w') (h : K a w') : wpOp P ops Q i K a w :=
  wpOpL_skip hi hg hr (by rw [hd]; exact h)
/-- .. a call of a function that returns -/
theorem wpOpL_call {i : Nat} {o : Oper} {f : FuncId} {args : Array Value} {a : Act} {w : World} {K : Act → World → Prop} (hi : ops[i]? = some o) (hg : o.guard = none) (hr : (execOp a.eval o).run P w = .ok (.enter f args) w)
    {R : Ending → World → Prop} (hc : Calls P f args w R) (h : ∀ e w', R e w' → ∃ v, e = .returned v ∧ K (a.put o.dst v) w') : wpOp P ops Q i K a w :=
  wpOpL hi hg (by
    simp only [Oper.wp, hr, Oper.upon]
    refine hc.mono fun e w' he => ?_
    obtain ⟨v, rfl, hk⟩ := h e w' he
    exact hk)
theorem wpOpL_enter {i d : Nat} {o : Oper} {f : FuncId} {args : Array Value} {a : Act} {w : World} {K : Act → World → Prop} (hi : ops[i]? = some o) (hd : o.dst = some d) (hg : o.guard = none) (hr : (execOp a.eval o).run P w = .ok (.enter f args) w)
    {R : Ending → World → Prop} (hc : Calls P f args w R) (h : ∀ e w', R e w' → ∃ v, e = .returned v ∧ K (a.put (some d) v) w') : wpOp P ops Q i K a w :=
  wpOpL_call hi hg hr hc (fun e w' he => by rw [hd]; exact h e w' he)
/-- .. an operation by its own law, its slot given -/
theorem wpOpL_law {i d : Nat} {o : Oper} {a : Act} {w : World} {K : Act → World → Prop} (hi : ops[i]? = some o) (hd : o.dst = some d) (hg : o.guard = none)
    (h : ∀ K' : Act → World → Prop, (∀ v w', K (a.put (some d) v) w' → K' (a.put o.dst v) w') → o.wp P a w K' Q) : wpOp P ops Q i K a w :=
  wpOpL hi hg (h K (fun v w' hk => by rw [hd]; exact hk))
end

end Go.Proofs.YtobiaaabikfglaaGreatDoor
