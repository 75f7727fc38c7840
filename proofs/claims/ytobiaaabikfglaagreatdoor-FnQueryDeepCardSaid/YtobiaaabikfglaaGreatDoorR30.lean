/-
  The syntax error caught. No conditions but lengths.
-/
import Derived.Test.YtobiaaabikfglaaGreatDoorR20
import Derived.Test.YtobiaaabikfglaaGreatDoorR23
import Derived.Deep.RegionHeld3
import Derived.RegionTactic
import Derived.ChangeAlike
namespace Go.Proofs.YtobiaaabikfglaaGreatDoor
open Go.RowKit Go.Proofs.YtobiaaabikfglaaGreatDoor.Pq Go.Lib

theorem rep24 : (Array.replicate 24 undef : Array Value) = #[undef, undef, undef, undef, undef, undef, undef, undef, undef, undef, undef, undef, undef, undef, undef, undef, undef, undef, undef, undef, undef, undef, undef, undef] := by kernel_rfl

/-- the error's own value is behind E -/
def Caught (ad : Addr) (g : World) (L E : Nat) (d : Int) (ts : List Tok) (ms : List Nat) (w w' : World) : Prop :=
  ∃ b o lc, Bl w' E #[ptrV b] 85 ∧ Bl w' b #[.iface 190 o, .string ⟨#[115, 121, 110, 116, 97, 120, 32, 101, 114, 114, 111, 114]⟩, .slice (some ⟨lc, 0, none⟩) 1 1, .slice none 0 0, str [], .nilIface, .map none] 94 ∧
    (∃ l c : Int, Bl w' lc #[numV l, numV c] 47) ∧ LexAt ad g w' L ms d ts ∧ Fr (E :: ms) w (E :: ms) w'

def CatchQ (ad : Addr) (g : World) (L E : Nat) (d : Int) (ts : List Tok) (ms : List Nat) (w : World) (e : Exit) (a' : Act) (w' : World) : Prop :=
  e = .ret ∧ a'.defers = [] ∧ Caught ad g L E d ts ms w w'

set_option maxRecDepth 100000 in
set_option maxHeartbeats 2000000 in
/-- .. of a frame that panics with a syntax error: it turns into an answer -/
theorem catch_panic (ad : Addr) (g : World) (L A E : Nat) (m : ByteArray) (d : Int) (ts : List Tok) (ms : List Nat) (v0 : Value) (w : World) (h : LexAt ad g w L ms d ts) (hA : Bl w A #[.pointer (some ⟨L, 0, none⟩)] 132) (hE : Bl w E #[v0] 85) (hAm : A ∉ ms) (hEm : E ∉ ms) (hEg : g.heap.size ≤ E) :
    CallsD Tryz.prog 32 #[.pointer (some ⟨E, 0, none⟩), .pointer (some ⟨A, 0, none⟩)] (.panicking [{ v := .iface 187 (.string m), recovered := false }]) w fun e u' w' => e = .returned (.tuple #[]) ∧ u' = .panicking [{ v := .iface 187 (.string m), recovered := true }] ∧
      Caught ad g L E d ts ms w w' := by
  refine callsD_of_wpS Tryz.func32 rfl fun c₀ cs hu => ?_
  apply wpS_seq
  apply wpS_region
  simp [wpOpsS, go_sem, recoverD, hu, Tryz.ntmps32, Exit.thenS]
  refine wpS_of_wp ?_
  rw [rep24]
  simp only [List.append_toArray, List.cons_append, List.nil_append, List.setIfInBounds_toArray, List.set_cons_zero, List.set_cons_succ]
  refine Code.wp_mono (Q := CatchQ ad g L E d ts ms w) ?_ ?_
  · rintro e a' w' ⟨rfl, h1, h2⟩
    exact ⟨h1, _, rfl, _, results_none rfl _ _ _, ⟨rfl, rfl, h2⟩⟩
  have hne : ∀ (v : Value) (W : World), (binOp .neq 20 (.iface 187 v) .nilIface).run Tryz.prog W = .ok (.bool true) W := fun _ _ => by kernel_rfl
  have hta : ∀ (v : Value) (W : World), (Instr.typeAssert (.iface 187 v) 20 187 true).run Tryz.prog W = .ok (.tuple #[v, .bool true]) W := fun _ _ => by kernel_rfl
  have H := Lib.hid (And.intro h (And.intro hA (And.intro hE (And.intro hAm hEm))))
  clear h hA hE hu hAm hEm
  go_wp2_with fail
  refine (errorf_any _ _).mono ?_
  rintro e w1 ⟨rfl, hw1⟩
  obtain ⟨B, hB⟩ : ∃ B, B = w.heap.size := ⟨_, rfl⟩
  rw [← hB]
  have hQ : Bl w1 B #[.nilIface, .string ⟨#[115, 121, 110, 116, 97, 120, 32, 101, 114, 114, 111, 114]⟩, .slice none 0 0, .slice none 0 0, str [], .nilIface, .map none] 94 := by rw [hw1, hB]; exact Bl.new _ _ _
  have hE1 : Bl w1 E #[v0] 85 := by rw [hw1]; exact H.out.2.2.1.alloc _
  have hA1 : Bl w1 A #[.pointer (some ⟨L, 0, none⟩)] 132 := by rw [hw1]; exact H.out.2.1.alloc _
  have hF1 : Fr [] w [] w1 := by rw [hw1]; exact (Fr.refl _ _).alloc _
  have hlt : E < B := by rw [hB]; exact H.out.2.2.1.lt
  have hne1 : ¬ E = B := by omega
  have hne2 : ¬ B = E := by omega
  have hmB : ∀ k, k ∈ ms → k < B := by rw [hB]; exact H.out.1.lt
  have hAE : A ≠ E := fun e => by
    have h1 := H.out.2.1
    rw [e] at h1
    exact absurd (h1.eq H.out.2.2.1).2 (by decide)
  have hAB : A < B := by rw [hB]; exact H.out.2.1.lt
  have e0 : w1.cell? ⟨E, 0, none⟩ = some v0 := hE1.cell 0
  have a0 : w1.cell? ⟨A, 0, none⟩ = some (.pointer (some ⟨L, 0, none⟩)) := hA1.cell 0
  have q0 : w1.cell? ⟨B, 0, none⟩ = some .nilIface := hQ.cell 0
  have q2 : w1.cell? ⟨B, 2, none⟩ = some (.slice none 0 0) := hQ.cell 2
  have f1 : ∀ o, w1.frozen? ⟨E, o, none⟩ = false := hE1.free
  have f2 : ∀ o, w1.frozen? ⟨B, o, none⟩ = false := hQ.free
  have hBl : w.heap.size ≤ B := by rw [hB]; exact Nat.le_refl _
  have H1 := Lib.hid (And.intro hQ (And.intro hE1 (And.intro hA1 (And.intro hF1 (And.intro hlt (And.intro hmB (And.intro hAE hAB)))))))
  clear hQ hE1 hA1 hF1 hw1 hB hlt hmB hAE hAB
  go_wp2_with fail
  clear e0 a0 q0 q2 f1 f2 hne1 hne2
  obtain ⟨W, hW⟩ : ∃ W, W = (w1.setCell ⟨E, 0, none⟩ (ptrV B)).setCell ⟨B, 0, none⟩ (.iface 190 (.string ⟨#[103, 114, 97, 112, 104, 113, 108, 32, 115, 121, 110, 116, 97, 120, 32, 101, 114, 114, 111, 114]⟩)) := ⟨_, rfl⟩
  have HX : Hid (B ∉ ms ∧ w.heap.size ≤ B ∧ g.heap.size ≤ B) := Lib.hid ⟨fun h => Nat.lt_irrefl _ (H1.out.2.2.2.2.2.1 _ h), hBl, by have := H.out.1.base; omega⟩
  have HW : Hid (LexAt ad g W L ms d ts ∧ Bl W E #[ptrV B] 85 ∧ Bl W A #[.pointer (some ⟨L, 0, none⟩)] 132 ∧
      Bl W B #[.iface 190 (.string ⟨#[103, 114, 97, 112, 104, 113, 108, 32, 115, 121, 110, 116, 97, 120, 32, 101, 114, 114, 111, 114]⟩), .string ⟨#[115, 121, 110, 116, 97, 120, 32, 101, 114, 114, 111, 114]⟩, .slice none 0 0, .slice none 0 0, str [], .nilIface, .map none] 94 ∧ Fr (E :: ms) w (E :: ms) W) := by
    obtain ⟨hQ, hE1, hA1, hF1, hlt, hmB, hAE, hAB⟩ := H1.out
    have hBm : B ∉ ms := fun h => Nat.lt_irrefl _ (hmB _ h)
    have hBw : w.heap.size ≤ B := hBl
    rw [hW]
    refine Lib.hid ⟨((H.out.1.quiet hF1).poke H.out.2.2.2.2 hEg _ _).poke hBm (by omega) _ _, ?_, ?_, ?_, ?_⟩
    · exact (hE1.set 0 _).far (by simp; omega) _
    · exact (hA1.far (by simp; exact hAE) _).far (by simp; omega) _
    · exact (hQ.far (by simp; omega) _).set 0 _
    · exact ((hF1.wide (by simp)).set (.inl (by simp)) _).set (.inr hBw) _
  rw [← hW]
  clear hW H1
  have s0 : W.drew.cell? ⟨E, 0, none⟩ = some (ptrV B) ∧ W.drew.cell? ⟨A, 0, none⟩ = some (.pointer (some ⟨L, 0, none⟩)) := ⟨HW.out.2.1.cell 0, HW.out.2.2.1.cell 0⟩
  have hB2 : W.drew.cell? ⟨B, 2, none⟩ = some (.slice none 0 0) := HW.out.2.2.2.1.cell 2
  go_region_held3 (fun w' => w'.cell? ⟨E, 0, none⟩ = some (ptrV B) ∧ w'.cell? ⟨A, 0, none⟩ = some (.pointer (some ⟨L, 0, none⟩))) (first | exact s0 | exact s1 | exact s2 | exact s3) ((
    go_at_call 34
    refine (lex_loc ad g L ms d ts _ (HW.out.1.quiet (Fr.refl [] _).drew)).mono ?_
    rintro e w5 ⟨⟨l, c, rfl⟩, hf⟩
    have hf := ((Fr.refl [] W).drew).trans hf
    have bE := (hf.bl HW.out.2.1 (by simp)).1
    have bA := (hf.bl HW.out.2.2.1 (by simp)).1
    have bB := (hf.bl HW.out.2.2.2.1 (by simp)).1
    have s1 : w5.cell? ⟨E, 0, none⟩ = some (ptrV B) ∧ w5.cell? ⟨A, 0, none⟩ = some (.pointer (some ⟨L, 0, none⟩)) := ⟨bE.cell 0, bA.cell 0⟩
    have bE2 := bE.alloc (.cells #[numV l, numV c] 47)
    have bA2 := bA.alloc (.cells #[numV l, numV c] 47)
    have bB2 := bB.alloc (.cells #[numV l, numV c] 47)
    have s2 : (w5.alloc (.cells #[numV l, numV c] 47)).cell? ⟨E, 0, none⟩ = some (ptrV B) ∧ (w5.alloc (.cells #[numV l, numV c] 47)).cell? ⟨A, 0, none⟩ = some (.pointer (some ⟨L, 0, none⟩)) := ⟨bE2.cell 0, bA2.cell 0⟩
    have qB2 : (w5.alloc (.cells #[numV l, numV c] 47)).cell? ⟨B, 2, none⟩ = some (.slice none 0 0) := bB2.cell 2
    have fB2 : ∀ o, (w5.alloc (.cells #[numV l, numV c] 47)).frozen? ⟨B, o, none⟩ = false := bB2.free
    have s3 : ((w5.alloc (.cells #[numV l, numV c] 47)).setCell ⟨B, 2, none⟩ (.slice (some ⟨w5.heap.size, 0, none⟩) 1 1)).cell? ⟨E, 0, none⟩ = some (ptrV B) ∧ ((w5.alloc (.cells #[numV l, numV c] 47)).setCell ⟨B, 2, none⟩ (.slice (some ⟨w5.heap.size, 0, none⟩) 1 1)).cell? ⟨A, 0, none⟩ = some (.pointer (some ⟨L, 0, none⟩)) :=
      ⟨(bE2.far (by simp; exact fun e => absurd ((e ▸ bE2).eq bB2).2 (by decide)) _).cell 0, (bA2.far (by simp; exact fun e => absurd ((e ▸ bA2).eq bB2).2 (by decide)) _).cell 0⟩
    have H5 := Lib.hid (And.intro hf (And.intro bE2 bB2))
    clear bE bA bB bE2 bA2 bB2 hf))
  clear s0 s1 s2 s3 hB2 qB2 fB2
  go_wp2_with fail
  obtain ⟨hf, bE2, bB2⟩ := H5.out
  have hBlt : B < w5.heap.size := Nat.lt_of_lt_of_le HW.out.2.2.2.1.lt hf.kept.size
  have hne : E ≠ B := fun e => by
    rw [e] at bE2
    exact absurd (bE2.eq bB2).2 (by decide)
  obtain ⟨k1, k2, k3, k4, k5⟩ := HW.out
  have k6 := (k1.quiet hf).alloc (.cells #[numV l, numV c] 47)
  refine ⟨rfl, rfl, B, _, w5.heap.size, bE2.far (by simpa using hne) _, bB2.set 2 _, ⟨l, c, (Bl.new w5 _ _).far (by simp; omega) _⟩, k6.poke (fun h => HX.out.1 h) HX.out.2.2 _ _, ?_⟩
  exact ((k5.trans (hf.wide (by simp))).alloc _).set (.inr HX.out.2.1) _

end Go.Proofs.YtobiaaabikfglaaGreatDoor

/-
  query.Parse by a contract. No conditions but lengths.
-/
namespace Go.Proofs.YtobiaaabikfglaaGreatDoor
open Go.RowKit Go.Proofs.YtobiaaabikfglaaGreatDoor.Pq Go.Lib

/-- the error's own value lies at b -/
def FaultAt (w : World) (b : Nat) : Prop := ∃ o lc, Bl w b #[.iface 190 o, .string ⟨#[115, 121, 110, 116, 97, 120, 32, 101, 114, 114, 111, 114]⟩, .slice (some ⟨lc, 0, none⟩) 1 1, .slice none 0 0, str [], .nilIface, .map none] 94 ∧
    (∃ l c : Int, Bl w lc #[numV l, numV c] 47)

def CatRes (r : Res Doc) (X : Nat) (ms : List Nat) (w : World) (e : Ending) (w' : World) : Prop :=
  match r with
  | .ok p => e = .returned (.pointer none) ∧ ∃ x ms', Bl w' X #[x] 35 ∧ DocAt (Fm w' w.heap.size) p x ∧ Fr (X :: ms) w (X :: ms') w'
  | .err => ∃ b ms', e = .returned (ptrV b) ∧ FaultAt w' b ∧ Fr (X :: ms) w (X :: ms') w'
  | .unk => True

set_option maxRecDepth 100000 in
set_option maxHeartbeats 2000000 in
theorem catch_any (ad : Addr) (g : World) (L X A f : Nat) (ts : List Tok) (ms : List Nat) (v : Value) (w : World) (hf : f ≤ FMax) (h : LexR ad g w L ms ((0 : Nat) : Int) ts) (hgw : g.heap.size ≤ w.heap.size) (hu : pDoc f ts ⟨[], []⟩ ≠ .unk)
    (hA : Bl w A #[.pointer (some ⟨L, 0, none⟩)] 132) (hX : Bl w X #[v] 35) (hXm : X ∉ ms) (hXg : g.heap.size ≤ X) :
    Calls Tryz.prog 22 #[.pointer (some ⟨L, 0, none⟩), .func (.func 23) #[] #[.pointer (some ⟨A, 0, none⟩), .pointer (some ⟨X, 0, none⟩)]] w (CatRes (pDoc f ts ⟨[], []⟩) X ms w) := by
  have hmf : ∀ (fn : Fn) (first cap : Array Value) (w : World), (Instr.makeFunc fn first cap).run Tryz.prog w = .ok (.func fn first cap) w := fun _ _ _ _ => rfl
  obtain ⟨r, hr⟩ : ∃ r, pDoc f ts ⟨[], []⟩ = r := ⟨_, rfl⟩
  obtain ⟨W, hW⟩ : ∃ W, W = (w.alloc (.cells #[.pointer (some ⟨L, 0, none⟩)] 132)).alloc (.cells #[.pointer none] 85) := ⟨_, rfl⟩
  have hFW : Fr [] w [] W := by rw [hW]; exact ((Fr.refl _ _).alloc _).alloc _
  have hC := parse_clo ad g L X A f ts ms v W hf (h.quiet hFW) (Nat.le_trans hgw hFW.kept.size) hu ((hFW.bl hA (by simp)).1.cell 0) (hFW.bl hX (by simp)).1 hXm hXg
  have hbA : Bl W w.heap.size #[.pointer (some ⟨L, 0, none⟩)] 132 := by rw [hW]; exact (Bl.new w _ _).alloc _
  have hbE : Bl W (w.heap.size + 1) #[.pointer none] 85 := by
    rw [hW]
    have := Bl.new (w.alloc (.cells #[.pointer (some ⟨L, 0, none⟩)] 132)) #[.pointer none] 85
    simpa using this
  rw [hr] at hC hu ⊢
  have H := Lib.hid (And.intro hC (And.intro hFW (And.intro hbA (And.intro hbE (And.intro hu (And.intro h.lt (And.intro hX hgw)))))))
  clear hC hFW hbA hbE hu hr h hf hA hX hgw
  go_enter_defers Tryz.func22, Tryz.ntmps22
  go_wp2_with fail
  rw [← hW]
  clear hW
  refine H.out.1.mono ?_
  intro e w1 h1
  cases r with
  | unk => exact absurd rfl H.out.2.2.2.2.1
  | err =>
    obtain ⟨m, ms1, d1, ts1, rfl, k1, k2⟩ := h1
    have hA1 := k2.bl H.out.2.2.1 (fun hk => Nat.lt_irrefl _ (H.out.2.2.2.2.2.1 _ hk))
    have hE1 := k2.bl H.out.2.2.2.1 (fun hk => by have := H.out.2.2.2.2.2.1 _ hk; omega)
    refine leaves_cons (f := 32) (args := #[.pointer (some ⟨w.heap.size + 1, 0, none⟩), .pointer (some ⟨w.heap.size, 0, none⟩)]) (by simp) (by simp [go_sem]) ?_
    refine (catch_panic ad g L w.heap.size (w.heap.size + 1) m d1 ts1 ms1 _ w1 k1 hA1.1 hE1.1 hA1.2 hE1.2 (by have := H.out.2.2.2.2.2.2.2; omega)).mono ?_
    rintro e u' w2 ⟨rfl, rfl, b, o, lc, c1, c2, c3, c4, c5⟩
    have g0 := c1.cell 0
    have hres : (results Tryz.f22 #[.pointer (some ⟨L, 0, none⟩), .func (.func 23) #[] #[.pointer (some ⟨A, 0, none⟩), .pointer (some ⟨X, 0, none⟩)], .pointer (some ⟨w.heap.size, 0, none⟩), undef, .pointer (some ⟨w.heap.size + 1, 0, none⟩),
        .func (.func 32) #[] #[.pointer (some ⟨w.heap.size + 1, 0, none⟩), .pointer (some ⟨w.heap.size, 0, none⟩)], .func (.func 23) #[] #[.pointer (some ⟨A, 0, none⟩), .pointer (some ⟨X, 0, none⟩)], undef]).run Tryz.prog w2 = .ok (ptrV b) w2 := by
      simp [results, Tryz.results22, go_sem, g0]
    refine ⟨_, hres, ?_⟩
    have hF1 : Fr (X :: ms) w (X :: ms1) w1 := (H.out.2.1.wide (by simp)).trans (k2.cons X)
    have hF2 : Fr (X :: ms) w ((w.heap.size + 1) :: ms1) w1 := ⟨hF1.kept, fun k hk => by
      simp at hk
      rcases hk with rfl | hk
      · exact .inr (by omega)
      · exact hF1.new k (by simp [hk])⟩
    exact ⟨b, ms1, rfl, ⟨o, lc, c2, c3⟩, (hF2.trans c5).kept, hF1.new⟩
  | ok p =>
    obtain ⟨rfl, x, ms1, ts1, hX1, q1, k1, k2⟩ := h1
    have hA1 := k2.bl H.out.2.2.1 (fun hk => by simp at hk; rcases hk with hk | hk; exact absurd hk (Nat.ne_of_gt H.out.2.2.2.2.2.2.1.lt); exact Nat.lt_irrefl _ (H.out.2.2.2.2.2.1 _ hk))
    have hE1 := k2.bl H.out.2.2.2.1 (fun hk => by simp at hk; rcases hk with hk | hk; (have := H.out.2.2.2.2.2.2.1.lt; omega); have := H.out.2.2.2.2.2.1 _ hk; omega)
    have H1 := Lib.hid (And.intro hX1 (And.intro q1 (And.intro k2 hE1)))
    clear hX1 q1 k1 k2 hA1 hE1
    go_wp2_with fail
    refine leaves_cons (f := 32) (args := #[.pointer (some ⟨w.heap.size + 1, 0, none⟩), .pointer (some ⟨w.heap.size, 0, none⟩)]) (by simp) (by simp [go_sem]) ?_
    refine (catch_idle ⟨w.heap.size + 1, 0, none⟩ ⟨w.heap.size, 0, none⟩ _).mono ?_
    rintro e u' w'' ⟨rfl, rfl, rfl⟩
    have g0 : w''.cell? ⟨w.heap.size + 1, 0, none⟩ = some (.pointer none) := H1.out.2.2.2.1.cell 0
    refine ⟨.pointer none, by simp [results, Tryz.results22, go_sem, g0], rfl, x, ms1, H1.out.1, H1.out.2.1.mono (fun b cs t k => Fm.up H.out.2.1.kept.size b cs t k), ?_⟩
    exact (H.out.2.1.wide (by simp)).trans H1.out.2.2.1

/-- what query.Parse hands back -/
def ParRes (r : Res Doc) (w : World) (e : Ending) (w' : World) : Prop :=
  match r with
  | .ok p => ∃ x, e = .returned (.tuple #[x, .pointer none]) ∧ DocAt (Fm w' w.heap.size) p x ∧ Below w.heap.size w w'
  | .err => ∃ b, e = .returned (.tuple #[.pointer none, ptrV b]) ∧ FaultAt w' b ∧ Below w.heap.size w w'
  | .unk => True

set_option maxRecDepth 100000 in
set_option maxHeartbeats 2000000 in
theorem parse_any (ad : Addr) (g : World) (s : ByteArray) (f : Nat) (ts : List Tok) (w : World) (hf : f ≤ FMax) (hs : s.size ≤ 2147483647) (hno : (92 : UInt8) ∉ toL s) (hG : Gd ad g w []) (hT : Toks1 (toL s) ts) (hA : AllAsc (toL s)) (hu : pDoc f ts ⟨[], []⟩ ≠ .unk) :
    Calls Tryz.prog 13 #[.string s] w (ParRes (pDoc f ts ⟨[], []⟩) w) := by
  have hmf : ∀ (fn : Fn) (first cap : Array Value) (w : World), (Instr.makeFunc fn first cap).run Tryz.prog w = .ok (.func fn first cap) w := fun _ _ _ _ => rfl
  have hN := newLexer ad g s ts w hs hno hG hT hA
  have H := Lib.hid (And.intro hN (And.intro hf (And.intro hu hG)))
  clear hN hf hu hG hT hA hs hno
  go_enter Tryz.func13, Tryz.ntmps13
  go_wp2_with fail
  refine H.out.1.mono ?_
  rintro e w1 ⟨L, ms, rfl, k1, k2⟩
  have hq1 : ∀ (b : Nat) (W : World), (binOp .neq 85 (ptrV b) (.pointer none)).run Tryz.prog W = .ok (.bool true) W := fun _ _ => by kernel_rfl
  obtain ⟨W, hW⟩ : ∃ W, W = (w1.alloc (.cells #[.pointer (some ⟨L, 0, none⟩)] 132)).alloc (.cells #[.pointer none] 35) := ⟨_, rfl⟩
  have hFW : Fr [] w1 [] W := by rw [hW]; exact ((Fr.refl _ _).alloc _).alloc _
  have hbA : Bl W w1.heap.size #[.pointer (some ⟨L, 0, none⟩)] 132 := by rw [hW]; exact (Bl.new w1 _ _).alloc _
  have hbX : Bl W (w1.heap.size + 1) #[.pointer none] 35 := by
    rw [hW]
    have := Bl.new (w1.alloc (.cells #[.pointer (some ⟨L, 0, none⟩)] 132)) #[.pointer none] 35
    simpa using this
  have hg1 : g.heap.size ≤ w1.heap.size := Nat.le_trans H.out.2.2.2.below.size k2.kept.size
  have hlt := k1.lt
  have hC := catch_any ad g L (w1.heap.size + 1) w1.heap.size f ts ms _ W H.out.2.1 (k1.quiet hFW) (Nat.le_trans hg1 hFW.kept.size) H.out.2.2.1 hbA hbX (fun hk => by have := hlt _ hk; omega) (by omega)
  obtain ⟨r, hr⟩ : ∃ r, pDoc f ts ⟨[], []⟩ = r := ⟨_, rfl⟩
  have hu := H.out.2.2.1
  rw [hr] at hC hu
  have HR := Lib.hid hr
  have hms : ∀ k, k ∈ ms → w.heap.size ≤ k := fun k hk => by rcases k2.new k hk with h | h; simp at h; exact h
  have hbW : Below w.heap.size w W := (k2.to_below (Nat.le_refl _) (by simp)).trans (hFW.to_below k2.kept.size (by simp))
  have H1 := Lib.hid (And.intro hC (And.intro hms (And.intro hbW (And.intro k2.kept.size hu))))
  clear hC hr hms hbA hbX hg1 hlt k1 k2 hbW hu
  go_wp2_with fail
  rw [← hW]
  clear hW
  refine H1.out.1.mono ?_
  intro e w2 h1
  cases r with
  | unk => exact absurd rfl H1.out.2.2.2.2
  | err =>
    obtain ⟨b, ms', rfl, c1, c2⟩ := h1
    have H2 := Lib.hid (And.intro c1 c2)
    clear c1 c2
    go_wp2_with fail
    go_ret2
    show ParRes _ _ _ _
    rw [HR.out]
    exact ⟨b, rfl, H2.out.1, H1.out.2.2.1.trans (H2.out.2.to_below H1.out.2.2.1.size (fun k hk => by simp at hk; rcases hk with rfl | hk; (have := H1.out.2.2.2.1; omega); exact H1.out.2.1 k hk))⟩
  | ok p =>
    obtain ⟨rfl, x, ms', c1, c2, c3⟩ := h1
    obtain ⟨b, rfl⟩ : ∃ b, x = ptrV b := by obtain ⟨b, _, _, _, _, h1, _⟩ := c2; exact ⟨b, h1⟩
    have g0 := c1.cell 0
    have H2 := Lib.hid (And.intro c2 c3)
    clear c1 c2 c3
    go_wp2_with fail
    go_ret2
    show ParRes _ _ _ _
    rw [HR.out]
    exact ⟨ptrV b, rfl, H2.out.1.mono (fun b cs t k => Fm.up H1.out.2.2.1.size b cs t k), H1.out.2.2.1.trans (H2.out.2.to_below H1.out.2.2.1.size (fun k hk => by simp at hk; rcases hk with rfl | hk; (have := H1.out.2.2.2.1; omega); exact H1.out.2.1 k hk))⟩

end Go.Proofs.YtobiaaabikfglaaGreatDoor

/-
  impl.parsed by a contract. No conditions but lengths.
-/
namespace Go.Proofs.YtobiaaabikfglaaGreatDoor
open Go.RowKit Go.Proofs.YtobiaaabikfglaaGreatDoor.Pq Go.Lib

set_option maxRecDepth 100000 in
theorem place_any (l c : Int) (w : World) : Calls Tryz.prog 14 #[.agg #[numV l, numV c]] w fun e w' => e = .returned (.agg #[numV l, numV c]) ∧ Below w.heap.size w w' := by
  go_enter Tryz.func14, Tryz.ntmps14
  go_wp2_with fail
  refine bodyPost_ret (v := .agg #[numV l, numV c]) (by simp [results, Tryz.results14, go_sem]) rfl ⟨rfl, ?_⟩
  exact ((Below.refl _ _).alloc (Nat.le_refl _) _).alloc (by simp) _

set_option maxRecDepth 100000 in
/-- the deferred closure of a frame that returns: recover finds nothing -/
theorem prsd_idle (p q r : Addr) (w : World) :
    CallsD Tryz.prog 12 #[.pointer (some p), .pointer (some q), .pointer (some r)] .returning w fun e u' w' => e = .returned (.tuple #[]) ∧ u' = .returning ∧ w' = w := by
  refine callsD_of_wpS Tryz.func12 rfl fun c₀ cs hu => ?_
  apply wpS_seq
  apply wpS_region
  simp [wpOpsS, go_sem, recoverD, hu, Tryz.ntmps12, Exit.thenS]
  refine wpS_cond (t := false) (by simp [Act.eval, Array.replicate]) ?_
  simp only [Bool.false_eq_true, if_false]
  refine wpS_of_wp (wp_skip ?_)
  cases c₀
  simp_all [bodyPostS, results, Tryz.results12]

def PrsRes (r : Res Doc) (w : World) (e : Ending) (w' : World) : Prop :=
  match r with
  | .ok p => ∃ x, e = .returned (.tuple #[x, .agg #[numV 0, numV 0], .bool true]) ∧ DocAt (Fm w' w.heap.size) p x ∧ Below w.heap.size w w'
  | .err => ∃ l c, e = .returned (.tuple #[.pointer none, .agg #[numV l, numV c], .bool false]) ∧ Below w.heap.size w w'
  | .unk => True

set_option maxRecDepth 100000 in
set_option maxHeartbeats 2000000 in
theorem parsed_any (s : ByteArray) (r : Res Doc) (w : World) (hp : ∀ W, Below w.heap.size w W → Calls Tryz.prog 13 #[.string s] W (ParRes r W)) (hu : r ≠ .unk) :
    Calls Tryz.prog 7 #[.string s] w (PrsRes r w) := by
  have hmf : ∀ (fn : Fn) (first cap : Array Value) (w : World), (Instr.makeFunc fn first cap).run Tryz.prog w = .ok (.func fn first cap) w := fun _ _ _ _ => rfl
  have hq1 : ∀ (b : Nat) (W : World), (binOp .neq 85 (ptrV b) (.pointer none)).run Tryz.prog W = .ok (.bool true) W := fun _ _ => by kernel_rfl
  obtain ⟨W, hW⟩ : ∃ W, W = ((w.alloc (.cells #[.pointer none] 35)).alloc (.cells #[numV 0, numV 0] 29)).alloc (.cells #[.bool false] 4) := ⟨_, rfl⟩
  have hbW : Below w.heap.size w W := by rw [hW]; exact (((Below.refl _ _).alloc (Nat.le_refl _) _).alloc (by simp) _).alloc (by simp <;> omega) _
  have hb0 : Bl W w.heap.size #[.pointer none] 35 := by rw [hW]; exact ((Bl.new w _ _).alloc _).alloc _
  have hb1 : Bl W (w.heap.size + 1) #[numV 0, numV 0] 29 := by
    rw [hW]
    have := (Bl.new (w.alloc (.cells #[.pointer none] 35)) #[numV 0, numV 0] 29).alloc (.cells #[.bool false] 4)
    simpa using this
  have hb2 : Bl W (w.heap.size + 2) #[.bool false] 4 := by
    rw [hW]
    have := Bl.new ((w.alloc (.cells #[.pointer none] 35)).alloc (.cells #[numV 0, numV 0] 29)) #[.bool false] 4
    simpa using this
  have H := Lib.hid (And.intro (hp W hbW) (And.intro hbW (And.intro hb0 (And.intro hb1 (And.intro hb2 hu)))))
  clear hbW hb0 hb1 hb2 hp hu
  go_enter_defers Tryz.func7, Tryz.ntmps7
  go_wp2_with fail
  rw [← hW]
  clear hW
  refine H.out.1.mono ?_
  intro e w2 h1
  cases r with
  | unk => exact absurd rfl H.out.2.2.2.2.2
  | err =>
    obtain ⟨b, rfl, ⟨o, lc, c1, l, c, c2⟩, c3⟩ := h1
    have b0 := H.out.2.2.1.below c3 H.out.2.2.1.lt
    have b1 := H.out.2.2.2.1.below c3 H.out.2.2.2.1.lt
    have b2 := H.out.2.2.2.2.1.below c3 H.out.2.2.2.2.1.lt
    have e0 : w2.cell? ⟨w.heap.size, 0, none⟩ = some (.pointer none) := b0.cell 0
    have f0 : ∀ o, w2.frozen? ⟨w.heap.size, o, none⟩ = false := b0.free
    have q2 : w2.cell? ⟨b, 2, none⟩ = some (.slice (some ⟨lc, 0, none⟩) 1 1) := c1.cell 2
    have l0 : w2.cell? ⟨lc, 0, none⟩ = some (numV l) := c2.cell 0
    have l1 : w2.cell? ⟨lc, 1, none⟩ = some (numV c) := c2.cell 1
    have hn1 : ¬ w.heap.size = b := fun e => by rw [← e] at c1; exact absurd (c1.eq b0).2 (by decide)
    have hn2 : ¬ w.heap.size = lc := fun e => by rw [← e] at c2; exact absurd (c2.eq b0).2 (by decide)
    have H2 := Lib.hid (And.intro b0 (And.intro b1 (And.intro b2 c3)))
    clear b0 b1 b2 c1 c2 c3
    go_wp2_with fail
    clear hq1
    refine (place_any l c _).mono ?_
    rintro e w3 ⟨rfl, hb3⟩
    obtain ⟨b0, b1, b2, c3⟩ := H2.out
    have hb3 : Below w2.heap.size (w2.setCell ⟨w.heap.size, 0, none⟩ (.pointer none)) w3 := hb3.mono (by simp [World.setCell])
    have hlt := H.out.2.2.2.2.1.lt
    have hle := c3.size
    have d0 : Bl w3 w.heap.size #[.pointer none] 35 := (b0.set 0 (.pointer none)).below hb3 (by omega)
    have d1 : Bl w3 (w.heap.size + 1) #[numV 0, numV 0] 29 := (b1.far (by simp) _).below hb3 (by omega)
    have d2 : Bl w3 (w.heap.size + 2) #[.bool false] 4 := (b2.far (by simp <;> omega) _).below hb3 (by omega)
    have hB : Below w.heap.size w w3 := ((H.out.2.1.trans (c3.mono H.out.2.1.size)).setCell (by simp) _).trans (hb3.mono (by omega))
    have e1 : w3.cell? ⟨w.heap.size + 1, 0, none⟩ = some (numV 0) := d1.cell 0
    have e2 : w3.cell? ⟨w.heap.size + 1, 1, none⟩ = some (numV 0) := d1.cell 1
    have f1 : ∀ o, w3.frozen? ⟨w.heap.size + 1, o, none⟩ = false := d1.free
    have H3 := Lib.hid (And.intro d0 (And.intro d1 (And.intro d2 hB)))
    clear b0 b1 b2 c3 hb3 hlt hle d0 d1 d2 hB e0 f0 q2 l0 l1 hn1 hn2
    go_wp2_with fail
    clear e1 e2 f1
    obtain ⟨W6, hW6⟩ : ∃ W6, W6 = (w3.setCell ⟨w.heap.size + 1, 0, none⟩ (numV l)).setCell ⟨w.heap.size + 1, 1, none⟩ (numV c) := ⟨_, rfl⟩
    have H6 : Hid (Bl W6 w.heap.size #[.pointer none] 35 ∧ Bl W6 (w.heap.size + 1) #[numV l, numV c] 29 ∧ Bl W6 (w.heap.size + 2) #[.bool false] 4 ∧ Below w.heap.size w W6) := by
      obtain ⟨d0, d1, d2, hB⟩ := H3.out
      rw [hW6]
      exact Lib.hid ⟨(d0.far (by simp) _).far (by simp) _, (d1.set 0 _).set 1 _, (d2.far (by simp) _).far (by simp) _, (hB.setCell (by simp) _).setCell (by simp) _⟩
    rw [← hW6]
    clear hW6
    have e0 : W6.drew.cell? ⟨w.heap.size, 0, none⟩ = some (.pointer none) := H6.out.1.cell 0
    have f0 : ∀ o, W6.drew.frozen? ⟨w.heap.size, o, none⟩ = false := H6.out.1.free
    have s0 : W6.drew.cell? ⟨w.heap.size + 1, 0, none⟩ = some (numV l) ∧ W6.drew.cell? ⟨w.heap.size + 1, 1, none⟩ = some (numV c) := ⟨H6.out.2.1.cell 0, H6.out.2.1.cell 1⟩
    refine wp_region_noPanic ?_
    refine wp_region_late (S := fun W => W.cell? ⟨w.heap.size + 1, 0, none⟩ = some (numV l) ∧ W.cell? ⟨w.heap.size + 1, 1, none⟩ = some (numV c)) (late := fun i => decide (2 ≤ i)) (by kernel_rfl) ?_
    refine wpAnyL_get (i := 0) (d := 27) (v := .agg #[numV l, numV c]) rfl rfl (by kernel_rfl) (by kernel_rfl) (by kernel_rfl) (by kernel_rfl) (by kernel_rfl) (fun _ _ _ h => h) rfl (fun w hS => by (try dsimp only at hS); go_simp) s0 ?_
    simp only [Act.put, List.setIfInBounds_toArray, List.set_cons_zero, List.set_cons_succ]
    obtain ⟨V1, hV1⟩ : ∃ V1, V1 = W6.drew.setCell ⟨w.heap.size, 0, none⟩ (.pointer none) := ⟨_, rfl⟩
    have p1 : Bl V1 (w.heap.size + 1) #[numV l, numV c] 29 := by rw [hV1]; exact Bl.far (w := W6.drew) H6.out.2.1 (by simp) _
    refine wpAnyL_one (i := 1) (by kernel_rfl) (wpOpL_none rfl rfl rfl (w' := V1) (by rw [hV1]; simp [execOp, go_sem, Act.eval, e0, f0]) ⟨fun _ => ⟨p1.cell 0, p1.cell 1⟩, ?_⟩)
    have q1 : V1.cell? ⟨w.heap.size + 1, 0, none⟩ = some (numV l) := p1.cell 0
    have q2 : V1.cell? ⟨w.heap.size + 1, 1, none⟩ = some (numV c) := p1.cell 1
    have f1 : ∀ o, V1.frozen? ⟨w.heap.size + 1, o, none⟩ = false := p1.free
    obtain ⟨V2, hV2⟩ : ∃ V2, V2 = (V1.setCell ⟨w.heap.size + 1, 0, none⟩ (numV l)).setCell ⟨w.heap.size + 1, 1, none⟩ (numV c) := ⟨_, rfl⟩
    refine wpAnyL_one (i := 2) (by kernel_rfl) (wpOpL_none rfl rfl rfl (w' := V2) (by rw [hV2]; simp [execOp, go_sem, Act.eval, q1, q2, f1]) ⟨(fun h => by cases h), ?_⟩)
    have p2 : Bl V2 (w.heap.size + 2) #[.bool false] 4 := by rw [hV2, hV1]; exact ((Bl.far (w := W6.drew) H6.out.2.2.1 (by simp <;> omega) _).far (by simp) _).far (by simp) _
    have e3 : V2.cell? ⟨w.heap.size + 1 + 1, 0, none⟩ = some (.bool false) := p2.cell 0
    have f3 : ∀ o, V2.frozen? ⟨w.heap.size + 1 + 1, o, none⟩ = false := p2.free
    obtain ⟨V3, hV3⟩ : ∃ V3, V3 = V2.setCell ⟨w.heap.size + 1 + 1, 0, none⟩ (.bool false) := ⟨_, rfl⟩
    refine wpAnyL_one (i := 3) (by kernel_rfl) (wpOpL_none rfl rfl rfl (w' := V3) (by rw [hV3]; simp [execOp, go_sem, Act.eval, e3, f3]) ⟨(fun h => by cases h), ?_⟩)
    refine wpAnyL_done (by kernel_rfl) ?_ _
    refine NoPanic.normal ?_
    have z0 : Bl V3 w.heap.size #[.pointer none] 35 := by
      rw [hV3, hV2, hV1]
      exact ((((Bl.set (w := W6.drew) H6.out.1 0 (.pointer none)).far (by simp) _).far (by simp) _).far (by simp <;> omega) _)
    have z1 : Bl V3 (w.heap.size + 1) #[numV l, numV c] 29 := by
      rw [hV3, hV2]
      exact ((p1.set 0 _).set 1 _).far (by simp) _
    have z2 : Bl V3 (w.heap.size + 2) #[.bool false] 4 := by rw [hV3]; exact p2.set 0 _
    have zF : Fr [w.heap.size, w.heap.size + 1, w.heap.size + 2] W6 [w.heap.size, w.heap.size + 1, w.heap.size + 2] V3 := by
      rw [hV3, hV2, hV1]
      exact (((((Fr.refl _ _).drew).set (.inl (by simp)) _).set (.inl (by simp)) _).set (.inl (by simp)) _).set (.inl (by simp)) _
    have zB : Below w.heap.size w V3 := H6.out.2.2.2.trans (zF.to_below H6.out.2.2.2.size (by simp))
    clear e0 f0 s0 hV1 p1 q1 q2 f1 hV2 p2 e3 f3 hV3
    go_wp2_with fail
    have g0 : V3.cell? ⟨w.heap.size, 0, none⟩ = some (.pointer none) := z0.cell 0
    have g1 : V3.cell? ⟨w.heap.size + 1, 0, none⟩ = some (numV l) := z1.cell 0
    have g2 : V3.cell? ⟨w.heap.size + 1, 1, none⟩ = some (numV c) := z1.cell 1
    have g3 : V3.cell? ⟨w.heap.size + 1 + 1, 0, none⟩ = some (.bool false) := z2.cell 0
    refine leaves_cons (f := 12) (args := #[.pointer (some ⟨w.heap.size, 0, none⟩), .pointer (some ⟨w.heap.size + 1, 0, none⟩), .pointer (some ⟨w.heap.size + 1 + 1, 0, none⟩)]) (by simp) (by simp [go_sem]) ?_
    refine (prsd_idle _ _ _ _).mono ?_
    rintro e u' w'' ⟨rfl, rfl, rfl⟩
    exact ⟨.tuple #[.pointer none, .agg #[numV l, numV c], .bool false], by simp [results, Tryz.results7, go_sem, g0, g1, g2, g3], l, c, rfl, zB⟩
  | ok p =>
    obtain ⟨x, rfl, c1, c3⟩ := h1
    obtain ⟨b, rfl⟩ : ∃ b, x = ptrV b := by obtain ⟨b, _, _, _, _, h1, _⟩ := c1; exact ⟨b, h1⟩
    have b0 := H.out.2.2.1.below c3 H.out.2.2.1.lt
    have b1 := H.out.2.2.2.1.below c3 H.out.2.2.2.1.lt
    have b2 := H.out.2.2.2.2.1.below c3 H.out.2.2.2.2.1.lt
    have e0 : w2.cell? ⟨w.heap.size, 0, none⟩ = some (.pointer none) := b0.cell 0
    have e1 : w2.cell? ⟨w.heap.size + 1, 0, none⟩ = some (numV 0) := b1.cell 0
    have e2 : w2.cell? ⟨w.heap.size + 1, 1, none⟩ = some (numV 0) := b1.cell 1
    have e3 : w2.cell? ⟨w.heap.size + 2, 0, none⟩ = some (.bool false) := b2.cell 0
    have f0 : ∀ o, w2.frozen? ⟨w.heap.size, o, none⟩ = false := b0.free
    have f1 : ∀ o, w2.frozen? ⟨w.heap.size + 1, o, none⟩ = false := b1.free
    have f2 : ∀ o, w2.frozen? ⟨w.heap.size + 2, o, none⟩ = false := b2.free
    have H2 := Lib.hid (And.intro b0 (And.intro b1 (And.intro b2 (And.intro c1 c3))))
    clear c1 c3 b0 b1 b2
    go_wp2_with fail
    obtain ⟨b0, b1, b2, c1, c3⟩ := H2.out
    clear e0 e1 e2 e3 f0 f1 f2
    obtain ⟨W5, hW5⟩ : ∃ W5, W5 = (((((w2.setCell ⟨w.heap.size, 0, none⟩ (ptrV b)).setCell ⟨w.heap.size, 0, none⟩ (ptrV b)).setCell ⟨w.heap.size + 1, 0, none⟩ (numV 0)).setCell ⟨w.heap.size + 1, 1, none⟩ (numV 0)).setCell ⟨w.heap.size + 1 + 1, 0, none⟩ (.bool true)) := ⟨_, rfl⟩
    rw [← hW5]
    have hF : Fr [w.heap.size, w.heap.size + 1, w.heap.size + 2] w2 [w.heap.size, w.heap.size + 1, w.heap.size + 2] W5 := by
      rw [hW5]
      exact (((((Fr.refl _ _).set (.inl (by simp)) _).set (.inl (by simp)) _).set (.inl (by simp)) _).set (.inl (by simp)) _).set (.inl (by simp)) _
    have d0 : Bl W5 w.heap.size #[ptrV b] 35 := by rw [hW5]; exact ((((b0.set 0 _).set 0 _).far (by simp) _).far (by simp) _).far (by simp <;> omega) _
    have d1 : Bl W5 (w.heap.size + 1) #[numV 0, numV 0] 29 := by rw [hW5]; exact ((((b1.far (by simp) _).far (by simp) _).set 0 _).set 1 _).far (by simp) _
    have d2 : Bl W5 (w.heap.size + 2) #[.bool true] 4 := by rw [hW5]; exact ((((b2.far (by simp <;> omega) _).far (by simp <;> omega) _).far (by simp) _).far (by simp) _).set 0 _
    have g0 : W5.cell? ⟨w.heap.size, 0, none⟩ = some (ptrV b) := d0.cell 0
    have g1 : W5.cell? ⟨w.heap.size + 1, 0, none⟩ = some (numV 0) := d1.cell 0
    have g2 : W5.cell? ⟨w.heap.size + 1, 1, none⟩ = some (numV 0) := d1.cell 1
    have g3 : W5.cell? ⟨w.heap.size + 1 + 1, 0, none⟩ = some (.bool true) := d2.cell 0
    refine leaves_cons (f := 12) (args := #[.pointer (some ⟨w.heap.size, 0, none⟩), .pointer (some ⟨w.heap.size + 1, 0, none⟩), .pointer (some ⟨w.heap.size + 1 + 1, 0, none⟩)]) (by simp) (by simp [go_sem]) ?_
    refine (prsd_idle _ _ _ _).mono ?_
    rintro e u' w'' ⟨rfl, rfl, rfl⟩
    have hz := H.out.2.1.size
    refine ⟨.tuple #[ptrV b, .agg #[numV 0, numV 0], .bool true], by simp [results, Tryz.results7, go_sem, g0, g1, g2, g3], ptrV b, rfl, c1.mono (fun b' cs t k => ?_), (H.out.2.1.trans (c3.mono hz)).trans (hF.to_below (Nat.le_trans hz c3.size) (by simp))⟩
    exact ⟨(hF.bl k.1 (by have := k.2.2.1; have := H.out.2.2.2.2.1.lt; simp; omega)).1, k.2.1, Nat.le_trans hz k.2.2.1, by simp⟩

end Go.Proofs.YtobiaaabikfglaaGreatDoor
