/-
  query.Parse: the syntax error caught. No conditions but lengths.
-/
import Derived.Test.YtobiaaabikfglaaGreatDoorR19
import Derived.Defers
import Derived.Recover
namespace Go.Proofs.YtobiaaabikfglaaGreatDoor
open Go.RowKit Go.Proofs.YtobiaaabikfglaaGreatDoor.Pq Go.Lib

set_option maxRecDepth 100000 in
theorem errorf_any (m : ByteArray) (w : World) :
    Calls Tryz.prog 33 #[.string m, .slice none 0 0] w fun e w' => e = .returned (ptrV w.heap.size) ∧ w' = w.alloc (.cells #[.nilIface, .string m, .slice none 0 0, .slice none 0 0, str [], .nilIface, .map none] 94) := by
  go_enter Tryz.func33, Tryz.ntmps33
  go_wp2_with fail
  go_ret
  exact ⟨rfl, rfl⟩

theorem DocAt.mono {B B' : Bk} (h : ∀ b cs t, B b cs t → B' b cs t) {p : Doc} {x : Value} (k : DocAt B p x) : DocAt B' p x := by
  obtain ⟨b, so, xo, sf, xf, h1, h2, h3, h4, h5, h6⟩ := k
  exact ⟨b, so, xo, sf, xf, h1, h _ _ _ h2, h3.mono h, OpsAt.mono h _ _ h4, h5.mono h, FragsAt.mono h _ _ h6⟩

def CloRes (r : Res Doc) (ad : Addr) (g : World) (L X : Nat) (ms : List Nat) (w : World) (e : Ending) (w' : World) : Prop :=
  match r with
  | .ok p => e = .returned (.tuple #[]) ∧ ∃ x ms' ts', Bl w' X #[x] 35 ∧ DocAt (Fm w' w.heap.size) p x ∧ LexAt ad g w' L ms' ((0 : Nat) : Int) ts' ∧ Fr (X :: ms) w (X :: ms') w'
  | .err => Errs ad g L ms w e w'
  | .unk => True

set_option maxRecDepth 100000 in
set_option maxHeartbeats 1000000 in
theorem parse_clo (ad : Addr) (g : World) (L X A f : Nat) (ts : List Tok) (ms : List Nat) (v : Value) (w : World) (hf : f ≤ FMax) (h : LexR ad g w L ms ((0 : Nat) : Int) ts) (hgw : g.heap.size ≤ w.heap.size) (hu : pDoc f ts ⟨[], []⟩ ≠ .unk)
    (hA : w.cell? ⟨A, 0, none⟩ = some (.pointer (some ⟨L, 0, none⟩))) (hX : Bl w X #[v] 35) (hXm : X ∉ ms) (hXg : g.heap.size ≤ X) :
    Calls Tryz.prog 23 #[.pointer (some ⟨A, 0, none⟩), .pointer (some ⟨X, 0, none⟩)] w (CloRes (pDoc f ts ⟨[], []⟩) ad g L X ms w) := by
  obtain ⟨r, hr⟩ : ∃ r, pDoc f ts ⟨[], []⟩ = r := ⟨_, rfl⟩
  have hD := doc_any ad g L f ts ms w hf h hgw hu
  rw [hr] at hD hu ⊢
  have H := Lib.hid (And.intro hD (And.intro hX (And.intro hXm (And.intro hXg hu))))
  clear hD hX hXm hXg hu hr h hf hgw
  go_enter Tryz.func23, Tryz.ntmps23
  go_wp2_with fail
  refine H.out.1.mono ?_
  intro e w1 h1
  cases r with
  | unk => exact absurd rfl H.out.2.2.2.2
  | err =>
    obtain ⟨m, ms1, d1, ts1, rfl, k1, k2⟩ := h1
    refine ⟨rfl, ?_⟩
    exact ⟨m, ms1, d1, ts1, rfl, k1, k2⟩
  | ok p =>
    obtain ⟨x, ms1, ts1, rfl, q1, k1, k2⟩ := h1
    obtain ⟨b, rfl⟩ : ∃ b, x = ptrV b := by obtain ⟨b, _, _, _, _, h1, _⟩ := q1; exact ⟨b, h1⟩
    have hX1 := k2.bl H.out.2.1 H.out.2.2.1
    have g0 := hX1.1.cell 0
    have f1 : ∀ o, w1.frozen? ⟨X, o, none⟩ = false := hX1.1.free
    have H1 := Lib.hid (And.intro q1 (And.intro k1 (And.intro k2 hX1)))
    clear q1 k1 k2 hX1
    go_wp2_with fail
    go_end0
    obtain ⟨q1, k1, k2, hX1⟩ := H1.out
    refine ⟨rfl, ptrV b, ms1, ts1, hX1.1.set 0 _, q1.mono (fun b cs t k => From.far b cs t k H.out.2.1.lt), k1.poke hX1.2 H.out.2.2.2.1 _ _, ?_⟩
    exact (k2.cons X).set (.inl (by simp)) _

set_option maxRecDepth 100000 in
/-- the deferred closure of a frame that returns: recover finds nothing -/
theorem catch_idle (p q : Addr) (w : World) :
    CallsD Tryz.prog 32 #[.pointer (some p), .pointer (some q)] .returning w fun e u' w' => e = .returned (.tuple #[]) ∧ u' = .returning ∧ w' = w := by
  refine callsD_of_wpS Tryz.func32 rfl fun c₀ cs hu => ?_
  apply wpS_seq
  apply wpS_region
  simp [wpOpsS, go_sem, recoverD, hu, Tryz.ntmps32, Exit.thenS]
  apply wpS_seq
  apply wpS_region
  simp [wpOpsS, go_sem, Exit.thenS]
  refine wpS_cond (t := false) (by simp [Act.eval, Array.replicate]) ?_
  simp only [Bool.false_eq_true, if_false]
  refine wpS_of_wp (wp_skip ?_)
  cases c₀
  simp_all [bodyPostS, results, Tryz.results32]

end Go.Proofs.YtobiaaabikfglaaGreatDoor
