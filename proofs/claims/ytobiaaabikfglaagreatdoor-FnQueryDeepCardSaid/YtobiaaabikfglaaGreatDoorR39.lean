/-
  ParseQuery on any text whose tokens are known; the law's own question as plain data. No conditions but lengths.
-/
import Derived.Test.YtobiaaabikfglaaGreatDoorR32
import Derived.Test.YtobiaaabikfglaaGreatDoorR38
import Derived.Test.YtobiaaabikfglaaGreatDoorR37
import Derived.Test.YtobiaaabikfglaaGreatDoorR23
namespace Go.Proofs.YtobiaaabikfglaaGreatDoor
open Go.RowKit Go.Proofs.YtobiaaabikfglaaGreatDoor.Pq Go.Lib

theorem query_any (ad : Addr) (g : World) (s : ByteArray) (f : Nat) (ts : List Tok) (w : World) (hf : f + 1 ≤ FMax) (hs : s.size ≤ 2147483647) (hno : (92 : UInt8) ∉ toL s) (hG : Gd ad g w []) (hT : Toks1 (toL s) ts) (hA : AllAsc (toL s)) (hu : pDoc f ts ⟨[], []⟩ ≠ .unk) :
    Calls Tryz.prog 5 #[.string s] w (PqRes (pDoc f ts ⟨[], []⟩) w) :=
  pq_any s _ w (fun W hb => parsed_any s _ W (fun W2 hb2 => parse_any ad g s f ts W2 (by omega) hs hno ⟨hG.gl, hG.below.trans ((hb.trans (hb2.mono hb.size)).mono hG.below.size), by simp⟩ hT hA hu) hu) hu (fun _ hp => doc_small hf hp)

def askText : Bs := [123, 97, 40, 120, 58, 49, 41, 125]
def askToks : List Tok := [P 123, I [97], P 40, I [120], P 58, N1, P 41, P 125]
def askD : Doc := ⟨[⟨1, [], [], [], [.field [97] [97] [([120], .prim (-3) [49], [])] [] []]⟩], []⟩
def askI : IDoc := ⟨[⟨1, [], [], [], [], [.mk 1 [97] [97] [] [([120], .mk 2 [49] [] [], [])] [] []]⟩], []⟩

theorem ask_toks : Toks1 askText askToks :=
  toks_one (toks_head _ _ (Toks.one _ _ (Stop.of 41 _ (by decide) (by decide) (by decide)) toks_end)) rfl
theorem ask_reads : pDoc 20 askToks ⟨[], []⟩ = .ok askD := by rfl
theorem ask_impl : cDoc askD = askI := by rfl

theorem ask_query (ad : Addr) (g w : World) (hG : Gd ad g w []) : Calls Tryz.prog 5 #[.string ⟨#[123, 97, 40, 120, 58, 49, 41, 125]⟩] w fun e w' =>
    ∃ cs : List Value, e = .returned (.tuple #[.agg cs.toArray, .agg #[numV 0, numV 0], .bool true]) ∧ IdocAt (CN w' w.heap.size none) askI cs ∧ Below w.heap.size w w' := by
  have h := query_any ad g ⟨#[123, 97, 40, 120, 58, 49, 41, 125]⟩ 20 askToks w (by unfold FMax; omega) (by decide) (good_no (by decide)) hG ask_toks (good_asc (by decide)) (by rw [ask_reads]; simp)
  rw [ask_reads] at h
  rw [← ask_impl]
  exact h

end Go.Proofs.YtobiaaabikfglaaGreatDoor

/-
  The law's own question: asks by a contract. No conditions but the laid variables.
-/
namespace Go.Proofs.YtobiaaabikfglaaGreatDoor
open Go.RowKit Go.Proofs.YtobiaaabikfglaaGreatDoor.Pq Go.Lib

theorem IdocAt.shape {C : Ck} {d : IDoc} {cs : List Value} (h : IdocAt C d cs) : ∃ (a b : Option Addr) (n c m e : Nat), cs = [.slice a n c, .slice b m e] := by
  obtain ⟨so, xo, sf, xf, rfl, ⟨a, c, rfl, _⟩, _, ⟨b, e, rfl, _⟩, _⟩ := h
  exact ⟨a, b, _, c, _, e, rfl⟩

theorem row_one {V : World} {b size : Nat} {cs : Array Value} {t : TypeId} (h : Bl V b cs t) (hs : cs.size = size) : RowAt (Cw V) size (.slice (some ⟨b, 0, none⟩) 1 1) 1 cs.toList :=
  ⟨_, 1, rfl, Nat.le_refl _, by decide, by simpa using hs, .inr ⟨b, 0, rfl, fun j u hj => ⟨h.lt, by rw [h.cell, Nat.zero_add]; simpa using hj⟩⟩⟩

/-- the literal of the law -/
def litA (w : World) : World := w.alloc (.cells #[str [120], numV 2, str [49], .slice none 0 0, .slice none 0 0, .slice none 0 0] 81)
def litB (w : World) : World := (litA w).alloc (.cells #[numV 1, str [97], str [97], str [], .slice (some ⟨w.heap.size, 0, none⟩) 1 1, .slice none 0 0, .slice none 0 0] 84)
def litW (w : World) : World := (litB w).alloc (.cells #[numV 1, str [], str [], .slice none 0 0, .slice none 0 0, .slice (some ⟨w.heap.size + 1, 0, none⟩) 1 1] 65)

theorem ask_lit (w : World) : Below w.heap.size w (litW w) ∧ IdocAt (Cw (litW w)) askI [.slice (some ⟨w.heap.size + 1 + 1, 0, none⟩) 1 1, .slice none 0 0] := by
  have hz : ∀ (w : World) (o : Obj), (w.alloc o).heap.size = w.heap.size + 1 := fun w o => by simp
  have hA : (litA w).heap.size = w.heap.size + 1 := hz _ _
  have hB : (litB w).heap.size = w.heap.size + 1 + 1 := by rw [← hA]; exact hz _ _
  have b0 : Bl (litW w) w.heap.size _ _ := ((Bl.new w _ _).alloc _).alloc _
  have b1 : Bl (litW w) (litA w).heap.size _ _ := (Bl.new (litA w) _ _).alloc _
  have b2 : Bl (litW w) (litB w).heap.size _ _ := Bl.new (litB w) _ _
  rw [hA] at b1
  rw [hB] at b2
  refine ⟨(((Below.refl _ _).alloc (Nat.le_refl _) _ : Below _ w (litA w)).alloc (by rw [hz]; omega) _ : Below _ w (litB w)).alloc (by rw [hz, hz]; omega) _, ?_⟩
  have n0 : ∀ size, RowAt (Cw (litW w)) size (.slice none 0 0) 0 [] := fun size => RowAt.nil size
  have v0 : IvAt (Cw (litW w)) (.mk 2 [49] [] []) [numV 2, str [49], .slice none 0 0, .slice none 0 0] := ⟨_, _, _, rfl, n0 4, rfl, n0 1⟩
  have s0 : IsAt (Cw (litW w)) (.mk 1 [97] [97] [] [([120], .mk 2 [49] [] [], [])] [] []) [numV 1, str [97], str [97], str [], .slice (some ⟨w.heap.size, 0, none⟩) 1 1, .slice none 0 0, .slice none 0 0] :=
    ⟨_, _, _, _, _, _, rfl, row_one b0 rfl, ⟨_, _, _, _, rfl, v0, n0 2, rfl, rfl⟩, n0 2, rfl, n0 7, rfl⟩
  have o0 : IoAt (Cw (litW w)) ⟨1, [], [], [], [], [.mk 1 [97] [97] [] [([120], .mk 2 [49] [] [], [])] [] []]⟩ [numV 1, str [], str [], .slice none 0 0, .slice none 0 0, .slice (some ⟨w.heap.size + 1, 0, none⟩) 1 1] :=
    ⟨_, _, _, rfl, ⟨_, n0 11, rfl⟩, ⟨_, n0 2, rfl⟩, ⟨_, row_one b1 rfl, ⟨_, _, rfl, s0, rfl⟩⟩⟩
  exact ⟨_, _, _, _, rfl, row_one b2 rfl, ⟨_, _, rfl, o0, rfl⟩, n0 5, rfl⟩

set_option maxRecDepth 100000 in
set_option maxHeartbeats 8000000 in
theorem asks_any (ad : Addr) (g w : World) (hG : Gd ad g w []) : Calls Tryz.prog 6 #[] w fun e w' => e = .returned (.bool true) ∧ Below w.heap.size w w' := by
  have HG := Lib.hid hG
  clear hG
  go_enter Tryz.func6, Tryz.ntmps6
  go_upto_region 1 with (fail)
  go_cut [1, 3] (fun x z wx => ∃ (D : Nat) (a b : Option Addr) (n c m e : Nat), x = .pointer (some ⟨D, 0, none⟩) ∧ z = .bool true ∧ Below w.heap.size w wx ∧ Bl wx D #[.slice a n c, .slice b m e] 27 ∧ IdocAt (Cw wx) askI [.slice a n c, .slice b m e])
  case first =>
    go_wp2_with fail
    go_at_call 5
    refine (ask_query ad g w HG.out).mono ?_
    rintro e w1 ⟨cs, rfl, hd, hb⟩
    obtain ⟨a, b, n, c, m, e, rfl⟩ := hd.shape
    have H1 := Lib.hid (And.intro hd hb)
    clear hd hb
    go_wp2_with fail
    go_meet
    have hz : ∀ o : Obj, (w1.alloc o).heap.size = w1.heap.size + 1 := fun o => by simp
    have hb2 : Below w1.heap.size w1 ((w1.alloc (Obj.cells #[Value.slice a n c, Value.slice b m e] 27)).alloc (Obj.cells #[numV 0, numV 0] 29)) := ((Below.refl _ _).alloc (Nat.le_refl _) _).alloc (by rw [hz]; omega) _
    exact ⟨_, a, b, n, c, m, e, rfl, rfl, H1.out.2.trans (hb2.mono H1.out.2.size), (Bl.new w1 _ _).alloc _, IdocAt.mono (fun b i u h => Cw.below hb2 b i u (CN.cw b i u h)) H1.out.1⟩
  case rest =>
    obtain ⟨D, a, b, n, c, m, e, rfl, rfl, hb, bD, hd⟩ := hcut
    have x0 := bD.cell 0
    have x1 := bD.cell 1
    have H := Lib.hid (And.intro hb hd)
    clear hb hd bD
    go_wp2_with fail
    have hl := ask_lit wc
    refine (sameDoc_any askI _ _ (litW wc) (IdocAt.mono (Cw.below hl.1) H.out.2) hl.2).mono ?_
    rintro e w2 ⟨rfl, hb2⟩
    have hb3 : Below w.heap.size w w2 := H.out.1.trans ((hl.1.trans (hb2.mono hl.1.size)).mono H.out.1.size)
    clear hb2 hl
    go_wp2_with fail
    go_ret
    exact ⟨rfl, hb3⟩

end Go.Proofs.YtobiaaabikfglaaGreatDoor
