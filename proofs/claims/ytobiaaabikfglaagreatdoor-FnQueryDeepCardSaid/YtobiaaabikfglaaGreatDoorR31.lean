/-
  The loops of ParseQuery: lists that grow behind a variable's field. No conditions.
-/
import Derived.Test.YtobiaaabikfglaaGreatDoorR29
import Derived.Test.YtobiaaabikfglaaGreatDoorR30
namespace Go.Proofs.YtobiaaabikfglaaGreatDoor
open Go.RowKit Go.Proofs.YtobiaaabikfglaaGreatDoor.Pq Go.Lib

structure DRel {α β : Type} (Src : Bk → List α → List Value → Prop) (Els : Ck → List β → List Value → Prop) (conv : α → β) (Q : α → Prop) (t : TypeId) (size : Nat) (R : Ck → Prop) (cells : Value → Array Value) (w w0 : World) (n : Nat) (src : List Value) (out : List β)
    (k : Nat) (i : Value) (wr : World) (j : Nat) (rest : List α) (acc : List β) (v : Value) (xs : List Value) : Prop where
  idx : i = .int .i64 j
  sum : j + k = n
  src : Src (Fm w0 (w.heap.size + 2)) rest (src.drop j)
  len : rest.length = k
  mem : ∀ u, u ∈ rest → Q u
  done : out = acc ++ rest.map conv
  accl : acc.length = j
  le0 : w.heap.size + 2 ≤ w0.heap.size
  row : GrowsN wr w0.heap.size t size v acc.length xs
  el : Els (CN wr w0.heap.size v.ownBlock) acc xs
  keep : ∀ b cs t, Fm w0 (w.heap.size + 2) b cs t → Bl wr b cs t
  below : Below w.heap.size w wr
  box : Bl wr w.heap.size (cells v) 27
  place : ∃ p q : Int, Bl wr (w.heap.size + 1) #[numV p, numV q] 29
  ext : R (CN wr w0.heap.size v.ownBlock)

section
variable {α β : Type} {Src : Bk → List α → List Value → Prop} {Els : Ck → List β → List Value → Prop} {conv : α → β} {Q : α → Prop} {t : TypeId} {size : Nat} {R : Ck → Prop} {cells : Value → Array Value} {w w0 : World} {n : Nat} {src : List Value} {out : List β}

/-- the world within a round -/
structure DIn (cells : Value → Array Value) (w w0 wr W : World) (v : Value) : Prop where
  belowr : Below wr.heap.size wr W
  keep : ∀ b cs t, Fm w0 (w.heap.size + 2) b cs t → Bl W b cs t
  box : Bl W w.heap.size (cells v) 27

theorem DRel.in_ {k j : Nat} {i : Value} {wr W : World} {rest : List α} {acc : List β} {v : Value} {xs : List Value} (h : DRel Src Els conv Q t size R cells w w0 n src out k i wr j rest acc v xs) (hb : Below wr.heap.size wr W) : DIn cells w w0 wr W v :=
  ⟨hb, fun b cs t k => Bl.later hb _ _ _ (h.keep b cs t k), h.box.below hb h.box.lt⟩

/-- behind the append -/
theorem DRel.in4 {k j : Nat} {i : Value} {wr w3 w4 : World} {rest : List α} {acc : List β} {v v' : Value} {xs cs ys : List Value} {m : Nat} (h : DRel Src Els conv Q t size R cells w w0 n src out k i wr j rest acc v xs)
    (h2 : Below wr.heap.size wr w3) (ha : Appd (w3.alloc (.cells cs.toArray t)) w4 w0.heap.size t size v v' m ys) : Bl w4 w.heap.size (cells v) 27 ∧ ∀ b cs t, Fm w0 (w.heap.size + 2) b cs t → Bl w4 b cs t := by
  have hle := h.le0
  exact ⟨((h.box.below h2 h.box.lt).alloc _).grown ha.grown (fun e => by have := ha.old _ e.symm; omega), fun b cs t k => (((Bl.later h2 _ _ _ (h.keep b cs t k)).alloc _).grown ha.grown (fun e => by have := ha.old _ e.symm; have := k.1.lt; omega))⟩

theorem DRel.step {k j : Nat} {wr w3 w4 : World} {a : α} {rest' : List α} {acc : List β} {v v' : Value} {xs cs : List Value} {i0 : Nat}
    (h : DRel Src Els conv Q t size R cells w w0 n src out (k + 1) (.int .i64 j) wr j (a :: rest') acc v xs) (hn : Src (Fm w0 (w.heap.size + 2)) rest' (src.drop (j + 1)) ∧ rest'.length = k ∧ ∀ u, u ∈ rest' → Q u)
    (h2 : Below wr.heap.size wr w3) (ha : Appd (w3.alloc (.cells cs.toArray t)) w4 w0.heap.size t size v v' (acc.length + 1) (xs ++ cs))
    (he : Els (CN w4 w0.heap.size v'.ownBlock) (acc ++ [conv a]) (xs ++ cs)) (hm : ∀ C C', (∀ b i v, C b i v → C' b i v) → ∀ l xs, Els C l xs → Els C' l xs) (hR : ∀ C C', (∀ b i v, C b i v → C' b i v) → R C → R C')
    (hcells : (cells v).setIfInBounds i0 v' = cells v') :
    DRel Src Els conv Q t size R cells w w0 n src out k (.int .i64 ((j + 1 : Nat) : Int)) (w4.setCell ⟨w.heap.size, i0, none⟩ v') (j + 1) rest' (acc ++ [conv a]) v' (xs ++ cs) := by
  have hc := conv_next h.row h2 (.cells cs.toArray t)
  have hz := h.below.size
  have z2 := h2.size
  have hle := h.le0
  have hF : Fr [w.heap.size] w4 [w.heap.size] (w4.setCell ⟨w.heap.size, i0, none⟩ v') := (Fr.refl _ _).set (.inl (by simp)) _
  have hb4 : Below w.heap.size w w4 := below_grown ((h.below.trans (h2.mono hz)).alloc (by omega) _) ha.grown (fun k hk => by have := ha.old k hk; omega)
  have h4 := h.in4 h2 ha
  refine ⟨rfl, by have := h.sum; omega, hn.1, hn.2.1, hn.2.2, by rw [h.done]; simp, by simp [h.accl], hle, ?_, hm _ _ (CN.fr hF (by omega)) _ _ he, fun b cs t k => (h4.2 b cs t k).far (by have := k.2.2.1; simp; omega) _, hb4.trans (hF.to_below hb4.size (by simp)), ?_, ?_, ?_⟩
  · have := ha.row.keep (w' := w4.setCell ⟨w.heap.size, i0, none⟩ v') (fun b cs hb k => (hF.bl k (by have := (ha.row.lt b hb).2; simp; omega)).1) hF.kept.size
    simpa using this
  · rw [← hcells]; exact h4.1.set i0 v'
  · obtain ⟨p, q, hp⟩ := h.place
    exact ⟨p, q, (((hp.below h2 hp.lt).alloc _).grown ha.grown (fun e => by have := ha.old _ e.symm; omega)).far (by simp) _⟩
  · exact hR _ _ (fun b i u k => CN.fr hF (by omega) b i u (ha.cn b i u (hc.old b i u k))) h.ext

theorem DRel.next {k j : Nat} {i : Value} {wr : World} {rest : List α} {acc : List β} {v : Value} {xs : List Value} (h : DRel Src Els conv Q t size R cells w w0 n src out (k + 1) i wr j rest acc v xs)
    (hs : ∀ B (a : α) l ys, Src B (a :: l) ys → ∃ y zs, ys = y :: zs ∧ Src B [a] [y] ∧ Src B l zs) :
    ∃ a rest' y, rest = a :: rest' ∧ src[j]? = some y ∧ Src (Fm w0 (w.heap.size + 2)) [a] [y] ∧ Src (Fm w0 (w.heap.size + 2)) rest' (src.drop (j + 1)) ∧ rest'.length = k ∧ Q a ∧ ∀ u, u ∈ rest' → Q u := by
  have h2 := h.len
  have h1 := h.src
  cases rest with
  | nil => simp at h2
  | cons a rest' =>
    obtain ⟨y, zs, e, h3, h4⟩ := hs _ _ _ _ h1
    refine ⟨a, rest', y, rfl, ?_, h3, ?_, by simpa using h2, h.mem _ (by simp), fun u hu => h.mem u (by simp [hu])⟩
    · have : (src.drop j)[0]? = some y := by rw [e]; rfl
      simpa using this
    · have : src.drop (j + 1) = zs := by rw [← List.drop_drop, e]; rfl
      rw [this]; exact h4
end

theorem SlAt.readB {B : Bk} {t : TypeId} {sl : Value} {xs : List Value} (h : SlAt B t sl xs) : ∃ a cap, sl = .slice a xs.length cap ∧ xs.length ≤ cap ∧ cap ≤ maxLen ∧ ∀ (k : Nat) (y : Value), xs[k]? = some y → ∃ T cs t, a = some ⟨T, 0, none⟩ ∧ B T cs t ∧ cs[k]? = some y := by
  rcases h with ⟨h1, h2⟩ | ⟨T, cs, cap, h1, h2, h3, h4, h5⟩
  · subst h2
    exact ⟨none, 0, h1, Nat.le_refl _, Nat.zero_le _, fun k y hk => by simp at hk⟩
  · refine ⟨_, cap, h1, h3, h4, fun k y hk => ⟨T, cs, t, rfl, h2, ?_⟩⟩
    rw [← h5, List.getElem?_take] at hk
    split at hk
    · simpa using hk
    · cases hk

theorem OpsAt.cons {B : Bk} {a : Pq.Op} {l : List Pq.Op} {ys : List Value} (h : OpsAt B (a :: l) ys) : ∃ y zs, ys = y :: zs ∧ OpsAt B [a] [y] ∧ OpsAt B l zs := by
  obtain ⟨y, zs, h1, h2, h3⟩ := h
  exact ⟨y, zs, h1, ⟨y, [], rfl, h2, rfl⟩, h3⟩
theorem FragsAt.cons {B : Bk} {a : Frag} {l : List Frag} {ys : List Value} (h : FragsAt B (a :: l) ys) : ∃ y zs, ys = y :: zs ∧ FragsAt B [a] [y] ∧ FragsAt B l zs := by
  obtain ⟨y, zs, h1, h2, h3⟩ := h
  exact ⟨y, zs, h1, ⟨y, [], rfl, h2, rfl⟩, h3⟩
theorem OpsAt.len {B : Bk} : ∀ (vs : List Pq.Op) (xs : List Value), OpsAt B vs xs → xs.length = vs.length
  | [], xs => fun h => by
    have h : xs = [] := h
    subst h; rfl
  | v :: vs, xs => fun ⟨y, ys, h1, _, h3⟩ => by rw [h1]; simp [OpsAt.len vs ys h3]
theorem FragsAt.len {B : Bk} : ∀ (vs : List Frag) (xs : List Value), FragsAt B vs xs → xs.length = vs.length
  | [], xs => fun h => by
    have h : xs = [] := h
    subst h; rfl
  | v :: vs, xs => fun ⟨y, ys, h1, _, h3⟩ => by rw [h1]; simp [FragsAt.len vs ys h3]

end Go.Proofs.YtobiaaabikfglaaGreatDoor
