/-
  Plain laws on lists of bytes: what a block string says (the program's road and the reference's road), without Go and memory. No conditions.
-/
namespace Go.Proofs.Ytbcfalhdjmidjaa.Blk

abbrev Bs := List UInt8

def isBk (c : UInt8) : Bool := c == 32 || c == 9
/-- how many blanks and tabs a line begins with -/
def mgn : Bs → Nat
  | [] => 0
  | c :: r => if isBk c then mgn r + 1 else 0
def allBk (l : Bs) : Bool := l.all isBk

theorem margin_le (l : Bs) : mgn l ≤ l.length := by
  induction l with
  | nil => simp [mgn]
  | cons c r ih => simp only [mgn]; split <;> simp <;> omega

theorem margin_eq_iff (l : Bs) : (mgn l = l.length) ↔ allBk l = true := by
  induction l with
  | nil => simp [mgn, allBk]
  | cons c r ih =>
    have := margin_le r
    simp only [mgn, allBk, List.all_cons, List.length_cons] at *
    cases hb : isBk c <;> simp [← ih]

theorem margin_cons_blank (l : Bs) : mgn (32 :: l) = mgn l + 1 := by simp [mgn, isBk]

theorem margin_take (l : Bs) (k : Nat) (hk : k ≤ mgn l) : (l.take k).all isBk = true := by
  induction l generalizing k with
  | nil => simp
  | cons c r ih =>
    cases k with
    | zero => simp
    | succ k =>
      simp only [mgn] at hk
      split at hk
      · rename_i h; simp [h]; have := ih k (by omega); simpa using this
      · omega

theorem margin_of_stop (l : Bs) (k : Nat) (hk : (l.take k).all isBk = true) (h : ∀ c, l[k]? = some c → isBk c = false) (hle : k ≤ l.length) : mgn l = k := by
  induction l generalizing k with
  | nil => simp at hle; simp [mgn, hle]
  | cons c r ih =>
    cases k with
    | zero => have := h c (by simp); simp [mgn, this]
    | succ k =>
      simp only [List.take_succ_cons, List.all_cons, Bool.and_eq_true] at hk
      have := ih k hk.2 (fun c hc => h c (by simpa using hc)) (by simpa using hle)
      simp [mgn, hk.1, this]

/-- the lines of a text -/
def splitNL : Bs → List Bs
  | [] => [[]]
  | c :: r => if c = 10 then [] :: splitNL r else match splitNL r with | [] => [[c]] | x :: xs => (c :: x) :: xs

theorem splitNL_ne (l : Bs) : splitNL l ≠ [] := by
  cases l with
  | nil => simp [splitNL]
  | cons c r => simp only [splitNL]; split; simp; split <;> simp

theorem splitNL_none (l : Bs) (h : ∀ c ∈ l, c ≠ 10) : splitNL l = [l] := by
  induction l with
  | nil => rfl
  | cons c r ih =>
    have h1 := h c (by simp)
    have h2 := ih (fun c hc => h c (by simp [hc]))
    simp [splitNL, h1, h2]

theorem splitNL_app (p r : Bs) (h : ∀ c ∈ p, c ≠ 10) : splitNL (p ++ 10 :: r) = p :: splitNL r := by
  induction p with
  | nil => simp [splitNL]
  | cons c p ih =>
    have h1 := h c (by simp)
    have h2 := ih (fun c hc => h c (by simp [hc]))
    simp [splitNL, h1, h2]

/-- one byte more at the end -/
def addLast (ls : List Bs) (c : UInt8) : List Bs := if c = 10 then ls ++ [[]] else ls.dropLast ++ [ls.getLastD [] ++ [c]]

theorem splitNL_snoc (l : Bs) (c : UInt8) : splitNL (l ++ [c]) = addLast (splitNL l) c := by
  induction l with
  | nil => by_cases h : c = 10 <;> simp [splitNL, addLast, h]
  | cons a r ih =>
    have hne := splitNL_ne r
    simp only [List.cons_append, splitNL, ih]
    by_cases ha : a = 10
    · simp only [ha, if_true]
      by_cases h : c = 10
      · simp [addLast, h]
      · simp only [addLast, h, if_false]
        cases hr : splitNL r with
        | nil => exact absurd hr hne
        | cons x xs => simp [List.dropLast, List.getLastD]
    · simp only [ha, if_false]
      cases hr : splitNL r with
      | nil => exact absurd hr hne
      | cons x xs =>
        by_cases h : c = 10
        · simp [addLast, h]
        · simp only [addLast, h, if_false]
          cases xs with
          | nil => simp
          | cons y ys => simp [List.dropLast, List.getLastD]

theorem splitNL_length_le (l : Bs) : (splitNL l).length ≤ l.length + 1 := by
  induction l with
  | nil => simp [splitNL]
  | cons c r ih =>
    simp only [splitNL]
    split
    · simp; omega
    · split <;> simp_all <;> omega

theorem splitNL_mem_le (l x : Bs) (h : x ∈ splitNL l) : x.length ≤ l.length := by
  induction l generalizing x with
  | nil => simp [splitNL] at h; simp [h]
  | cons c r ih =>
    simp only [splitNL] at h
    split at h
    · simp at h; rcases h with rfl | h
      · simp
      · have := ih x h; simp; omega
    · split at h
      · simp at h; simp [h]
      · rename_i y ys hy
        simp at h; rcases h with rfl | h
        · have := ih y (by simp [hy]); simp; omega
        · have := ih x (by simp [hy, h]); simp; omega

/-- the least mgn of the lines that are not of blanks alone -/
def least : List Bs → Option Nat
  | [] => none
  | l :: r => if allBk l then least r else match least r with | none => some (mgn l) | some m => some (min (mgn l) m)

def lessO (o : Option Nat) (m : Nat) : Option Nat := match o with | none => some m | some k => some (min k m)

theorem least_snoc (ls : List Bs) (l : Bs) : least (ls ++ [l]) = if allBk l then least ls else lessO (least ls) (mgn l) := by
  induction ls with
  | nil => simp [least, lessO]; try rfl
  | cons a r ih =>
    simp only [List.cons_append, least, ih]
    cases allBk a <;> cases allBk l <;> cases least r <;> simp [lessO]
    all_goals omega

def indent (ls : List Bs) : Nat := (least ls).getD 0

/-- the lines behind the first one without their common mgn -/
def cutAll (n : Nat) : List Bs → List Bs
  | [] => []
  | l :: r => l :: r.map (·.drop n)

def dropFront : List Bs → List Bs
  | [] => []
  | l :: r => if allBk l then dropFront r else l :: r

def dropBack (ls : List Bs) : List Bs := (dropFront ls.reverse).reverse

theorem dropBack_snoc (ls : List Bs) (l : Bs) : dropBack (ls ++ [l]) = if allBk l then dropBack ls else ls ++ [l] := by
  simp only [dropBack, List.reverse_append, List.reverse_cons, List.reverse_nil, List.nil_append, List.singleton_append, dropFront]
  split <;> simp

def joinNL : List Bs → Bs
  | [] => []
  | [l] => l
  | l :: m :: r => l ++ 10 :: joinNL (m :: r)

theorem joinNL_snoc (ls : List Bs) (l : Bs) : joinNL (ls ++ [l]) = match ls with | [] => l | _ => joinNL ls ++ 10 :: l := by
  induction ls with
  | nil => rfl
  | cons a r ih =>
    cases r with
    | nil => simp [joinNL]
    | cons b r => simp only [List.cons_append] at *; simp only [joinNL, ih]; simp

/-- what a block string says, by the text between its quotes -/
def says (raw : Bs) : Bs := joinNL (dropBack (dropFront (cutAll (indent (splitNL raw).tail) (splitNL raw))))

theorem dropFront_sub (ls : List Bs) : ∃ p, ls = p ++ dropFront ls := by
  induction ls with
  | nil => exact ⟨[], rfl⟩
  | cons a r ih =>
    obtain ⟨p, hp⟩ := ih
    simp only [dropFront]
    split
    · exact ⟨a :: p, by simp [← hp]⟩
    · exact ⟨[], rfl⟩

theorem sum_joinNL (ls : List Bs) : (joinNL ls).length + 1 ≤ (ls.map List.length).sum + ls.length ∨ ls = [] := by
  induction ls with
  | nil => exact .inr rfl
  | cons a r ih =>
    left
    cases r with
    | nil => simp [joinNL]
    | cons b r =>
      have := ih.resolve_right (by simp)
      simp only [joinNL, List.length_append, List.length_cons, List.map_cons, List.sum_cons] at *
      omega

theorem splitNL_sum (l : Bs) : ((splitNL l).map List.length).sum + (splitNL l).length = l.length + 1 := by
  induction l with
  | nil => simp [splitNL]
  | cons c r ih =>
    simp only [splitNL]
    split
    · simp; omega
    · split
      · rename_i h; exact absurd h (splitNL_ne r)
      · rename_i x xs h; rw [h] at ih; simp at *; omega

/- a text moved by one isBk -/
def nlJoin (first : Bs) : List Bs → Bs
  | [] => first
  | l :: r => nlJoin (first ++ 10 :: l) r

theorem nlJoin_split (ls : List Bs) (hl : ∀ l ∈ ls, ∀ c ∈ l, c ≠ 10) (done : List Bs) (acc : Bs) (h : ∀ r, splitNL (acc ++ 10 :: r) = done ++ splitNL r) (h0 : splitNL acc = done) :
    splitNL (nlJoin acc ls) = done ++ ls := by
  induction ls generalizing done acc with
  | nil => simp [nlJoin, h0]
  | cons l r ih =>
    simp only [nlJoin]
    have hl0 := hl l (by simp)
    rw [ih (fun x hx => hl x (by simp [hx])) (done ++ [l]) (acc ++ 10 :: l)]
    · simp
    · intro r; rw [List.append_assoc, List.cons_append, h, splitNL_app l r hl0]; simp
    · rw [h, splitNL_none l hl0]

theorem splitNL_nlJoin (first : Bs) (ls : List Bs) (hf : ∀ c ∈ first, c ≠ 10) (hl : ∀ l ∈ ls, ∀ c ∈ l, c ≠ 10) : splitNL (nlJoin first ls) = first :: ls := by
  have := nlJoin_split ls hl [first] first (fun r => by rw [splitNL_app first r hf]; rfl) (splitNL_none first hf)
  simpa using this

theorem least_moved (ls : List Bs) (h : ∀ l ∈ ls, allBk l = false) : least (ls.map (32 :: ·)) = (least ls).map (· + 1) := by
  induction ls with
  | nil => rfl
  | cons a r ih =>
    have ha := h a (by simp)
    have hr := ih (fun l hl => h l (by simp [hl]))
    have hb : allBk (32 :: a) = false := by simp [allBk] at *; exact fun _ => ha
    simp only [List.map_cons, least, ha, hb, hr, margin_cons_blank]
    cases least r <;> simp

theorem least_some (ls : List Bs) (h : ∀ l ∈ ls, allBk l = false) (hne : ls ≠ []) : ∃ m, least ls = some m := by
  cases ls with
  | nil => exact absurd rfl hne
  | cons a r => simp only [least, h a (by simp)]; cases least r <;> simp

theorem says_moved (first : Bs) (ls : List Bs) (hf : ∀ c ∈ first, c ≠ 10) (hl : ∀ l ∈ ls, ∀ c ∈ l, c ≠ 10) (hb : ∀ l ∈ ls, allBk l = false) (hne : ls ≠ []) :
    says (nlJoin first ls) = says (nlJoin first (ls.map (32 :: ·))) := by
  have hl' : ∀ l ∈ ls.map (32 :: ·), ∀ c ∈ l, c ≠ 10 := by
    intro l hx c hc
    obtain ⟨a, ha, rfl⟩ := List.mem_map.1 hx
    rcases List.mem_cons.1 hc with rfl | hc
    · decide
    · exact hl a ha c hc
  unfold says
  rw [splitNL_nlJoin first ls hf hl, splitNL_nlJoin first _ hf hl']
  simp only [List.tail_cons, cutAll, indent]
  obtain ⟨m, hm⟩ := least_some ls hb hne
  rw [least_moved ls hb, hm]
  simp [List.map_map, Function.comp_def]

end Go.Proofs.Ytbcfalhdjmidjaa.Blk
