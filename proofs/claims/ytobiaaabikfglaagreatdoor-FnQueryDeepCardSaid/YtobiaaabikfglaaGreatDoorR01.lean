/-
  The program's parser as a plain Lean function on lists of tokens: what it reads, where it gives up. No conditions.
-/
namespace Go.Proofs.YtobiaaabikfglaaGreatDoor.Pq

abbrev Bs := List UInt8

/-- a token: its kind (-1 the end, -2 a name, -3 an int, -4 a float, -6 a string, else a character) and its text -/
structure Tok where
  kind : Int
  text : Bs
deriving DecidableEq

def eofT : Tok := ⟨-1, []⟩
def cur : List Tok → Tok | [] => eofT | t :: _ => t

inductive Val where
  | null
  | prim (kind : Int) (text : Bs)
  | var (name : Bs)
  | list (l : List Val)
  | obj (l : List (Bs × Val))

inductive Ty where
  | named (n : Bs)
  | list (t : Ty)
  | nonnull (t : Ty)

inductive Dir where
  | mk (name : Bs) (args : List (Bs × Val × List Dir))

abbrev Arg := Bs × Val × List Dir

structure Inp where
  name : Bs
  ty : Ty
  dflt : Option Val
  dirs : List Dir

inductive Sel where
  | field (alias name : Bs) (args : List Arg) (dirs : List Dir) (sels : List Sel)
  | spread (name : Bs) (dirs : List Dir)
  | inline (on : Option Bs) (dirs : List Dir) (sels : List Sel)

structure Op where
  kind : Nat
  name : Bs
  vars : List Inp
  dirs : List Dir
  sels : List Sel

structure Frag where
  name : Bs
  on : Bs
  dirs : List Dir
  sels : List Sel

structure Doc where
  ops : List Op
  frags : List Frag

/-- read; given up with an error; not told here -/
inductive Res (α : Type) where
  | ok (a : α)
  | err
  | unk

def Res.bind {α β : Type} (x : Res α) (f : α → Res β) : Res β :=
  match x with | .ok a => f a | .err => .err | .unk => .unk

/-- the current token has to be of this kind; the tokens behind it -/
def want (k : Int) (ts : List Tok) : Res (List Tok) := if (cur ts).kind = k then .ok ts.tail else .err
def ident (ts : List Tok) : Res (Bs × List Tok) := if (cur ts).kind = -2 then .ok ((cur ts).text, ts.tail) else .err

def bNull : Bs := [110, 117, 108, 108]
def bOn : Bs := [111, 110]
def bQuery : Bs := [113, 117, 101, 114, 121]
def bMutation : Bs := [109, 117, 116, 97, 116, 105, 111, 110]
def bSubscription : Bs := [115, 117, 98, 115, 99, 114, 105, 112, 116, 105, 111, 110]
def bFragment : Bs := [102, 114, 97, 103, 109, 101, 110, 116]

def maxDepth : Nat := 1000

mutual
/-- a value; d: the depth so far -/
def pVal : Nat → Bool → Nat → List Tok → Res (Val × List Tok)
  | 0, _, _, _ => .unk
  | f + 1, c, d, ts =>
    let k := (cur ts).kind
    if k = 36 then
      if c then .err else (ident ts.tail).bind fun p => .ok (.var p.1, p.2)
    else if k = -3 ∨ k = -4 then .ok (.prim k (cur ts).text, ts.tail)
    else if k = -2 then .ok (if (cur ts).text = bNull then .null else .prim k (cur ts).text, ts.tail)
    else if k = -6 then .unk
    else if k = 45 then
      if (cur ts.tail).kind = -6 then .unk else .ok (.prim (cur ts.tail).kind (45 :: (cur ts.tail).text), ts.tail.tail)
    else if k = 91 then
      if d + 1 > maxDepth then .err else (pVals f c (d + 1) ts.tail []).bind fun p => .ok (.list p.1, p.2)
    else if k = 123 then
      if d + 1 > maxDepth then .err else (pFields f c (d + 1) ts.tail []).bind fun p => .ok (.obj p.1, p.2)
    else .err
/-- values up to the bracket; behind it -/
def pVals : Nat → Bool → Nat → List Tok → List Val → Res (List Val × List Tok)
  | 0, _, _, _, _ => .unk
  | f + 1, c, d, ts, acc =>
    if (cur ts).kind = 93 then .ok (acc, ts.tail)
    else (pVal f c d ts).bind fun p => pVals f c d p.2 (acc ++ [p.1])
def pFields : Nat → Bool → Nat → List Tok → List (Bs × Val) → Res (List (Bs × Val) × List Tok)
  | 0, _, _, _, _ => .unk
  | f + 1, c, d, ts, acc =>
    if (cur ts).kind = 125 then .ok (acc, ts.tail)
    else (ident ts).bind fun n => (want 58 n.2).bind fun t1 => (pVal f c d t1).bind fun p => pFields f c d p.2 (acc ++ [(n.1, p.1)])
end

mutual
/-- a type -/
def pTy : Nat → Nat → List Tok → Res (Ty × List Tok)
  | 0, _, _ => .unk
  | f + 1, d, ts => (pNull f d ts).bind fun p => if (cur p.2).kind = 33 then .ok (.nonnull p.1, p.2.tail) else .ok p
def pNull : Nat → Nat → List Tok → Res (Ty × List Tok)
  | 0, _, _ => .unk
  | f + 1, d, ts =>
    if (cur ts).kind = 91 then
      if d + 1 > maxDepth then .err else (pTy f (d + 1) ts.tail).bind fun p => (want 93 p.2).bind fun t1 => .ok (.list p.1, t1)
    else (ident ts).bind fun p => .ok (.named p.1, p.2)
end

mutual
/-- directives -/
def pDirs : Nat → Nat → List Tok → List Dir → Res (List Dir × List Tok)
  | 0, _, _, _ => .unk
  | f + 1, d, ts, acc =>
    if (cur ts).kind = 64 then
      (ident ts.tail).bind fun n =>
        if (cur n.2).kind = 40 then (pArgs f d n.2.tail []).bind fun p => pDirs f d p.2 (acc ++ [.mk n.1 p.1])
        else pDirs f d n.2 (acc ++ [.mk n.1 []])
    else .ok (acc, ts)
/-- arguments up to the closing bracket; behind it -/
def pArgs : Nat → Nat → List Tok → List Arg → Res (List Arg × List Tok)
  | 0, _, _, _ => .unk
  | f + 1, d, ts, acc =>
    if (cur ts).kind = 41 then .ok (acc, ts.tail)
    else (ident ts).bind fun n => (want 58 n.2).bind fun t1 => (pVal f false d t1).bind fun p => (pDirs f d p.2 []).bind fun q => pArgs f d q.2 (acc ++ [(n.1, p.1, q.1)])
end

def pArgsOpt (f d : Nat) (ts : List Tok) : Res (List Arg × List Tok) :=
  if (cur ts).kind = 40 then pArgs f d ts.tail [] else .ok ([], ts)

mutual
/-- a set of selections, from its opening brace on -/
def pSet : Nat → Nat → List Tok → Res (List Sel × List Tok)
  | 0, _, _ => .unk
  | f + 1, d, ts =>
    if d + 1 > maxDepth then .err
    else (want 123 ts).bind fun t1 => (pSel f (d + 1) t1).bind fun p => pSels f (d + 1) p.2 [p.1]
def pSels : Nat → Nat → List Tok → List Sel → Res (List Sel × List Tok)
  | 0, _, _, _ => .unk
  | f + 1, d, ts, acc =>
    if (cur ts).kind = 125 then .ok (acc, ts.tail)
    else (pSel f d ts).bind fun p => pSels f d p.2 (acc ++ [p.1])
def pSel : Nat → Nat → List Tok → Res (Sel × List Tok)
  | 0, _, _ => .unk
  | f + 1, d, ts =>
    if (cur ts).kind = 46 then
      (want 46 ts.tail).bind fun t1 => (want 46 t1).bind fun t2 =>
        if (cur t2).kind = -2 then
          if (cur t2).text = bOn then
            (ident t2.tail).bind fun n => (pDirs f d n.2 []).bind fun q => (pSet f d q.2).bind fun p => .ok (.inline (some n.1) q.1 p.1, p.2)
          else (pDirs f d t2.tail []).bind fun q => .ok (.spread (cur t2).text q.1, q.2)
        else (pDirs f d t2 []).bind fun q => (pSet f d q.2).bind fun p => .ok (.inline none q.1 p.1, p.2)
    else
      (ident ts).bind fun a =>
        (if (cur a.2).kind = 58 then ident a.2.tail else .ok a).bind fun n =>
          (pArgsOpt f d n.2).bind fun g => (pDirs f d g.2 []).bind fun q =>
            if (cur q.2).kind = 123 then (pSet f d q.2).bind fun p => .ok (.field a.1 n.1 g.1 q.1 p.1, p.2)
            else .ok (.field a.1 n.1 g.1 q.1 [], q.2)
end

/-- the definition of a variable, behind its dollar sign -/
def pInp (f d : Nat) (ts : List Tok) : Res (Inp × List Tok) :=
  (if (cur ts).kind = -6 then .unk else ident ts).bind fun n => (want 58 n.2).bind fun t1 => (pTy f d t1).bind fun t =>
    (if (cur t.2).kind = 61 then (pVal f true d t.2.tail).bind fun p => .ok (some p.1, p.2) else .ok (none, t.2)).bind fun v =>
      (pDirs f d v.2 []).bind fun q => .ok (⟨n.1, t.1, v.1, q.1⟩, q.2)

def pInps : Nat → Nat → List Tok → List Inp → Res (List Inp × List Tok)
  | 0, _, _, _ => .unk
  | f + 1, d, ts, acc =>
    if (cur ts).kind = 41 then .ok (acc, ts.tail)
    else if (cur ts).kind = -6 then .unk
    else (want 36 ts).bind fun t1 => (pInp f d t1).bind fun p => pInps f d p.2 (acc ++ [p.1])

/-- an operation, behind its word -/
def pOp (f : Nat) (kind : Nat) (ts : List Tok) : Res (Op × List Tok) :=
  (if (cur ts).kind = -2 then Res.ok ((cur ts).text, ts.tail) else Res.ok ([], ts)).bind fun n =>
    (if (cur n.2).kind = 40 then pInps f 0 n.2.tail [] else Res.ok ([], n.2)).bind fun v =>
      (pDirs f 0 v.2 []).bind fun q => (pSet f 0 q.2).bind fun p => .ok (⟨kind, n.1, v.1, q.1, p.1⟩, p.2)

def pFrag (f : Nat) (ts : List Tok) : Res (Frag × List Tok) :=
  (ident ts).bind fun n =>
    (if (cur n.2).kind = -2 ∧ (cur n.2).text = bOn then Res.ok n.2.tail else Res.err).bind fun t1 =>
      (ident t1).bind fun o => (pDirs f 0 o.2 []).bind fun q => (pSet f 0 q.2).bind fun p => .ok (⟨n.1, o.1, q.1, p.1⟩, p.2)

/-- a document -/
def pDoc : Nat → List Tok → Doc → Res Doc
  | 0, _, _ => .unk
  | f + 1, ts, acc =>
    let k := (cur ts).kind
    if k = -1 then .ok acc
    else if k = -6 then .unk
    else if k = 123 then (pSet f 0 ts).bind fun p => pDoc f p.2 ⟨acc.ops ++ [⟨1, [], [], [], p.1⟩], acc.frags⟩
    else (ident ts).bind fun x =>
      if x.1 = bQuery then (pOp f 1 x.2).bind fun p => pDoc f p.2 ⟨acc.ops ++ [p.1], acc.frags⟩
      else if x.1 = bMutation then (pOp f 2 x.2).bind fun p => pDoc f p.2 ⟨acc.ops ++ [p.1], acc.frags⟩
      else if x.1 = bSubscription then (pOp f 3 x.2).bind fun p => pDoc f p.2 ⟨acc.ops ++ [p.1], acc.frags⟩
      else if x.1 = bFragment then (pFrag f x.2).bind fun p => pDoc f p.2 ⟨acc.ops, acc.frags ++ [p.1]⟩
      else .err

end Go.Proofs.YtobiaaabikfglaaGreatDoor.Pq

/-
  The eight shapes of FnQueryDeep as lists of tokens, and what the parser makes of them: read just if they are at most 1000 deep. No conditions.
-/
namespace Go.Proofs.YtobiaaabikfglaaGreatDoor.Pq

def P (c : UInt8) : Tok := ⟨c.toNat, [c]⟩
def I (n : Bs) : Tok := ⟨-2, n⟩
def N1 : Tok := ⟨-3, [49]⟩

/-- so many, one behind the other -/
def rep (m : Nat) (l : List Tok) : List Tok := (List.replicate m l).flatten

theorem rep_zero (l : List Tok) : rep 0 l = [] := rfl
theorem rep_succ (m : Nat) (l : List Tok) : rep (m + 1) l = l ++ rep m l := by simp [rep, List.replicate_succ]
theorem rep_succ' (m : Nat) (l : List Tok) : rep (m + 1) l = rep m l ++ l := by simp [rep, List.replicate_succ', List.flatten_append]

def Reads {α : Type} (c : Prop) (x : Res (α × List Tok)) (rest : List Tok) : Prop := (c → ∃ a, x = .ok (a, rest)) ∧ (¬ c → x = .err)

theorem lists (m : Nat) : ∀ (f : Nat) (c : Bool) (d : Nat) (rest : List Tok), 2 * m + 3 ≤ f → Reads (d + (m + 1) ≤ maxDepth) (pVal f c d (rep (m + 1) [P 91] ++ rep (m + 1) [P 93] ++ rest)) rest := by
  induction m with
  | zero =>
    intro f c d rest hf
    obtain ⟨f, rfl⟩ : ∃ g, f = g + 2 := ⟨f - 2, by omega⟩
    have e : rep (0 + 1) [P 91] ++ rep (0 + 1) [P 93] ++ rest = P 91 :: P 93 :: rest := rfl
    rw [e]
    have h : pVal (f + 2) c d (P 91 :: P 93 :: rest) = if d + 1 > maxDepth then .err else .ok (.list [], rest) := by
      simp only [pVal, pVals, cur, P, List.tail_cons]
      rfl
    rw [h]
    exact ⟨fun hc => ⟨_, if_neg (by omega)⟩, fun hc => if_pos (by omega)⟩
  | succ m ih =>
    intro f c d rest hf
    obtain ⟨f, rfl⟩ : ∃ g, f = g + 3 := ⟨f - 3, by omega⟩
    have e : rep (m + 1 + 1) [P 91] ++ rep (m + 1 + 1) [P 93] ++ rest = P 91 :: P 91 :: (rep m [P 91] ++ rep (m + 1) [P 93] ++ (P 93 :: rest)) := by
      rw [rep_succ, rep_succ m [P 91], rep_succ' (m + 1)]; simp
    have e2 : P 91 :: (rep m [P 91] ++ rep (m + 1) [P 93] ++ (P 93 :: rest)) = rep (m + 1) [P 91] ++ rep (m + 1) [P 93] ++ (P 93 :: rest) := by
      rw [rep_succ m [P 91]]; simp
    have h1 : ∀ t, pVal (f + 3) c d (P 91 :: P 91 :: t) = if d + 1 > maxDepth then .err else (pVals (f + 2) c (d + 1) (P 91 :: t) []).bind fun p => .ok (.list p.1, p.2) := by
      intro t; rw [pVal]; rfl
    have h2 : ∀ t, pVals (f + 2) c (d + 1) (P 91 :: t) [] = (pVal (f + 1) c (d + 1) (P 91 :: t)).bind fun p => pVals (f + 1) c (d + 1) p.2 ([] ++ [p.1]) := by
      intro t; rw [pVals]; rfl
    have h3 : ∀ a, pVals (f + 1) c (d + 1) (P 93 :: rest) a = .ok (a, rest) := by intro a; rw [pVals]; rfl
    rw [e, h1, h2, e2]
    have := ih (f + 1) c (d + 1) (P 93 :: rest) (by omega)
    by_cases hd : d + 1 > maxDepth
    · rw [if_pos hd]; exact ⟨fun h => by omega, fun _ => rfl⟩
    · rw [if_neg hd]
      refine ⟨fun h => ?_, fun h => ?_⟩
      · obtain ⟨a, ha⟩ := this.1 (by omega)
        rw [ha]; simp only [Res.bind]; rw [h3]; exact ⟨_, rfl⟩
      · rw [this.2 (by omega)]; rfl

theorem objs (m : Nat) : ∀ (f : Nat) (c : Bool) (d : Nat) (rest : List Tok), 2 * m + 3 ≤ f → Reads (d + m ≤ maxDepth ∨ m = 0) (pVal f c d (rep m [P 123, I [98], P 58] ++ N1 :: rep m [P 125] ++ rest)) rest := by
  induction m with
  | zero =>
    intro f c d rest hf
    obtain ⟨f, rfl⟩ : ∃ g, f = g + 2 := ⟨f - 2, by omega⟩
    refine ⟨fun _ => ⟨.prim (-3) [49], ?_⟩, fun h => by omega⟩
    rw [pVal]; rfl
  | succ m ih =>
    intro f c d rest hf
    obtain ⟨f, rfl⟩ : ∃ g, f = g + 3 := ⟨f - 3, by omega⟩
    have e : rep (m + 1) [P 123, I [98], P 58] ++ N1 :: rep (m + 1) [P 125] ++ rest = P 123 :: I [98] :: P 58 :: (rep m [P 123, I [98], P 58] ++ N1 :: rep m [P 125] ++ (P 125 :: rest)) := by
      rw [rep_succ, rep_succ' m [P 125]]; simp
    have h1 : ∀ t, pVal (f + 3) c d (P 123 :: t) = if d + 1 > maxDepth then .err else (pFields (f + 2) c (d + 1) t []).bind fun p => .ok (.obj p.1, p.2) := by
      intro t; rw [pVal]; rfl
    have h2 : ∀ t, pFields (f + 2) c (d + 1) (I [98] :: P 58 :: t) [] = (pVal (f + 1) c (d + 1) t).bind fun p => pFields (f + 1) c (d + 1) p.2 ([] ++ [([98], p.1)]) := by
      intro t; rw [pFields]; rfl
    have h3 : ∀ a, pFields (f + 1) c (d + 1) (P 125 :: rest) a = .ok (a, rest) := by intro a; rw [pFields]; rfl
    rw [e, h1, h2]
    have := ih (f + 1) c (d + 1) (P 125 :: rest) (by omega)
    by_cases hd : d + 1 > maxDepth
    · rw [if_pos hd]; exact ⟨fun h => by omega, fun _ => rfl⟩
    · rw [if_neg hd]
      refine ⟨fun h => ?_, fun h => ?_⟩
      · obtain ⟨a, ha⟩ := this.1 (by omega)
        rw [ha]; simp only [Res.bind]; rw [h3]; exact ⟨_, rfl⟩
      · rw [this.2 (by omega)]; rfl

theorem tys (m : Nat) : ∀ (f : Nat) (d : Nat) (t : Tok) (rest : List Tok), t.kind ≠ 33 → 2 * m + 3 ≤ f → Reads (d + m ≤ maxDepth ∨ m = 0) (pTy f d (rep m [P 91] ++ I [73, 110, 116] :: rep m [P 93] ++ t :: rest)) (t :: rest) := by
  induction m with
  | zero =>
    intro f d t rest ht hf
    obtain ⟨f, rfl⟩ : ∃ g, f = g + 2 := ⟨f - 2, by omega⟩
    refine ⟨fun _ => ⟨.named [73, 110, 116], ?_⟩, fun h => by omega⟩
    have h1 : pNull (f + 1) d (I [73, 110, 116] :: t :: rest) = .ok (.named [73, 110, 116], t :: rest) := by rw [pNull]; rfl
    show pTy (f + 2) d (I [73, 110, 116] :: t :: rest) = _
    rw [pTy, h1]; exact if_neg ht
  | succ m ih =>
    intro f d t rest ht hf
    obtain ⟨f, rfl⟩ : ∃ g, f = g + 3 := ⟨f - 3, by omega⟩
    have e : rep (m + 1) [P 91] ++ I [73, 110, 116] :: rep (m + 1) [P 93] ++ t :: rest = P 91 :: (rep m [P 91] ++ I [73, 110, 116] :: rep m [P 93] ++ (P 93 :: t :: rest)) := by
      rw [rep_succ, rep_succ' m [P 93]]; simp
    have h1 : ∀ u, pNull (f + 2) d (P 91 :: u) = if d + 1 > maxDepth then .err else (pTy (f + 1) (d + 1) u).bind fun p => (want 93 p.2).bind fun t1 => .ok (.list p.1, t1) := by
      intro u; rw [pNull]; rfl
    rw [e, pTy, h1]
    have := ih (f + 1) (d + 1) (P 93) (t :: rest) (by decide) (by omega)
    by_cases hd : d + 1 > maxDepth
    · rw [if_pos hd]; exact ⟨fun h => by omega, fun _ => rfl⟩
    · rw [if_neg hd]
      refine ⟨fun h => ?_, fun h => ?_⟩
      · obtain ⟨a, ha⟩ := this.1 (by omega)
        rw [ha]
        have hw : want 93 (P 93 :: t :: rest) = .ok (t :: rest) := rfl
        simp only [Res.bind, hw]; exact ⟨_, if_neg ht⟩
      · rw [this.2 (by omega)]; rfl

theorem dirs_none (f d : Nat) (ts : List Tok) (h : (cur ts).kind ≠ 64) (acc : List Dir) : pDirs (f + 1) d ts acc = .ok (acc, ts) := by
  rw [pDirs]; exact if_neg h

theorem sel_field (f d : Nat) (a : Bs) (X : List Tok) : pSel (f + 1) d (I a :: X) =
    (if (cur X).kind = 58 then ident X.tail else Res.ok (a, X)).bind fun n =>
      (pArgsOpt f d n.2).bind fun g => (pDirs f d g.2 []).bind fun q =>
        if (cur q.2).kind = 123 then (pSet f d q.2).bind fun p => .ok (.field a n.1 g.1 q.1 p.1, p.2)
        else .ok (.field a n.1 g.1 q.1 [], q.2) := by rw [pSel]; rfl

/-- a field without arguments and directives -/
theorem sel_bare (f d : Nat) (a : Bs) (X : List Tok) (h1 : (cur X).kind ≠ 58) (h2 : (cur X).kind ≠ 40) (h3 : (cur X).kind ≠ 64) :
    pSel (f + 2) d (I a :: X) = if (cur X).kind = 123 then (pSet (f + 1) d X).bind fun p => .ok (.field a a [] [] p.1, p.2) else .ok (.field a a [] [] [], X) := by
  rw [sel_field, if_neg h1]
  have ha : pArgsOpt (f + 1) d X = .ok ([], X) := if_neg h2
  simp only [Res.bind, ha, dirs_none f d X h3]

theorem sel_on (f d : Nat) (t : Bs) (X : List Tok) : pSel (f + 1) d (P 46 :: P 46 :: P 46 :: I bOn :: I t :: X) =
    (pDirs f d X []).bind fun q => (pSet f d q.2).bind fun p => .ok (.inline (some t) q.1 p.1, p.2) := by rw [pSel]; rfl

theorem sel_inline (f d : Nat) (X : List Tok) (h : (cur X).kind ≠ -2) : pSel (f + 1) d (P 46 :: P 46 :: P 46 :: X) =
    (pDirs f d X []).bind fun q => (pSet f d q.2).bind fun p => .ok (.inline none q.1 p.1, p.2) := by
  have : pSel (f + 1) d (P 46 :: P 46 :: P 46 :: X) =
      if (cur X).kind = -2 then
        if (cur X).text = bOn then
          (ident X.tail).bind fun n => (pDirs f d n.2 []).bind fun q => (pSet f d q.2).bind fun p => .ok (.inline (some n.1) q.1 p.1, p.2)
        else (pDirs f d X.tail []).bind fun q => .ok (.spread (cur X).text q.1, q.2)
      else (pDirs f d X []).bind fun q => (pSet f d q.2).bind fun p => .ok (.inline none q.1 p.1, p.2) := by rw [pSel]; rfl
  rw [this, if_neg h]

theorem set_open (f d : Nat) (X : List Tok) : pSet (f + 1) d (P 123 :: X) = if d + 1 > maxDepth then Res.err else (pSel f (d + 1) X).bind fun p => pSels f (d + 1) p.2 [p.1] := by rw [pSet]; rfl
theorem sels_close (f d : Nat) (X : List Tok) (a : List Sel) : pSels (f + 1) d (P 125 :: X) a = .ok (a, X) := by rw [pSels]; rfl

/-- '{a{a..}}' -/
theorem sets (m : Nat) : ∀ (f d : Nat) (rest : List Tok), 2 * m + 4 ≤ f → Reads (d + (m + 1) ≤ maxDepth) (pSet f d (rep (m + 1) [P 123, I [97]] ++ rep (m + 1) [P 125] ++ rest)) rest := by
  induction m with
  | zero =>
    intro f d rest hf
    obtain ⟨f, rfl⟩ : ∃ g, f = g + 3 := ⟨f - 3, by omega⟩
    have e : rep (0 + 1) [P 123, I [97]] ++ rep (0 + 1) [P 125] ++ rest = P 123 :: I [97] :: P 125 :: rest := rfl
    have hk : (cur (P 125 :: rest)).kind = 125 := rfl
    have h1 := sel_bare f (d + 1) [97] (P 125 :: rest) (by rw [hk]; decide) (by rw [hk]; decide) (by rw [hk]; decide)
    rw [if_neg (by rw [hk]; decide)] at h1
    rw [e, set_open, h1]
    simp only [Res.bind, sels_close]
    exact ⟨fun hc => ⟨_, if_neg (by omega)⟩, fun hc => if_pos (by omega)⟩
  | succ m ih =>
    intro f d rest hf
    obtain ⟨f, rfl⟩ : ∃ g, f = g + 4 := ⟨f - 4, by omega⟩
    have e : rep (m + 1 + 1) [P 123, I [97]] ++ rep (m + 1 + 1) [P 125] ++ rest = P 123 :: I [97] :: (rep (m + 1) [P 123, I [97]] ++ rep (m + 1) [P 125] ++ (P 125 :: rest)) := by
      rw [rep_succ (m + 1), rep_succ' (m + 1) [P 125]]; simp
    have hcur : (cur (rep (m + 1) [P 123, I [97]] ++ rep (m + 1) [P 125] ++ (P 125 :: rest))).kind = 123 := by rw [rep_succ]; rfl
    have this := ih (f + 2) (d + 1) (P 125 :: rest) (by omega)
    generalize rep (m + 1) [P 123, I [97]] ++ rep (m + 1) [P 125] ++ (P 125 :: rest) = X at e hcur this
    have h1 := sel_bare (f + 1) (d + 1) [97] X (by rw [hcur]; decide) (by rw [hcur]; decide) (by rw [hcur]; decide)
    rw [if_pos hcur] at h1
    rw [e, set_open, h1]
    by_cases hd : d + 1 > maxDepth
    · rw [if_pos hd]; exact ⟨fun h => by omega, fun _ => rfl⟩
    · rw [if_neg hd]
      refine ⟨fun h => ?_, fun h => ?_⟩
      · obtain ⟨a, ha⟩ := this.1 (by omega)
        rw [ha]; simp only [Res.bind, sels_close]; exact ⟨_, rfl⟩
      · rw [this.2 (by omega)]; rfl

/-- '{...{..a}}', and with 'on T' -/
def dots (on : Bool) : List Tok := [P 46, P 46, P 46] ++ (if on then [I bOn, I [84]] else []) ++ [P 123]

theorem spreads (on : Bool) (m : Nat) : ∀ (f d : Nat) (rest : List Tok), 2 * m + 4 ≤ f →
    Reads (d + (m + 1) ≤ maxDepth) (pSet f d (P 123 :: (rep m (dots on) ++ I [97] :: rep m [P 125] ++ (P 125 :: rest)))) rest := by
  induction m with
  | zero => exact sets 0
  | succ m ih =>
    intro f d rest hf
    obtain ⟨f, rfl⟩ : ∃ g, f = g + 4 := ⟨f - 4, by omega⟩
    have e : rep (m + 1) (dots on) ++ I [97] :: rep (m + 1) [P 125] ++ (P 125 :: rest) = dots on ++ (rep m (dots on) ++ I [97] :: rep m [P 125] ++ (P 125 :: (P 125 :: rest))) := by
      rw [rep_succ m (dots on), rep_succ' m [P 125]]; simp
    have this := ih (f + 2) (d + 1) (P 125 :: rest) (by omega)
    rw [e]
    generalize rep m (dots on) ++ I [97] :: rep m [P 125] ++ (P 125 :: (P 125 :: rest)) = X at this
    have hk : (cur (P 123 :: X)).kind = 123 := rfl
    have h1 : pSel (f + 3) (d + 1) (dots on ++ X) = (pSet (f + 2) (d + 1) (P 123 :: X)).bind fun p => .ok (.inline (if on then some [84] else none) [] p.1, p.2) := by
      have hd := dirs_none (f + 1) (d + 1) (P 123 :: X) (by rw [hk]; decide) []
      cases on with
      | false =>
        show pSel (f + 3) (d + 1) (P 46 :: P 46 :: P 46 :: P 123 :: X) = _
        rw [sel_inline _ _ _ (by rw [hk]; decide), hd]; rfl
      | true =>
        show pSel (f + 3) (d + 1) (P 46 :: P 46 :: P 46 :: I bOn :: I [84] :: P 123 :: X) = _
        rw [sel_on, hd]; rfl
    rw [set_open, h1]
    by_cases hd : d + 1 > maxDepth
    · rw [if_pos hd]; exact ⟨fun h => by omega, fun _ => rfl⟩
    · rw [if_neg hd]
      refine ⟨fun h => ?_, fun h => ?_⟩
      · obtain ⟨a, ha⟩ := this.1 (by omega)
        rw [ha]; simp only [Res.bind, sels_close]; exact ⟨_, rfl⟩
      · rw [this.2 (by omega)]; rfl

/-- the shapes -/
def shape (road m : Nat) : List Tok :=
  match road with
  | 0 => P 123 :: I [97] :: P 40 :: I [120] :: P 58 :: (rep m [P 91] ++ rep m [P 93] ++ [P 41, P 125])
  | 1 => P 123 :: I [97] :: P 40 :: I [120] :: P 58 :: (rep m [P 123, I [98], P 58] ++ N1 :: rep m [P 125] ++ [P 41, P 125])
  | 2 => rep m [P 123, I [97]] ++ rep m [P 125] ++ []
  | 3 => P 123 :: (rep m (dots false) ++ I [97] :: rep m [P 125] ++ (P 125 :: []))
  | 4 => P 123 :: (rep m (dots true) ++ I [97] :: rep m [P 125] ++ (P 125 :: []))
  | 5 => I bQuery :: P 40 :: P 36 :: I [97] :: P 58 :: (rep m [P 91] ++ I [73, 110, 116] :: rep m [P 93] ++ P 41 :: [P 123, I [97], P 125])
  | 6 => I bQuery :: P 40 :: P 36 :: I [97] :: P 58 :: I [73, 110, 116] :: P 61 :: (rep m [P 91] ++ rep m [P 93] ++ [P 41, P 123, I [97], P 125])
  | _ => P 123 :: I [97] :: P 64 :: I [100] :: P 40 :: I [120] :: P 58 :: (rep m [P 91] ++ rep m [P 93] ++ [P 41, P 125])

def deep (road m : Nat) : Nat := match road with | 2 | 5 | 6 => m | _ => m + 1

def Decides {α : Type} (c : Prop) (x : Res α) : Prop := (c → ∃ a, x = .ok a) ∧ (¬ c → x = .err)

theorem doc_set (f : Nat) (X : List Tok) (c : Prop) (h : Reads c (pSet (f + 1) 0 (P 123 :: X)) []) : Decides c (pDoc (f + 2) (P 123 :: X) ⟨[], []⟩) := by
  have e : pDoc (f + 2) (P 123 :: X) ⟨[], []⟩ = (pSet (f + 1) 0 (P 123 :: X)).bind fun p => pDoc (f + 1) p.2 ⟨[] ++ [⟨1, [], [], [], p.1⟩], []⟩ := by rw [pDoc]; rfl
  rw [e]
  refine ⟨fun hc => ?_, fun hc => ?_⟩
  · obtain ⟨a, ha⟩ := h.1 hc
    rw [ha]; simp only [Res.bind]; exact ⟨_, by rw [pDoc]; rfl⟩
  · rw [h.2 hc]; rfl

theorem Reads.bind {α β : Type} {c : Prop} {x : Res (α × List Tok)} {rest rest' : List Tok} {g : α × List Tok → Res (β × List Tok)} (h : Reads c x rest) (hg : ∀ a, ∃ b, g (a, rest) = .ok (b, rest')) : Reads c (x.bind g) rest' := by
  refine ⟨fun hc => ?_, fun hc => by rw [h.2 hc]; rfl⟩
  obtain ⟨a, ha⟩ := h.1 hc
  obtain ⟨b, hb⟩ := hg a
  exact ⟨b, by rw [ha]; exact hb⟩

theorem args_one (f d : Nat) (X rest : List Tok) (c : Prop) (h : Reads c (pVal (f + 1) false d X) (P 41 :: rest)) : Reads c (pArgs (f + 2) d (I [120] :: P 58 :: X) []) rest := by
  have e : pArgs (f + 2) d (I [120] :: P 58 :: X) [] = (pVal (f + 1) false d X).bind fun p => (pDirs (f + 1) d p.2 []).bind fun q => pArgs (f + 1) d q.2 ([] ++ [([120], p.1, q.1)]) := by rw [pArgs]; rfl
  rw [e]
  refine h.bind fun a => ?_
  have hk : (cur (P 41 :: rest)).kind = 41 := rfl
  rw [dirs_none f d (P 41 :: rest) (by rw [hk]; decide) []]
  exact ⟨_, by rw [Res.bind, pArgs]; rfl⟩

theorem set_args (f d : Nat) (X rest : List Tok) (c : Prop) (hd : d + 1 ≤ maxDepth) (h : Reads c (pVal (f + 1) false (d + 1) X) (P 41 :: P 125 :: rest)) :
    Reads c (pSet (f + 4) d (P 123 :: I [97] :: P 40 :: I [120] :: P 58 :: X)) rest := by
  have hk : (cur (P 125 :: rest)).kind = 125 := rfl
  rw [set_open, if_neg (by omega)]
  have hs : Reads c (pSel (f + 3) (d + 1) (I [97] :: P 40 :: I [120] :: P 58 :: X)) (P 125 :: rest) := by
    have e : pSel (f + 3) (d + 1) (I [97] :: P 40 :: I [120] :: P 58 :: X) = (pArgs (f + 2) (d + 1) (I [120] :: P 58 :: X) []).bind fun g => (pDirs (f + 2) (d + 1) g.2 []).bind fun q =>
        if (cur q.2).kind = 123 then (pSet (f + 2) (d + 1) q.2).bind fun p => .ok (.field [97] [97] g.1 q.1 p.1, p.2) else .ok (.field [97] [97] g.1 q.1 [], q.2) := by rw [sel_field]; rfl
    rw [e]
    refine (args_one f (d + 1) X (P 125 :: rest) c h).bind fun a => ?_
    rw [dirs_none (f + 1) (d + 1) (P 125 :: rest) (by rw [hk]; decide) []]
    simp only [Res.bind]
    exact ⟨_, if_neg (by rw [hk]; decide)⟩
  exact hs.bind fun a => ⟨_, sels_close _ _ _ _⟩

theorem set_dir (f d : Nat) (X rest : List Tok) (c : Prop) (hd : d + 1 ≤ maxDepth) (h : Reads c (pVal (f + 1) false (d + 1) X) (P 41 :: P 125 :: rest)) :
    Reads c (pSet (f + 5) d (P 123 :: I [97] :: P 64 :: I [100] :: P 40 :: I [120] :: P 58 :: X)) rest := by
  have hk : (cur (P 125 :: rest)).kind = 125 := rfl
  rw [set_open, if_neg (by omega)]
  have hdir : Reads c (pDirs (f + 3) (d + 1) (P 64 :: I [100] :: P 40 :: I [120] :: P 58 :: X) []) (P 125 :: rest) := by
    have e : pDirs (f + 3) (d + 1) (P 64 :: I [100] :: P 40 :: I [120] :: P 58 :: X) [] = (pArgs (f + 2) (d + 1) (I [120] :: P 58 :: X) []).bind fun p => pDirs (f + 2) (d + 1) p.2 ([] ++ [.mk [100] p.1]) := by rw [pDirs]; rfl
    rw [e]
    exact (args_one f (d + 1) X (P 125 :: rest) c h).bind fun a => ⟨_, dirs_none (f + 1) (d + 1) (P 125 :: rest) (by rw [hk]; decide) _⟩
  have hs : Reads c (pSel (f + 4) (d + 1) (I [97] :: P 64 :: I [100] :: P 40 :: I [120] :: P 58 :: X)) (P 125 :: rest) := by
    have e : pSel (f + 4) (d + 1) (I [97] :: P 64 :: I [100] :: P 40 :: I [120] :: P 58 :: X) = (pDirs (f + 3) (d + 1) (P 64 :: I [100] :: P 40 :: I [120] :: P 58 :: X) []).bind fun q =>
        if (cur q.2).kind = 123 then (pSet (f + 3) (d + 1) q.2).bind fun p => .ok (.field [97] [97] [] q.1 p.1, p.2) else .ok (.field [97] [97] [] q.1 [], q.2) := by rw [sel_field]; rfl
    rw [e]
    exact hdir.bind fun a => ⟨_, if_neg (by rw [hk]; decide)⟩
  exact hs.bind fun a => ⟨_, sels_close _ _ _ _⟩

theorem op_a (f : Nat) (v : List Inp) : ((pDirs (f + 5) 0 [P 123, I [97], P 125] []).bind fun q => (pSet (f + 5) 0 q.2).bind fun p => Res.ok ((⟨1, [], v, q.1, p.1⟩ : Op), p.2)) = .ok (⟨1, [], v, [], [.field [97] [97] [] [] []]⟩, []) := by
  rw [dirs_none (f + 4) 0 _ (by decide) []]
  have := (sets 0 (f + 5) 0 [] (by omega))
  have e : pSet (f + 5) 0 [P 123, I [97], P 125] = .ok ([.field [97] [97] [] [] []], []) := by
    rw [set_open, if_neg (by decide), sel_bare (f + 2) 1 [97] [P 125] (by decide) (by decide) (by decide), if_neg (by decide)]
    simp only [Res.bind]; rw [sels_close]
  simp only [Res.bind, e]

theorem op_vars (f : Nat) (X : List Tok) (c : Prop) (h : Reads c (pInp (f + 4) 0 (I [97] :: P 58 :: X)) (P 41 :: [P 123, I [97], P 125])) :
    Decides c (pDoc (f + 6) (I bQuery :: P 40 :: P 36 :: I [97] :: P 58 :: X) ⟨[], []⟩) := by
  have hv : Reads c (pInps (f + 5) 0 (P 36 :: I [97] :: P 58 :: X) []) [P 123, I [97], P 125] := by
    have e : pInps (f + 5) 0 (P 36 :: I [97] :: P 58 :: X) [] = (pInp (f + 4) 0 (I [97] :: P 58 :: X)).bind fun p => pInps (f + 4) 0 p.2 ([] ++ [p.1]) := by rw [pInps]; rfl
    rw [e]
    exact h.bind fun a => ⟨[] ++ [a], by rw [pInps]; rfl⟩
  have e : pDoc (f + 6) (I bQuery :: P 40 :: P 36 :: I [97] :: P 58 :: X) ⟨[], []⟩ = ((pInps (f + 5) 0 (P 36 :: I [97] :: P 58 :: X) []).bind fun v =>
      (pDirs (f + 5) 0 v.2 []).bind fun q => (pSet (f + 5) 0 q.2).bind fun p => Res.ok ((⟨1, [], v.1, q.1, p.1⟩ : Op), p.2)).bind fun p => pDoc (f + 5) p.2 ⟨[] ++ [p.1], []⟩ := by rw [pDoc]; rfl
  rw [e]
  have hr : Reads c ((pInps (f + 5) 0 (P 36 :: I [97] :: P 58 :: X) []).bind fun v => (pDirs (f + 5) 0 v.2 []).bind fun q => (pSet (f + 5) 0 q.2).bind fun p => Res.ok ((⟨1, [], v.1, q.1, p.1⟩ : Op), p.2)) [] :=
    hv.bind fun a => ⟨_, op_a f a⟩
  refine ⟨fun hc => ?_, fun hc => by rw [hr.2 hc]; rfl⟩
  obtain ⟨a, ha⟩ := hr.1 hc
  rw [ha]; simp only [Res.bind]; exact ⟨_, by rw [pDoc]; rfl⟩

theorem Decides.of_iff {α : Type} {c c' : Prop} {x : Res α} (h : Decides c x) (e : c ↔ c') : Decides c' x := ⟨fun hc => h.1 (e.2 hc), fun hc => h.2 fun hc' => hc (e.1 hc')⟩
theorem Reads.of_iff {α : Type} {c c' : Prop} {x : Res (α × List Tok)} {rest : List Tok} (h : Reads c x rest) (e : c ↔ c') : Reads c' x rest := ⟨fun hc => h.1 (e.2 hc), fun hc => h.2 fun hc' => hc (e.1 hc')⟩

/-- ████ the shapes are read just if they are at most 1000 deep -/
theorem shape_decides (road m : Nat) (hm : 1 ≤ m) : ∃ f, Decides (deep road m ≤ 1000) (pDoc f (shape road m) ⟨[], []⟩) := by
  obtain ⟨k, rfl⟩ : ∃ k, m = k + 1 := ⟨m - 1, by omega⟩
  have hM : maxDepth = 1000 := rfl
  rcases road with _ | _ | _ | _ | _ | _ | _ | road
  · refine ⟨2 * k + 10, ?_⟩
    refine doc_set (2 * k + 8) _ _ (set_args (2 * k + 5) 0 _ [] _ (by decide) ?_)
    exact (lists k (2 * k + 6) false 1 (P 41 :: [P 125]) (by omega)).of_iff (by show _ ↔ k + 1 + 1 ≤ 1000; omega)
  · refine ⟨2 * k + 10, ?_⟩
    refine doc_set (2 * k + 8) _ _ (set_args (2 * k + 5) 0 _ [] _ (by decide) ?_)
    exact (objs (k + 1) (2 * k + 6) false 1 (P 41 :: [P 125]) (by omega)).of_iff (by show _ ↔ k + 1 + 1 ≤ 1000; omega)
  · refine ⟨2 * k + 10, ?_⟩
    have h := sets k (2 * k + 9) 0 [] (by omega)
    have e : shape 2 (k + 1) = P 123 :: (I [97] :: (rep k [P 123, I [97]] ++ rep (k + 1) [P 125] ++ [])) := by
      show rep (k + 1) [P 123, I [97]] ++ rep (k + 1) [P 125] ++ [] = _
      rw [rep_succ k [P 123, I [97]]]; simp
    have e' : rep (k + 1) [P 123, I [97]] ++ rep (k + 1) [P 125] ++ [] = P 123 :: (I [97] :: (rep k [P 123, I [97]] ++ rep (k + 1) [P 125] ++ [])) := e
    rw [e'] at h
    show Decides _ (pDoc (2 * k + 10) (shape 2 (k + 1)) ⟨[], []⟩)
    rw [e]
    exact doc_set (2 * k + 8) _ _ (h.of_iff (by show _ ↔ k + 1 ≤ 1000; omega))
  · refine ⟨2 * k + 10, ?_⟩
    exact doc_set (2 * k + 8) _ _ ((spreads false (k + 1) (2 * k + 9) 0 [] (by omega)).of_iff (by show _ ↔ k + 1 + 1 ≤ 1000; omega))
  · refine ⟨2 * k + 10, ?_⟩
    exact doc_set (2 * k + 8) _ _ ((spreads true (k + 1) (2 * k + 9) 0 [] (by omega)).of_iff (by show _ ↔ k + 1 + 1 ≤ 1000; omega))
  · refine ⟨2 * k + 12, op_vars (2 * k + 6) _ _ ?_⟩
    have e : ∀ X, pInp (2 * k + 10) 0 (I [97] :: P 58 :: X) = (pTy (2 * k + 10) 0 X).bind fun t =>
        (if (cur t.2).kind = 61 then (pVal (2 * k + 10) true 0 t.2.tail).bind fun p => Res.ok (some p.1, p.2) else Res.ok (none, t.2)).bind fun v =>
          (pDirs (2 * k + 10) 0 v.2 []).bind fun q => .ok (⟨[97], t.1, v.1, q.1⟩, q.2) := fun X => rfl
    rw [e]
    refine ((tys (k + 1) (2 * k + 10) 0 (P 41) [P 123, I [97], P 125] (by decide) (by omega)).of_iff (by show _ ↔ k + 1 ≤ 1000; omega)).bind fun a => ?_
    have hd := dirs_none (2 * k + 9) 0 (P 41 :: [P 123, I [97], P 125]) (by decide) []
    refine ⟨⟨[97], a, none, []⟩, ?_⟩
    rw [if_neg (show ¬ (cur [P 41, P 123, I [97], P 125]).kind = 61 by decide)]
    simp only [Res.bind, hd]
  · refine ⟨2 * k + 12, op_vars (2 * k + 6) _ _ ?_⟩
    have ht : pTy (2 * k + 10) 0 (I [73, 110, 116] :: P 61 :: (rep (k + 1) [P 91] ++ rep (k + 1) [P 93] ++ [P 41, P 123, I [97], P 125])) = .ok (.named [73, 110, 116], P 61 :: (rep (k + 1) [P 91] ++ rep (k + 1) [P 93] ++ [P 41, P 123, I [97], P 125])) := by
      rw [pTy, pNull]; rfl
    have e : ∀ X t X', pTy (2 * k + 10) 0 X = .ok (t, P 61 :: X') → pInp (2 * k + 10) 0 (I [97] :: P 58 :: X) = (pVal (2 * k + 10) true 0 X').bind fun p =>
          (pDirs (2 * k + 10) 0 p.2 []).bind fun q => .ok (⟨[97], t, some p.1, q.1⟩, q.2) := fun X t X' h => by
      have e1 : pInp (2 * k + 10) 0 (I [97] :: P 58 :: X) = (pTy (2 * k + 10) 0 X).bind fun t =>
        (if (cur t.2).kind = 61 then (pVal (2 * k + 10) true 0 t.2.tail).bind fun p => Res.ok (some p.1, p.2) else Res.ok (none, t.2)).bind fun v =>
          (pDirs (2 * k + 10) 0 v.2 []).bind fun q => .ok (⟨[97], t.1, v.1, q.1⟩, q.2) := rfl
      rw [e1, h]
      show ((pVal (2 * k + 10) true 0 X').bind fun p => Res.ok (some p.1, p.2)).bind _ = _
      cases pVal (2 * k + 10) true 0 X' <;> rfl
    rw [e _ _ _ ht]
    refine ((lists k (2 * k + 10) true 0 (P 41 :: [P 123, I [97], P 125]) (by omega)).of_iff (by show _ ↔ k + 1 ≤ 1000; omega)).bind fun a => ?_
    have hd := dirs_none (2 * k + 9) 0 (P 41 :: [P 123, I [97], P 125]) (by decide) []
    exact ⟨⟨[97], .named [73, 110, 116], some a, []⟩, by simp only [hd, Res.bind]⟩
  · refine ⟨2 * k + 11, ?_⟩
    refine doc_set (2 * k + 9) _ _ (set_dir (2 * k + 5) 0 _ [] _ (by decide) ?_)
    exact (lists k (2 * k + 6) false 1 (P 41 :: [P 125]) (by omega)).of_iff (by show _ ↔ k + 1 + 1 ≤ 1000; omega)

end Go.Proofs.YtobiaaabikfglaaGreatDoor.Pq

/-
  Texts as lists of tokens: what one call of the scanner takes off a text, and what the lexer makes of all of it. No conditions.
-/
namespace Go.Proofs.YtobiaaabikfglaaGreatDoor.Pq

def wsB (c : UInt8) : Bool := c == 9 || c == 10 || c == 13 || c == 32
def digB (c : UInt8) : Bool := decide (48 ≤ c.toNat) && decide (c.toNat ≤ 57)
def letB (c : UInt8) : Bool := (decide (65 ≤ c.toNat) && decide (c.toNat ≤ 90)) || (decide (97 ≤ c.toNat) && decide (c.toNat ≤ 122)) || c == 95
def idB (c : UInt8) : Bool := letB c || digB c
def punB (c : UInt8) : Bool := c == 33 || c == 36 || c == 38 || c == 40 || c == 41 || c == 58 || c == 61 || c == 64 || c == 91 || c == 93 || c == 123 || c == 124 || c == 125 || c == 44 || c == 35 || c == 45

/-- what may stand behind a word or a number: an ASCII character that goes on with neither -/
def Stop (u : Bs) : Prop := ∀ c, u.head? = some c → c.toNat < 128 ∧ idB c = false ∧ c ≠ 46

/-- one call of the scanner: the text, the token, the text behind it -/
inductive Scans : Bs → Tok → Bs → Prop where
  | eof : Scans [] eofT []
  | ws (c : UInt8) (u : Bs) (t : Tok) (u' : Bs) : wsB c = true → Scans u t u' → Scans (c :: u) t u'
  | punct (c : UInt8) (u : Bs) : punB c = true → Scans (c :: u) (P c) u
  | dot (u : Bs) : (∀ c, u.head? = some c → c.toNat < 128 ∧ digB c = false) → Scans (46 :: u) (P 46) u
  | word (c : UInt8) (l u : Bs) : letB c = true → l.all idB = true → Stop u → Scans (c :: (l ++ u)) ⟨-2, c :: l⟩ u
  | int (c : UInt8) (l u : Bs) : digB c = true → l.all digB = true → (c = 48 → l = []) → Stop u → Scans (c :: (l ++ u)) ⟨-3, c :: l⟩ u

/-- all tokens of a text -/
inductive Toks : Bs → List Tok → Prop where
  | eof (u u' : Bs) : Scans u eofT u' → Toks u []
  | comma (u u' : Bs) (ts : List Tok) : Scans u (P 44) u' → Toks u' ts → Toks u ts
  | tok (u u' : Bs) (t : Tok) (ts : List Tok) : Scans u t u' → t.kind ≠ 44 → t.kind ≠ 35 → t.kind ≠ -1 → Toks u' ts → Toks u (t :: ts)

theorem Toks.nil : Toks [] [] := .eof [] [] .eof

theorem Toks.p (c : UInt8) (u : Bs) (ts : List Tok) (h : punB c = true) (h1 : c.toNat ≠ 44) (h2 : c.toNat ≠ 35) (hu : Toks u ts) : Toks (c :: u) (P c :: ts) :=
  .tok _ u _ ts (.punct c u h) (by show ((c.toNat : Int)) ≠ 44; omega) (by show ((c.toNat : Int)) ≠ 35; omega) (by show ((c.toNat : Int)) ≠ -1; omega) hu

theorem Toks.dots (u : Bs) (ts : List Tok) (hs : ∀ c, u.head? = some c → c.toNat < 128 ∧ digB c = false) (hu : Toks u ts) : Toks (46 :: 46 :: 46 :: u) (P 46 :: P 46 :: P 46 :: ts) := by
  have hd : ∀ v, ∀ c, (46 :: v : Bs).head? = some c → c.toNat < 128 ∧ digB c = false := fun v c h => by simp at h; subst h; decide
  refine .tok _ _ _ _ (.dot _ (hd _)) (by decide) (by decide) (by decide) (.tok _ _ _ _ (.dot _ (hd _)) (by decide) (by decide) (by decide) (.tok _ _ _ _ (.dot _ hs) (by decide) (by decide) (by decide) hu))

theorem Toks.w (c : UInt8) (l u : Bs) (ts : List Tok) (hc : letB c = true) (hl : l.all idB = true) (hs : Stop u) (hu : Toks u ts) : Toks (c :: (l ++ u)) (I (c :: l) :: ts) :=
  .tok _ u _ ts (.word c l u hc hl hs) (show (-2 : Int) ≠ 44 by decide) (show (-2 : Int) ≠ 35 by decide) (show (-2 : Int) ≠ -1 by decide) hu

theorem Toks.one (u : Bs) (ts : List Tok) (hs : Stop u) (hu : Toks u ts) : Toks (49 :: u) (N1 :: ts) :=
  .tok _ u _ ts (.int 49 [] u (by decide) (by decide) (fun h => by cases h) hs) (by decide) (by decide) (by decide) hu

theorem Toks.blank (c : UInt8) (u : Bs) (ts : List Tok) (hc : wsB c = true) (hu : Toks u ts) : Toks (c :: u) ts := by
  cases hu with
  | eof _ u' h => exact .eof _ u' (.ws c u _ u' hc h)
  | comma _ u' _ h h' => exact .comma _ u' _ (.ws c u _ u' hc h) h'
  | tok _ u' t ts h h1 h2 h3 h' => exact .tok _ u' t ts (.ws c u _ u' hc h) h1 h2 h3 h'

theorem Stop.of (c : UInt8) (u : Bs) (h : c.toNat < 128) (h1 : idB c = false) (h2 : c ≠ 46) : Stop (c :: u) := fun d hd => by simp at hd; subst hd; exact ⟨h, h1, h2⟩
theorem Stop.nil : Stop [] := fun d hd => by simp at hd

def repB (m : Nat) (l : Bs) : Bs := (List.replicate m l).flatten
theorem repB_succ (m : Nat) (l : Bs) : repB (m + 1) l = l ++ repB m l := by simp [repB, List.replicate_succ]

/-- the texts of FnQueryDeep -/
def text (road m : Nat) : Bs :=
  match road with
  | 0 => [123, 97, 40, 120, 58] ++ repB m [91] ++ repB m [93] ++ [41, 125]
  | 1 => [123, 97, 40, 120, 58] ++ repB m [123, 98, 58] ++ [49] ++ repB m [125] ++ [41, 125]
  | 2 => repB m [123, 97] ++ repB m [125]
  | 3 => [123] ++ repB m [46, 46, 46, 123] ++ [97] ++ repB m [125] ++ [125]
  | 4 => [123] ++ repB m [46, 46, 46, 111, 110, 32, 84, 123] ++ [97] ++ repB m [125] ++ [125]
  | 5 => [113, 117, 101, 114, 121, 40, 36, 97, 58] ++ repB m [91] ++ [73, 110, 116] ++ repB m [93] ++ [41, 123, 97, 125]
  | 6 => [113, 117, 101, 114, 121, 40, 36, 97, 58, 73, 110, 116, 61] ++ repB m [91] ++ repB m [93] ++ [41, 123, 97, 125]
  | _ => [123, 97, 32, 64, 100, 40, 120, 58] ++ repB m [91] ++ repB m [93] ++ [41, 125]

theorem toks_rep (c : UInt8) (m : Nat) (u : Bs) (ts : List Tok) (h : punB c = true) (h1 : c.toNat ≠ 44) (h2 : c.toNat ≠ 35) (hu : Toks u ts) : Toks (repB m [c] ++ u) (rep m [P c] ++ ts) := by
  induction m with
  | zero => exact hu
  | succ m ih => rw [repB_succ, rep_succ]; exact Toks.p c _ _ h h1 h2 ih

theorem stop_rep (c : UInt8) (m : Nat) (u : Bs) (h : c.toNat < 128) (h1 : idB c = false) (h2 : c ≠ 46) (hu : Stop u) : Stop (repB m [c] ++ u) := by
  cases m with
  | zero => exact hu
  | succ m => rw [repB_succ]; exact Stop.of c _ h h1 h2

theorem toks_a (u : Bs) (ts : List Tok) (hs : Stop u) (hu : Toks u ts) : Toks (97 :: u) (I [97] :: ts) := Toks.w 97 [] u ts (by decide) (by decide) hs hu

theorem toks_lists (m : Nat) (u : Bs) (ts : List Tok) (hu : Toks u ts) : Toks (repB m [91] ++ (repB m [93] ++ u)) (rep m [P 91] ++ (rep m [P 93] ++ ts)) :=
  toks_rep 91 m _ _ (by decide) (by decide) (by decide) (toks_rep 93 m _ _ (by decide) (by decide) (by decide) hu)

theorem toks_objs (m : Nat) (u : Bs) (ts : List Tok) (hu : Toks u ts) : Toks (repB m [123, 98, 58] ++ u) (rep m [P 123, I [98], P 58] ++ ts) := by
  induction m with
  | zero => exact hu
  | succ m ih =>
    rw [repB_succ, rep_succ]
    exact Toks.p 123 _ _ (by decide) (by decide) (by decide) (Toks.w 98 [] _ _ (by decide) (by decide) (Stop.of 58 _ (by decide) (by decide) (by decide)) (Toks.p 58 _ _ (by decide) (by decide) (by decide) ih))

theorem toks_sets (m : Nat) (u : Bs) (ts : List Tok) (hs : Stop u) (hu : Toks u ts) : Toks (repB m [123, 97] ++ u) (rep m [P 123, I [97]] ++ ts) ∧ Stop (repB m [123, 97] ++ u) := by
  induction m with
  | zero => exact ⟨hu, hs⟩
  | succ m ih =>
    rw [repB_succ, rep_succ]
    exact ⟨Toks.p 123 _ _ (by decide) (by decide) (by decide) (toks_a _ _ ih.2 ih.1), Stop.of 123 _ (by decide) (by decide) (by decide)⟩

theorem toks_dots (m : Nat) (u : Bs) (ts : List Tok) (hu : Toks u ts) : Toks (repB m [46, 46, 46, 123] ++ u) (rep m (dots false) ++ ts) := by
  induction m with
  | zero => exact hu
  | succ m ih =>
    rw [repB_succ, rep_succ]
    exact Toks.dots _ _ (fun c hc => by simp at hc; subst hc; decide) (Toks.p 123 _ _ (by decide) (by decide) (by decide) ih)

theorem toks_ons (m : Nat) (u : Bs) (ts : List Tok) (hu : Toks u ts) : Toks (repB m [46, 46, 46, 111, 110, 32, 84, 123] ++ u) (rep m (dots true) ++ ts) := by
  induction m with
  | zero => exact hu
  | succ m ih =>
    rw [repB_succ, rep_succ]
    refine Toks.dots _ _ (fun c hc => by simp at hc; subst hc; decide) (Toks.w 111 [110] _ _ (by decide) (by decide) (Stop.of 32 _ (by decide) (by decide) (by decide)) (Toks.blank 32 _ _ (by decide) ?_))
    exact Toks.w 84 [] _ _ (by decide) (by decide) (Stop.of 123 _ (by decide) (by decide) (by decide)) (Toks.p 123 _ _ (by decide) (by decide) (by decide) ih)

theorem toks_end : Toks [41, 125] [P 41, P 125] := Toks.p 41 _ _ (by decide) (by decide) (by decide) (Toks.p 125 _ _ (by decide) (by decide) (by decide) .nil)
theorem toks_body : Toks [41, 123, 97, 125] [P 41, P 123, I [97], P 125] :=
  Toks.p 41 _ _ (by decide) (by decide) (by decide) (Toks.p 123 _ _ (by decide) (by decide) (by decide) (toks_a _ _ (Stop.of 125 _ (by decide) (by decide) (by decide)) (Toks.p 125 _ _ (by decide) (by decide) (by decide) .nil)))

theorem toks_head (u : Bs) (ts : List Tok) (hu : Toks u ts) : Toks (123 :: 97 :: 40 :: 120 :: 58 :: u) (P 123 :: I [97] :: P 40 :: I [120] :: P 58 :: ts) :=
  Toks.p 123 _ _ (by decide) (by decide) (by decide) (toks_a _ _ (Stop.of 40 _ (by decide) (by decide) (by decide)) (Toks.p 40 _ _ (by decide) (by decide) (by decide)
    (Toks.w 120 [] _ _ (by decide) (by decide) (Stop.of 58 _ (by decide) (by decide) (by decide)) (Toks.p 58 _ _ (by decide) (by decide) (by decide) hu))))

theorem toks_query (u : Bs) (ts : List Tok) (hu : Toks u ts) : Toks (113 :: 117 :: 101 :: 114 :: 121 :: 40 :: 36 :: 97 :: 58 :: u) (I bQuery :: P 40 :: P 36 :: I [97] :: P 58 :: ts) :=
  Toks.w 113 [117, 101, 114, 121] _ _ (by decide) (by decide) (Stop.of 40 _ (by decide) (by decide) (by decide)) (Toks.p 40 _ _ (by decide) (by decide) (by decide) (Toks.p 36 _ _ (by decide) (by decide) (by decide)
    (toks_a _ _ (Stop.of 58 _ (by decide) (by decide) (by decide)) (Toks.p 58 _ _ (by decide) (by decide) (by decide) hu))))

theorem toks_int (u : Bs) (ts : List Tok) (hs : Stop u) (hu : Toks u ts) : Toks (73 :: 110 :: 116 :: u) (I [73, 110, 116] :: ts) := Toks.w 73 [110, 116] _ _ (by decide) (by decide) hs hu

/-- ████ the texts have the shapes' tokens -/
theorem text_toks (road m : Nat) : Toks (text road m) (shape road m) := by
  have h1 := toks_rep 125 m _ _ (by decide) (by decide) (by decide) toks_end
  have s1 : Stop (repB m [125] ++ [41, 125]) := stop_rep 125 m _ (by decide) (by decide) (by decide) (Stop.of 41 _ (by decide) (by decide) (by decide))
  have h2 : Toks (repB m [125] ++ [125]) (rep m [P 125] ++ [P 125]) := toks_rep 125 m _ _ (by decide) (by decide) (by decide) (Toks.p 125 _ _ (by decide) (by decide) (by decide) .nil)
  have s2 : Stop (repB m [125] ++ [125]) := stop_rep 125 m _ (by decide) (by decide) (by decide) (Stop.of 125 _ (by decide) (by decide) (by decide))
  have h3 : Toks (repB m [125] ++ []) (rep m [P 125] ++ []) := toks_rep 125 m _ _ (by decide) (by decide) (by decide) .nil
  have s3 : Stop (repB m [125] ++ []) := stop_rep 125 m _ (by decide) (by decide) (by decide) Stop.nil
  have h4 : Toks (repB m [93] ++ [41, 123, 97, 125]) (rep m [P 93] ++ [P 41, P 123, I [97], P 125]) := toks_rep 93 m _ _ (by decide) (by decide) (by decide) toks_body
  have s4 : Stop (repB m [93] ++ [41, 123, 97, 125]) := stop_rep 93 m _ (by decide) (by decide) (by decide) (Stop.of 41 _ (by decide) (by decide) (by decide))
  rcases road with _ | _ | _ | _ | _ | _ | _ | road
  · simpa [text, shape] using toks_head _ _ (toks_lists m _ _ toks_end)
  · simpa [text, shape] using toks_head _ _ (toks_objs m _ _ (Toks.one _ _ s1 h1))
  · simpa [text, shape] using (toks_sets m _ _ s3 h3).1
  · simpa [text, shape] using Toks.p 123 _ _ (by decide) (by decide) (by decide) (toks_dots m _ _ (toks_a _ _ s2 h2))
  · simpa [text, shape] using Toks.p 123 _ _ (by decide) (by decide) (by decide) (toks_ons m _ _ (toks_a _ _ s2 h2))
  · simpa [text, shape] using toks_query _ _ (toks_rep 91 m _ _ (by decide) (by decide) (by decide) (toks_int _ _ s4 h4))
  · simpa [text, shape] using toks_query _ _ (toks_int _ _ (Stop.of 61 _ (by decide) (by decide) (by decide)) (Toks.p 61 _ _ (by decide) (by decide) (by decide) (toks_lists m _ _ toks_body)))
  · have h : Toks (123 :: 97 :: 32 :: 64 :: 100 :: 40 :: 120 :: 58 :: (repB m [91] ++ (repB m [93] ++ [41, 125]))) (P 123 :: I [97] :: P 64 :: I [100] :: P 40 :: I [120] :: P 58 :: (rep m [P 91] ++ (rep m [P 93] ++ [P 41, P 125]))) :=
      Toks.p 123 _ _ (by decide) (by decide) (by decide) (toks_a _ _ (Stop.of 32 _ (by decide) (by decide) (by decide)) (Toks.blank 32 _ _ (by decide) (Toks.p 64 _ _ (by decide) (by decide) (by decide)
        (Toks.w 100 [] _ _ (by decide) (by decide) (Stop.of 40 _ (by decide) (by decide) (by decide)) (Toks.p 40 _ _ (by decide) (by decide) (by decide)
          (Toks.w 120 [] _ _ (by decide) (by decide) (Stop.of 58 _ (by decide) (by decide) (by decide)) (Toks.p 58 _ _ (by decide) (by decide) (by decide) (toks_lists m _ _ toks_end))))))))
    simpa [text, shape] using h

end Go.Proofs.YtobiaaabikfglaaGreatDoor.Pq
