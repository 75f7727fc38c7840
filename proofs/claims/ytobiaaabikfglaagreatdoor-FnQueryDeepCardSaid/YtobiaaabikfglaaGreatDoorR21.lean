/-
  The documents of package impl as plain data, and what the parser's trees become in them. No conditions.
-/
import Derived.Test.YtobiaaabikfglaaGreatDoorR01
import Derived.Test.YtobiaaabikfglaaGreatDoorR13
import Derived.Deep.AppendLies
namespace Go.Proofs.YtobiaaabikfglaaGreatDoor.Pq

inductive IVal where
  | mk (kind : Int) (s : Bs) (l : List IVal) (keys : List Bs)

inductive ITy where
  | mk (kind : Int) (name : Bs) (of_ : List ITy)

inductive IDir where
  | mk (name : Bs) (args : List (Bs × IVal × List IDir))

abbrev IArg := Bs × IVal × List IDir

structure IInp where
  name : Bs
  desc : Bs
  ty : ITy
  has : Bool
  dflt : IVal
  dirs : List IDir

inductive ISel where
  | mk (kind : Int) (alias name on : Bs) (args : List IArg) (dirs : List IDir) (l : List ISel)

structure IOp where
  kind : Int
  name : Bs
  desc : Bs
  vars : List IInp
  dirs : List IDir
  sels : List ISel

structure IFrag where
  name : Bs
  on : Bs
  desc : Bs
  dirs : List IDir
  sels : List ISel

structure IDoc where
  ops : List IOp
  frags : List IFrag

def bTrue : Bs := [116, 114, 117, 101]
def bFalse : Bs := [102, 97, 108, 115, 101]

def IVal.zero : IVal := .mk 0 [] [] []

/-- a plain value by its token's kind and text (no strings) -/
def cPrim (k : Int) (s : Bs) : IVal :=
  if k = -3 then .mk 2 s [] []
  else if k = -4 then .mk 3 s [] []
  else if k = -2 ∧ s.head? ≠ some 45 then (if s = bTrue ∨ s = bFalse then .mk 5 s [] [] else .mk 6 s [] [])
  else .mk 10 s [] []

def keysOf : List (Bs × Val) → List Bs
  | [] => []
  | (n, _) :: fs => n :: keysOf fs

mutual
def cVal : Val → IVal
  | .null => .mk 1 [] [] []
  | .prim k s => cPrim k s
  | .var s => .mk 9 s [] []
  | .list vs => .mk 7 [] (cVals vs) []
  | .obj fs => .mk 8 [] (cFs fs) (keysOf fs)
def cVals : List Val → List IVal
  | [] => []
  | v :: vs => cVal v :: cVals vs
def cFs : List (Bs × Val) → List IVal
  | [] => []
  | (_, v) :: fs => cVal v :: cFs fs
end

def cTy : Ty → ITy
  | .named n => .mk 1 n []
  | .list t => .mk 2 [] [cTy t]
  | .nonnull t => .mk 3 [] [cTy t]

mutual
def cDir : Dir → IDir
  | .mk n gs => .mk n (cArgs gs)
def cDirs : List Dir → List IDir
  | [] => []
  | d :: ds => cDir d :: cDirs ds
def cArgs : List (Bs × Val × List Dir) → List IArg
  | [] => []
  | (n, v, ds) :: gs => (n, cVal v, cDirs ds) :: cArgs gs
end

def cInp (i : Inp) : IInp := ⟨i.name, [], cTy i.ty, i.dflt.isSome, match i.dflt with | none => .zero | some v => cVal v, cDirs i.dirs⟩

mutual
def cSel : Sel → ISel
  | .field a n gs ds ss => .mk 1 a n [] (cArgs gs) (cDirs ds) (cSels ss)
  | .spread n ds => .mk 2 [] n [] [] (cDirs ds) []
  | .inline on ds ss => .mk 3 [] [] (on.getD []) [] (cDirs ds) (cSels ss)
def cSels : List Sel → List ISel
  | [] => []
  | s :: ss => cSel s :: cSels ss
end

def cOp (o : Op) : IOp := ⟨if o.kind = 2 then 2 else if o.kind = 3 then 3 else 1, o.name, [], o.vars.map cInp, cDirs o.dirs, cSels o.sels⟩
def cFrag (f : Frag) : IFrag := ⟨f.name, f.on, [], cDirs f.dirs, cSels f.sels⟩
def cDoc (d : Doc) : IDoc := ⟨d.ops.map cOp, d.frags.map cFrag⟩

theorem cVals_length : ∀ l : List Val, (cVals l).length = l.length
  | [] => rfl
  | _ :: l => by simp [cVals, cVals_length l]
theorem cFs_length : ∀ l : List (Bs × Val), (cFs l).length = l.length
  | [] => rfl
  | _ :: l => by simp [cFs, cFs_length l]
theorem keysOf_length : ∀ l : List (Bs × Val), (keysOf l).length = l.length
  | [] => rfl
  | _ :: l => by simp [keysOf, keysOf_length l]
theorem cDirs_length : ∀ l : List Dir, (cDirs l).length = l.length
  | [] => rfl
  | _ :: l => by simp [cDirs, cDirs_length l]
theorem cArgs_length : ∀ l : List (Bs × Val × List Dir), (cArgs l).length = l.length
  | [] => rfl
  | _ :: l => by simp [cArgs, cArgs_length l]
theorem cSels_length : ∀ l : List Sel, (cSels l).length = l.length
  | [] => rfl
  | _ :: l => by simp [cSels, cSels_length l]

/-! ### how long the lists of a tree are: at most K -/

mutual
def VSm (K : Nat) : Val → Prop
  | .prim k _ => k ≠ -6
  | .list vs => vs.length ≤ K ∧ VsSm K vs
  | .obj fs => fs.length ≤ K ∧ FsSm K fs
  | _ => True
def VsSm (K : Nat) : List Val → Prop
  | [] => True
  | v :: vs => VSm K v ∧ VsSm K vs
def FsSm (K : Nat) : List (Bs × Val) → Prop
  | [] => True
  | (_, v) :: fs => VSm K v ∧ FsSm K fs
end

mutual
def DSm (K : Nat) : Dir → Prop
  | .mk _ gs => gs.length ≤ K ∧ AsSm K gs
def DsSm (K : Nat) : List Dir → Prop
  | [] => True
  | d :: ds => DSm K d ∧ DsSm K ds
def AsSm (K : Nat) : List (Bs × Val × List Dir) → Prop
  | [] => True
  | (_, v, ds) :: gs => VSm K v ∧ ds.length ≤ K ∧ DsSm K ds ∧ AsSm K gs
end

def InpSm (K : Nat) (i : Inp) : Prop := (∀ v, i.dflt = some v → VSm K v) ∧ i.dirs.length ≤ K ∧ DsSm K i.dirs

mutual
def SelSm (K : Nat) : Sel → Prop
  | .field _ _ gs ds ss => gs.length ≤ K ∧ AsSm K gs ∧ ds.length ≤ K ∧ DsSm K ds ∧ ss.length ≤ K ∧ SelsSm K ss
  | .spread _ ds => ds.length ≤ K ∧ DsSm K ds
  | .inline _ ds ss => ds.length ≤ K ∧ DsSm K ds ∧ ss.length ≤ K ∧ SelsSm K ss
def SelsSm (K : Nat) : List Sel → Prop
  | [] => True
  | s :: ss => SelSm K s ∧ SelsSm K ss
end

def OpSm (K : Nat) (o : Op) : Prop := o.vars.length ≤ K ∧ (∀ i ∈ o.vars, InpSm K i) ∧ o.dirs.length ≤ K ∧ DsSm K o.dirs ∧ o.sels.length ≤ K ∧ SelsSm K o.sels
def FragSm (K : Nat) (f : Frag) : Prop := f.dirs.length ≤ K ∧ DsSm K f.dirs ∧ f.sels.length ≤ K ∧ SelsSm K f.sels
def DocSm (K : Nat) (d : Doc) : Prop := d.ops.length ≤ K ∧ (∀ o ∈ d.ops, OpSm K o) ∧ d.frags.length ≤ K ∧ (∀ f ∈ d.frags, FragSm K f)

theorem VsSm.snoc {K : Nat} {v : Val} (hv : VSm K v) : ∀ l : List Val, VsSm K l → VsSm K (l ++ [v])
  | [], _ => ⟨hv, trivial⟩
  | _ :: l, h => ⟨h.1, VsSm.snoc hv l h.2⟩
theorem FsSm.snoc {K : Nat} {n : Bs} {v : Val} (hv : VSm K v) : ∀ l : List (Bs × Val), FsSm K l → FsSm K (l ++ [(n, v)])
  | [], _ => ⟨hv, trivial⟩
  | (_, _) :: l, h => ⟨h.1, FsSm.snoc hv l h.2⟩
theorem DsSm.snoc {K : Nat} {v : Dir} (hv : DSm K v) : ∀ l : List Dir, DsSm K l → DsSm K (l ++ [v])
  | [], _ => ⟨hv, trivial⟩
  | _ :: l, h => ⟨h.1, DsSm.snoc hv l h.2⟩
theorem AsSm.snoc {K : Nat} {n : Bs} {v : Val} {ds : List Dir} (hv : VSm K v) (h1 : ds.length ≤ K) (h2 : DsSm K ds) : ∀ l : List (Bs × Val × List Dir), AsSm K l → AsSm K (l ++ [(n, v, ds)])
  | [], _ => ⟨hv, h1, h2, trivial⟩
  | (_, _, _) :: l, h => ⟨h.1, h.2.1, h.2.2.1, AsSm.snoc hv h1 h2 l h.2.2.2⟩
theorem SelsSm.snoc {K : Nat} {v : Sel} (hv : SelSm K v) : ∀ l : List Sel, SelsSm K l → SelsSm K (l ++ [v])
  | [], _ => ⟨hv, trivial⟩
  | _ :: l, h => ⟨h.1, SelsSm.snoc hv l h.2⟩

theorem Res.bind_ok {α β : Type} {x : Res α} {g : α → Res β} {b : β} (h : x.bind g = .ok b) : ∃ a, x = .ok a ∧ g a = .ok b := by
  cases x with
  | ok a => exact ⟨a, rfl, h⟩
  | err => cases h
  | unk => cases h

theorem val_sm (K : Nat) : ∀ f,
    (∀ c d ts p, f ≤ K → pVal f c d ts = .ok p → VSm K p.1) ∧
    (∀ c d ts acc p, acc.length + f ≤ K → VsSm K acc → pVals f c d ts acc = .ok p → p.1.length ≤ K ∧ VsSm K p.1) ∧
    (∀ c d ts acc p, acc.length + f ≤ K → FsSm K acc → pFields f c d ts acc = .ok p → p.1.length ≤ K ∧ FsSm K p.1)
  | 0 => ⟨(fun c d ts p _ h => by rw [pVal] at h; cases h), (fun c d ts acc p _ _ h => by rw [pVals] at h; cases h), (fun c d ts acc p _ _ h => by rw [pFields] at h; cases h)⟩
  | f + 1 => by
    obtain ⟨i1, i2, i3⟩ := val_sm K f
    refine ⟨fun c d ts p hf h => ?_, fun c d ts acc p hf ha h => ?_, fun c d ts acc p hf ha h => ?_⟩
    · rw [pVal] at h
      by_cases h1 : (cur ts).kind = 36
      · simp only [h1, if_true] at h
        split at h
        · cases h
        · obtain ⟨a, _, h⟩ := Res.bind_ok h
          cases h; trivial
      by_cases h2 : (cur ts).kind = -3 ∨ (cur ts).kind = -4
      · simp only [if_neg h1, if_pos h2] at h
        cases h
        show _ ≠ _; omega
      by_cases h3 : (cur ts).kind = -2
      · simp only [if_neg h1, if_neg h2, if_pos h3] at h
        cases h
        show VSm K (if _ then _ else _)
        split
        · trivial
        · show _ ≠ _; omega
      by_cases h4 : (cur ts).kind = -6
      · simp only [if_neg h1, if_neg h2, if_neg h3, if_pos h4] at h
        cases h
      by_cases h5 : (cur ts).kind = 45
      · simp only [if_neg h1, if_neg h2, if_neg h3, if_neg h4, if_pos h5] at h
        split at h
        · cases h
        · rename_i h6
          cases h
          exact h6
      by_cases h6 : (cur ts).kind = 91
      · simp only [if_neg h1, if_neg h2, if_neg h3, if_neg h4, if_neg h5, if_pos h6] at h
        split at h
        · cases h
        · obtain ⟨a, ha, h⟩ := Res.bind_ok h
          cases h
          exact i2 _ _ _ [] _ (by simp; omega) trivial ha
      by_cases h7 : (cur ts).kind = 123
      · simp only [if_neg h1, if_neg h2, if_neg h3, if_neg h4, if_neg h5, if_neg h6, if_pos h7] at h
        split at h
        · cases h
        · obtain ⟨a, ha, h⟩ := Res.bind_ok h
          cases h
          exact i3 _ _ _ [] _ (by simp; omega) trivial ha
      simp only [if_neg h1, if_neg h2, if_neg h3, if_neg h4, if_neg h5, if_neg h6, if_neg h7] at h
      cases h
    · rw [pVals] at h
      split at h
      · cases h; exact ⟨by show acc.length ≤ K; omega, ha⟩
      · obtain ⟨a, h1, h⟩ := Res.bind_ok h
        exact i2 _ _ _ _ _ (by simp; omega) (VsSm.snoc (i1 _ _ _ _ (by omega) h1) _ ha) h
    · rw [pFields] at h
      split at h
      · cases h; exact ⟨by show acc.length ≤ K; omega, ha⟩
      · obtain ⟨n, _, h⟩ := Res.bind_ok h
        obtain ⟨t1, _, h⟩ := Res.bind_ok h
        obtain ⟨a, h1, h⟩ := Res.bind_ok h
        exact i3 _ _ _ _ _ (by simp; omega) (FsSm.snoc (i1 _ _ _ _ (by omega) h1) _ ha) h

theorem dirs_sm (K : Nat) : ∀ f,
    (∀ d ts acc p, acc.length + f ≤ K → DsSm K acc → pDirs f d ts acc = .ok p → p.1.length ≤ K ∧ DsSm K p.1) ∧
    (∀ d ts acc p, acc.length + f ≤ K → AsSm K acc → pArgs f d ts acc = .ok p → p.1.length ≤ K ∧ AsSm K p.1)
  | 0 => ⟨(fun d ts acc p _ _ h => by rw [pDirs] at h; cases h), (fun d ts acc p _ _ h => by rw [pArgs] at h; cases h)⟩
  | f + 1 => by
    obtain ⟨i1, i2⟩ := dirs_sm K f
    refine ⟨fun d ts acc p hf ha h => ?_, fun d ts acc p hf ha h => ?_⟩
    · rw [pDirs] at h
      split at h
      · obtain ⟨n, _, h⟩ := Res.bind_ok h
        split at h
        · obtain ⟨a, h1, h⟩ := Res.bind_ok h
          exact i1 _ _ _ _ (by simp; omega) (DsSm.snoc (v := .mk _ _) (i2 _ _ [] _ (by simp; omega) trivial h1) _ ha) h
        · exact i1 _ _ _ _ (by simp; omega) (DsSm.snoc (v := .mk _ []) (show _ ∧ _ from ⟨Nat.zero_le _, trivial⟩) _ ha) h
      · cases h; exact ⟨by show acc.length ≤ K; omega, ha⟩
    · rw [pArgs] at h
      split at h
      · cases h; exact ⟨by show acc.length ≤ K; omega, ha⟩
      · obtain ⟨n, _, h⟩ := Res.bind_ok h
        obtain ⟨t1, _, h⟩ := Res.bind_ok h
        obtain ⟨v, h1, h⟩ := Res.bind_ok h
        obtain ⟨q, h2, h⟩ := Res.bind_ok h
        have hq := i1 _ _ [] _ (by simp; omega) trivial h2
        exact i2 _ _ _ _ (by simp; omega) (AsSm.snoc ((val_sm K f).1 _ _ _ _ (by omega) h1) hq.1 hq.2 _ ha) h

theorem dirs_sm0 {K f d : Nat} {ts : List Tok} {p : List Dir × List Tok} (hf : f ≤ K) (h : pDirs f d ts [] = .ok p) : p.1.length ≤ K ∧ DsSm K p.1 := (dirs_sm K f).1 _ _ [] _ (by simpa using hf) trivial h

theorem argsOpt_sm {K f d : Nat} {ts : List Tok} {p : List Arg × List Tok} (hf : f ≤ K) (h : pArgsOpt f d ts = .ok p) : p.1.length ≤ K ∧ AsSm K p.1 := by
  unfold pArgsOpt at h
  split at h
  · exact (dirs_sm K f).2 _ _ [] _ (by simpa using hf) trivial h
  · cases h; exact ⟨Nat.zero_le _, trivial⟩

theorem sels_sm (K : Nat) : ∀ f,
    (∀ d ts p, f + 1 ≤ K → pSet f d ts = .ok p → p.1.length ≤ K ∧ SelsSm K p.1) ∧
    (∀ d ts acc p, acc.length + f ≤ K → SelsSm K acc → pSels f d ts acc = .ok p → p.1.length ≤ K ∧ SelsSm K p.1) ∧
    (∀ d ts p, f + 1 ≤ K → pSel f d ts = .ok p → SelSm K p.1)
  | 0 => ⟨(fun d ts p _ h => by rw [pSet] at h; cases h), (fun d ts acc p _ _ h => by rw [pSels] at h; cases h), (fun d ts p _ h => by rw [pSel] at h; cases h)⟩
  | f + 1 => by
    obtain ⟨i1, i2, i3⟩ := sels_sm K f
    refine ⟨fun d ts p hf h => ?_, fun d ts acc p hf ha h => ?_, fun d ts p hf h => ?_⟩
    · rw [pSet] at h
      split at h
      · cases h
      · obtain ⟨t1, _, h⟩ := Res.bind_ok h
        obtain ⟨a, h1, h⟩ := Res.bind_ok h
        exact i2 _ _ [_] _ (by simp; omega) (show _ ∧ _ from ⟨i3 _ _ _ (by omega) h1, trivial⟩) h
    · rw [pSels] at h
      split at h
      · cases h; exact ⟨by show acc.length ≤ K; omega, ha⟩
      · obtain ⟨a, h1, h⟩ := Res.bind_ok h
        by_cases h0 : f = 0
        · subst h0; rw [pSel] at h1; cases h1
        · exact i2 _ _ _ _ (by simp; omega) (SelsSm.snoc (i3 _ _ _ (by omega) h1) _ ha) h
    · rw [pSel] at h
      split at h
      · obtain ⟨t1, _, h⟩ := Res.bind_ok h
        obtain ⟨t2, _, h⟩ := Res.bind_ok h
        split at h
        · split at h
          · obtain ⟨n, _, h⟩ := Res.bind_ok h
            obtain ⟨q, h2, h⟩ := Res.bind_ok h
            obtain ⟨a, h3, h⟩ := Res.bind_ok h
            cases h
            have hq := dirs_sm0 (K := K) (by omega) h2
            have hs := i1 _ _ _ (by omega) h3
            exact ⟨hq.1, hq.2, hs.1, hs.2⟩
          · obtain ⟨q, h2, h⟩ := Res.bind_ok h
            cases h
            exact dirs_sm0 (K := K) (by omega) h2
        · obtain ⟨q, h2, h⟩ := Res.bind_ok h
          obtain ⟨a, h3, h⟩ := Res.bind_ok h
          cases h
          have hq := dirs_sm0 (K := K) (by omega) h2
          have hs := i1 _ _ _ (by omega) h3
          exact ⟨hq.1, hq.2, hs.1, hs.2⟩
      · obtain ⟨a, _, h⟩ := Res.bind_ok h
        obtain ⟨n, _, h⟩ := Res.bind_ok h
        obtain ⟨g, h1, h⟩ := Res.bind_ok h
        obtain ⟨q, h2, h⟩ := Res.bind_ok h
        have hg := argsOpt_sm (K := K) (by omega) h1
        have hq := dirs_sm0 (K := K) (by omega) h2
        split at h
        · obtain ⟨b, h3, h⟩ := Res.bind_ok h
          cases h
          have hs := i1 _ _ _ (by omega) h3
          exact ⟨hg.1, hg.2, hq.1, hq.2, hs.1, hs.2⟩
        · cases h
          exact ⟨hg.1, hg.2, hq.1, hq.2, Nat.zero_le _, trivial⟩

theorem inp_sm {K f d : Nat} {ts : List Tok} {p : Inp × List Tok} (hf : f ≤ K) (h : pInp f d ts = .ok p) : InpSm K p.1 := by
  unfold pInp at h
  obtain ⟨n, _, h⟩ := Res.bind_ok h
  obtain ⟨t1, _, h⟩ := Res.bind_ok h
  obtain ⟨t, _, h⟩ := Res.bind_ok h
  obtain ⟨v, h1, h⟩ := Res.bind_ok h
  obtain ⟨q, h2, h⟩ := Res.bind_ok h
  cases h
  have hq := dirs_sm0 (K := K) hf h2
  refine ⟨fun u hu => ?_, hq.1, hq.2⟩
  split at h1
  · obtain ⟨a, h3, h1⟩ := Res.bind_ok h1
    cases h1
    cases hu
    exact (val_sm K f).1 _ _ _ _ hf h3
  · cases h1; cases hu

theorem inps_sm (K : Nat) : ∀ f d ts acc p, acc.length + f ≤ K → (∀ i ∈ acc, InpSm K i) → pInps f d ts acc = .ok p → p.1.length ≤ K ∧ ∀ i ∈ p.1, InpSm K i
  | 0, d, ts, acc, p, _, _, h => by rw [pInps] at h; cases h
  | f + 1, d, ts, acc, p, hf, ha, h => by
    rw [pInps] at h
    split at h
    · cases h; exact ⟨by show acc.length ≤ K; omega, ha⟩
    · split at h
      · cases h
      · obtain ⟨t1, _, h⟩ := Res.bind_ok h
        obtain ⟨a, h1, h⟩ := Res.bind_ok h
        refine inps_sm K f _ _ _ _ (by simp; omega) (fun i hi => ?_) h
        simp at hi
        rcases hi with hi | rfl
        · exact ha i hi
        · exact inp_sm (by omega) h1

theorem op_sm {K f kind : Nat} {ts : List Tok} {p : Op × List Tok} (hf : f + 1 ≤ K) (h : pOp f kind ts = .ok p) : OpSm K p.1 := by
  unfold pOp at h
  obtain ⟨n, _, h⟩ := Res.bind_ok h
  obtain ⟨v, h1, h⟩ := Res.bind_ok h
  obtain ⟨q, h2, h⟩ := Res.bind_ok h
  obtain ⟨a, h3, h⟩ := Res.bind_ok h
  cases h
  have hq := dirs_sm0 (K := K) (by omega) h2
  have hs := (sels_sm K f).1 _ _ _ hf h3
  have hv : v.1.length ≤ K ∧ ∀ i ∈ v.1, InpSm K i := by
    split at h1
    · exact inps_sm K f _ _ _ _ (by simp; omega) (by simp) h1
    · cases h1; exact ⟨Nat.zero_le _, by simp⟩
  exact ⟨hv.1, hv.2, hq.1, hq.2, hs.1, hs.2⟩

theorem frag_sm {K f : Nat} {ts : List Tok} {p : Frag × List Tok} (hf : f + 1 ≤ K) (h : pFrag f ts = .ok p) : FragSm K p.1 := by
  unfold pFrag at h
  obtain ⟨n, _, h⟩ := Res.bind_ok h
  obtain ⟨t1, _, h⟩ := Res.bind_ok h
  obtain ⟨o, _, h⟩ := Res.bind_ok h
  obtain ⟨q, h2, h⟩ := Res.bind_ok h
  obtain ⟨a, h3, h⟩ := Res.bind_ok h
  cases h
  have hq := dirs_sm0 (K := K) (by omega) h2
  have hs := (sels_sm K f).1 _ _ _ hf h3
  exact ⟨hq.1, hq.2, hs.1, hs.2⟩

theorem doc_sm (K : Nat) : ∀ f ts acc p, acc.ops.length + f + 1 ≤ K → acc.frags.length + f + 1 ≤ K → (∀ o ∈ acc.ops, OpSm K o) → (∀ o ∈ acc.frags, FragSm K o) → pDoc f ts acc = .ok p → DocSm K p
  | 0, ts, acc, p, _, _, _, _, h => by rw [pDoc] at h; cases h
  | f + 1, ts, acc, p, h1, h2, h3, h4, h => by
    have op : ∀ (o : Op) ts', OpSm K o → pDoc f ts' ⟨acc.ops ++ [o], acc.frags⟩ = .ok p → DocSm K p := fun o ts' ho h' =>
      doc_sm K f ts' ⟨acc.ops ++ [o], acc.frags⟩ p (by simp; omega) (by show acc.frags.length + f + 1 ≤ K; omega) (fun x hx => by simp at hx; rcases hx with hx | rfl; exact h3 x hx; exact ho) h4 h'
    have fr : ∀ (o : Frag) ts', FragSm K o → pDoc f ts' ⟨acc.ops, acc.frags ++ [o]⟩ = .ok p → DocSm K p := fun o ts' ho h' =>
      doc_sm K f ts' ⟨acc.ops, acc.frags ++ [o]⟩ p (by show acc.ops.length + f + 1 ≤ K; omega) (by simp; omega) h3 (fun x hx => by simp at hx; rcases hx with hx | rfl; exact h4 x hx; exact ho) h'
    rw [pDoc] at h
    by_cases c1 : (cur ts).kind = -1
    · simp only [if_pos c1] at h
      cases h; exact ⟨by omega, h3, by omega, h4⟩
    by_cases c2 : (cur ts).kind = -6
    · simp only [if_neg c1, if_pos c2] at h
      cases h
    by_cases c3 : (cur ts).kind = 123
    · simp only [if_neg c1, if_neg c2, if_pos c3] at h
      obtain ⟨a, k1, h⟩ := Res.bind_ok h
      have hs := (sels_sm K f).1 _ _ _ (by omega) k1
      exact op ⟨1, [], [], [], a.1⟩ _ (show _ ∧ _ ∧ _ ∧ _ ∧ _ ∧ _ from ⟨Nat.zero_le _, by simp, Nat.zero_le _, trivial, hs.1, hs.2⟩) h
    simp only [if_neg c1, if_neg c2, if_neg c3] at h
    obtain ⟨x, _, h⟩ := Res.bind_ok h
    split at h
    · obtain ⟨a, k1, h⟩ := Res.bind_ok h
      exact op _ _ (op_sm (by omega) k1) h
    split at h
    · obtain ⟨a, k1, h⟩ := Res.bind_ok h
      exact op _ _ (op_sm (by omega) k1) h
    split at h
    · obtain ⟨a, k1, h⟩ := Res.bind_ok h
      exact op _ _ (op_sm (by omega) k1) h
    split at h
    · obtain ⟨a, k1, h⟩ := Res.bind_ok h
      exact fr _ _ (frag_sm (by omega) k1) h
    · cases h

theorem doc_small {K f : Nat} {ts : List Tok} {p : Doc} (hf : f + 1 ≤ K) (h : pDoc f ts ⟨[], []⟩ = .ok p) : DocSm K p := doc_sm K f ts ⟨[], []⟩ p (by simpa using hf) (by simpa using hf) (by simp) (by simp) h

end Go.Proofs.YtobiaaabikfglaaGreatDoor.Pq

/-
  impl's documents in memory: how they read, how lists of them grow. No conditions.
-/
namespace Go.Proofs.YtobiaaabikfglaaGreatDoor
open Go.RowKit Go.Proofs.YtobiaaabikfglaaGreatDoor.Pq Go.Lib

/-- which cells hold what: block, place, value -/
abbrev Ck := Nat → Nat → Value → Prop

/-- a slice of n values of so many cells each -/
def RowAt (C : Ck) (size : Nat) (sl : Value) (n : Nat) (xs : List Value) : Prop :=
  ∃ a cap, sl = .slice a n cap ∧ n ≤ cap ∧ cap ≤ maxLen ∧ xs.length = n * size ∧ (n = 0 ∨ ∃ T off, a = some ⟨T, off, none⟩ ∧ ∀ j v, xs[j]? = some v → C T (off + j) v)

theorem RowAt.mono {C C' : Ck} (h : ∀ b i v, C b i v → C' b i v) {size : Nat} {sl : Value} {n : Nat} {xs : List Value} (k : RowAt C size sl n xs) : RowAt C' size sl n xs := by
  obtain ⟨a, cap, h1, h2, h3, h4, h5⟩ := k
  refine ⟨a, cap, h1, h2, h3, h4, ?_⟩
  rcases h5 with h5 | ⟨T, off, h5, h6⟩
  · exact .inl h5
  · exact .inr ⟨T, off, h5, fun j v hj => h _ _ _ (h6 j v hj)⟩

theorem RowAt.nil {C : Ck} (size : Nat) : RowAt C size (.slice none 0 0) 0 [] := ⟨none, 0, rfl, Nat.le_refl _, Nat.zero_le _, by simp, .inl rfl⟩

mutual
def IvAt (C : Ck) : IVal → List Value → Prop
  | .mk k s l ks, cs => ∃ sl xs sk, cs = [numV k, str s, sl, sk] ∧ RowAt C 4 sl l.length xs ∧ IvsAt C l xs ∧ RowAt C 1 sk ks.length (ks.map str)
def IvsAt (C : Ck) : List IVal → List Value → Prop
  | [], xs => xs = []
  | v :: vs, xs => ∃ c ys, xs = c ++ ys ∧ IvAt C v c ∧ IvsAt C vs ys
end

mutual
def ItAt (C : Ck) : ITy → List Value → Prop
  | .mk k s l, cs => ∃ sl xs, cs = [numV k, str s, sl] ∧ RowAt C 3 sl l.length xs ∧ ItsAt C l xs
def ItsAt (C : Ck) : List ITy → List Value → Prop
  | [], xs => xs = []
  | v :: vs, xs => ∃ c ys, xs = c ++ ys ∧ ItAt C v c ∧ ItsAt C vs ys
end

mutual
def IdAt (C : Ck) : IDir → List Value → Prop
  | .mk n gs, cs => ∃ sl xs, cs = [str n, sl] ∧ RowAt C 6 sl gs.length xs ∧ IasAt C gs xs
def IdsAt (C : Ck) : List IDir → List Value → Prop
  | [], xs => xs = []
  | v :: vs, xs => ∃ c ys, xs = c ++ ys ∧ IdAt C v c ∧ IdsAt C vs ys
def IasAt (C : Ck) : List (Bs × IVal × List IDir) → List Value → Prop
  | [], xs => xs = []
  | (n, v, ds) :: gs, xs => ∃ c sl zs ys, xs = (str n :: c ++ [sl]) ++ ys ∧ IvAt C v c ∧ RowAt C 2 sl ds.length zs ∧ IdsAt C ds zs ∧ IasAt C gs ys
end

/-- a slice of directives, of arguments -/
def IdlAt (C : Ck) (ds : List IDir) (sl : Value) : Prop := ∃ xs, RowAt C 2 sl ds.length xs ∧ IdsAt C ds xs
def IalAt (C : Ck) (gs : List IArg) (sl : Value) : Prop := ∃ xs, RowAt C 6 sl gs.length xs ∧ IasAt C gs xs

mutual
def IsAt (C : Ck) : ISel → List Value → Prop
  | .mk k a n on gs ds ss, cs => ∃ sg xg sd xd sl xs, cs = [numV k, str a, str n, str on, sg, sd, sl] ∧ RowAt C 6 sg gs.length xg ∧ IasAt C gs xg ∧ RowAt C 2 sd ds.length xd ∧ IdsAt C ds xd ∧ RowAt C 7 sl ss.length xs ∧ IssAt C ss xs
def IssAt (C : Ck) : List ISel → List Value → Prop
  | [], xs => xs = []
  | v :: vs, xs => ∃ c ys, xs = c ++ ys ∧ IsAt C v c ∧ IssAt C vs ys
end
def IslAt (C : Ck) (ss : List ISel) (sl : Value) : Prop := ∃ xs, RowAt C 7 sl ss.length xs ∧ IssAt C ss xs

def IiAt (C : Ck) (i : IInp) (cs : List Value) : Prop := ∃ ct cv sd, cs = str i.name :: str i.desc :: ct ++ .bool i.has :: cv ++ [sd] ∧ ItAt C i.ty ct ∧ IvAt C i.dflt cv ∧ IdlAt C i.dirs sd
def IisAt (C : Ck) : List IInp → List Value → Prop
  | [], xs => xs = []
  | v :: vs, xs => ∃ c ys, xs = c ++ ys ∧ IiAt C v c ∧ IisAt C vs ys
def IilAt (C : Ck) (is : List IInp) (sl : Value) : Prop := ∃ xs, RowAt C 11 sl is.length xs ∧ IisAt C is xs

def IoAt (C : Ck) (o : IOp) (cs : List Value) : Prop := ∃ sv sd sl, cs = [numV o.kind, str o.name, str o.desc, sv, sd, sl] ∧ IilAt C o.vars sv ∧ IdlAt C o.dirs sd ∧ IslAt C o.sels sl
def IosAt (C : Ck) : List IOp → List Value → Prop
  | [], xs => xs = []
  | v :: vs, xs => ∃ c ys, xs = c ++ ys ∧ IoAt C v c ∧ IosAt C vs ys
def IfAt (C : Ck) (f : IFrag) (cs : List Value) : Prop := ∃ sd sl, cs = [str f.name, str f.on, str f.desc, sd, sl] ∧ IdlAt C f.dirs sd ∧ IslAt C f.sels sl
def IfsAt (C : Ck) : List IFrag → List Value → Prop
  | [], xs => xs = []
  | v :: vs, xs => ∃ c ys, xs = c ++ ys ∧ IfAt C v c ∧ IfsAt C vs ys
def IdocAt (C : Ck) (d : IDoc) (cs : List Value) : Prop := ∃ so xo sf xf, cs = [so, sf] ∧ RowAt C 6 so d.ops.length xo ∧ IosAt C d.ops xo ∧ RowAt C 5 sf d.frags.length xf ∧ IfsAt C d.frags xf

section
variable {C C' : Ck} (h : ∀ b i v, C b i v → C' b i v)
include h
mutual
theorem IvAt.mono : ∀ (v : IVal) (x : List Value), IvAt C v x → IvAt C' v x
  | .mk _k _s l _ks, _x => fun ⟨sl, xs, sk, h1, h2, h3, h4⟩ => ⟨sl, xs, sk, h1, h2.mono h, IvsAt.mono l xs h3, h4.mono h⟩
theorem IvsAt.mono : ∀ (v : List IVal) (x : List Value), IvsAt C v x → IvsAt C' v x
  | [], _x => fun k => have _ := h; k
  | v :: vs, _x => fun ⟨c, ys, h1, h2, h3⟩ => ⟨c, ys, h1, IvAt.mono v c h2, IvsAt.mono vs ys h3⟩
end
mutual
theorem ItAt.mono : ∀ (v : ITy) (x : List Value), ItAt C v x → ItAt C' v x
  | .mk _k _s l, _x => fun ⟨sl, xs, h1, h2, h3⟩ => ⟨sl, xs, h1, h2.mono h, ItsAt.mono l xs h3⟩
theorem ItsAt.mono : ∀ (v : List ITy) (x : List Value), ItsAt C v x → ItsAt C' v x
  | [], _x => fun k => have _ := h; k
  | v :: vs, _x => fun ⟨c, ys, h1, h2, h3⟩ => ⟨c, ys, h1, ItAt.mono v c h2, ItsAt.mono vs ys h3⟩
end
mutual
theorem IdAt.mono : ∀ (v : IDir) (x : List Value), IdAt C v x → IdAt C' v x
  | .mk _n gs, _x => fun ⟨sl, xs, h1, h2, h3⟩ => ⟨sl, xs, h1, h2.mono h, IasAt.mono gs xs h3⟩
theorem IdsAt.mono : ∀ (v : List IDir) (x : List Value), IdsAt C v x → IdsAt C' v x
  | [], _x => fun k => have _ := h; k
  | v :: vs, _x => fun ⟨c, ys, h1, h2, h3⟩ => ⟨c, ys, h1, IdAt.mono v c h2, IdsAt.mono vs ys h3⟩
theorem IasAt.mono : ∀ (v : List (Bs × IVal × List IDir)) (x : List Value), IasAt C v x → IasAt C' v x
  | [], _x => fun k => k
  | (_n, v, ds) :: gs, _x => fun ⟨c, sl, zs, ys, h1, h2, h3, h4, h5⟩ => ⟨c, sl, zs, ys, h1, IvAt.mono h v c h2, h3.mono h, IdsAt.mono ds zs h4, IasAt.mono gs ys h5⟩
end
theorem IdlAt.mono {ds : List IDir} {sl : Value} : IdlAt C ds sl → IdlAt C' ds sl := fun ⟨xs, h1, h2⟩ => ⟨xs, h1.mono h, IdsAt.mono h _ _ h2⟩
theorem IalAt.mono {ds : List IArg} {sl : Value} : IalAt C ds sl → IalAt C' ds sl := fun ⟨xs, h1, h2⟩ => ⟨xs, h1.mono h, IasAt.mono h _ _ h2⟩
mutual
theorem IsAt.mono : ∀ (v : ISel) (x : List Value), IsAt C v x → IsAt C' v x
  | .mk _k _a _n _on _gs _ds ss, _x => fun ⟨sg, xg, sd, xd, sl, xs, h1, h2, h3, h4, h5, h6, h7⟩ => ⟨sg, xg, sd, xd, sl, xs, h1, h2.mono h, IasAt.mono h _ _ h3, h4.mono h, IdsAt.mono h _ _ h5, h6.mono h, IssAt.mono ss xs h7⟩
theorem IssAt.mono : ∀ (v : List ISel) (x : List Value), IssAt C v x → IssAt C' v x
  | [], _x => fun k => have _ := h; k
  | v :: vs, _x => fun ⟨c, ys, h1, h2, h3⟩ => ⟨c, ys, h1, IsAt.mono v c h2, IssAt.mono vs ys h3⟩
end
theorem IslAt.mono {ds : List ISel} {sl : Value} : IslAt C ds sl → IslAt C' ds sl := fun ⟨xs, h1, h2⟩ => ⟨xs, h1.mono h, IssAt.mono h _ _ h2⟩
theorem IiAt.mono {i : IInp} {x : List Value} : IiAt C i x → IiAt C' i x := fun ⟨ct, cv, sd, h1, h2, h3, h4⟩ => ⟨ct, cv, sd, h1, ItAt.mono h _ _ h2, IvAt.mono h _ _ h3, h4.mono h⟩
theorem IisAt.mono : ∀ (v : List IInp) (x : List Value), IisAt C v x → IisAt C' v x
  | [], _x => fun k => k
  | _v :: vs, _x => fun ⟨c, ys, h1, h2, h3⟩ => ⟨c, ys, h1, h2.mono h, IisAt.mono vs ys h3⟩
theorem IilAt.mono {ds : List IInp} {sl : Value} : IilAt C ds sl → IilAt C' ds sl := fun ⟨xs, h1, h2⟩ => ⟨xs, h1.mono h, IisAt.mono h _ _ h2⟩
theorem IoAt.mono {o : IOp} {x : List Value} : IoAt C o x → IoAt C' o x := fun ⟨sv, sd, sl, h1, h2, h3, h4⟩ => ⟨sv, sd, sl, h1, h2.mono h, h3.mono h, h4.mono h⟩
theorem IosAt.mono : ∀ (v : List IOp) (x : List Value), IosAt C v x → IosAt C' v x
  | [], _x => fun k => k
  | _v :: vs, _x => fun ⟨c, ys, h1, h2, h3⟩ => ⟨c, ys, h1, h2.mono h, IosAt.mono vs ys h3⟩
theorem IfAt.mono {o : IFrag} {x : List Value} : IfAt C o x → IfAt C' o x := fun ⟨sd, sl, h1, h3, h4⟩ => ⟨sd, sl, h1, h3.mono h, h4.mono h⟩
theorem IfsAt.mono : ∀ (v : List IFrag) (x : List Value), IfsAt C v x → IfsAt C' v x
  | [], _x => fun k => k
  | _v :: vs, _x => fun ⟨c, ys, h1, h2, h3⟩ => ⟨c, ys, h1, h2.mono h, IfsAt.mono vs ys h3⟩
theorem IdocAt.mono {o : IDoc} {x : List Value} : IdocAt C o x → IdocAt C' o x := fun ⟨so, xo, sf, xf, h1, h2, h3, h4, h5⟩ => ⟨so, xo, sf, xf, h1, h2.mono h, IosAt.mono h _ _ h3, h4.mono h, IfsAt.mono h _ _ h5⟩
end

/-! ### one more at the end -/
section
variable {C : Ck}
theorem IvsAt.snoc {v : IVal} {c : List Value} (hv : IvAt C v c) : ∀ (vs : List IVal) (xs : List Value), IvsAt C vs xs → IvsAt C (vs ++ [v]) (xs ++ c)
  | [], xs => fun h => by
    have h : xs = [] := h
    subst h
    exact ⟨c, [], by simp, hv, rfl⟩
  | u :: us, xs => fun ⟨z, zs, h1, h2, h3⟩ => ⟨z, zs ++ c, by rw [h1]; simp, h2, IvsAt.snoc hv us zs h3⟩
theorem IdsAt.snoc {v : IDir} {c : List Value} (hv : IdAt C v c) : ∀ (vs : List IDir) (xs : List Value), IdsAt C vs xs → IdsAt C (vs ++ [v]) (xs ++ c)
  | [], xs => fun h => by
    have h : xs = [] := h
    subst h
    exact ⟨c, [], by simp, hv, rfl⟩
  | u :: us, xs => fun ⟨z, zs, h1, h2, h3⟩ => ⟨z, zs ++ c, by rw [h1]; simp, h2, IdsAt.snoc hv us zs h3⟩
theorem IasAt.snoc {n : Bs} {v : IVal} {ds : List IDir} {c : List Value} {sl : Value} (hv : IvAt C v c) (hd : IdlAt C ds sl) : ∀ (vs : List IArg) (xs : List Value), IasAt C vs xs → IasAt C (vs ++ [(n, v, ds)]) (xs ++ (str n :: c ++ [sl]))
  | [], xs => fun h => by
    have h : xs = [] := h
    subst h
    obtain ⟨zs, h1, h2⟩ := hd
    exact ⟨c, sl, zs, [], by simp, hv, h1, h2, rfl⟩
  | (m, u, es) :: us, xs => fun ⟨z, sl2, zs, ys, h1, h2, h3, h4, h5⟩ => ⟨z, sl2, zs, ys ++ (str n :: c ++ [sl]), by rw [h1]; simp, h2, h3, h4, IasAt.snoc hv hd us ys h5⟩
theorem IssAt.snoc {v : ISel} {c : List Value} (hv : IsAt C v c) : ∀ (vs : List ISel) (xs : List Value), IssAt C vs xs → IssAt C (vs ++ [v]) (xs ++ c)
  | [], xs => fun h => by
    have h : xs = [] := h
    subst h
    exact ⟨c, [], by simp, hv, rfl⟩
  | u :: us, xs => fun ⟨z, zs, h1, h2, h3⟩ => ⟨z, zs ++ c, by rw [h1]; simp, h2, IssAt.snoc hv us zs h3⟩
theorem IisAt.snoc {v : IInp} {c : List Value} (hv : IiAt C v c) : ∀ (vs : List IInp) (xs : List Value), IisAt C vs xs → IisAt C (vs ++ [v]) (xs ++ c)
  | [], xs => fun h => by
    have h : xs = [] := h
    subst h
    exact ⟨c, [], by simp, hv, rfl⟩
  | u :: us, xs => fun ⟨z, zs, h1, h2, h3⟩ => ⟨z, zs ++ c, by rw [h1]; simp, h2, IisAt.snoc hv us zs h3⟩
theorem IosAt.snoc {v : IOp} {c : List Value} (hv : IoAt C v c) : ∀ (vs : List IOp) (xs : List Value), IosAt C vs xs → IosAt C (vs ++ [v]) (xs ++ c)
  | [], xs => fun h => by
    have h : xs = [] := h
    subst h
    exact ⟨c, [], by simp, hv, rfl⟩
  | u :: us, xs => fun ⟨z, zs, h1, h2, h3⟩ => ⟨z, zs ++ c, by rw [h1]; simp, h2, IosAt.snoc hv us zs h3⟩
theorem IfsAt.snoc {v : IFrag} {c : List Value} (hv : IfAt C v c) : ∀ (vs : List IFrag) (xs : List Value), IfsAt C vs xs → IfsAt C (vs ++ [v]) (xs ++ c)
  | [], xs => fun h => by
    have h : xs = [] := h
    subst h
    exact ⟨c, [], by simp, hv, rfl⟩
  | u :: us, xs => fun ⟨z, zs, h1, h2, h3⟩ => ⟨z, zs ++ c, by rw [h1]; simp, h2, IfsAt.snoc hv us zs h3⟩

theorem IvAt.shape {v : IVal} {c : List Value} (h : IvAt C v c) : ∃ (k : Int) (s : Bs) (a1 : Option Addr) (l1 c1 : Nat) (a2 : Option Addr) (l2 c2 : Nat), c = [numV k, str s, .slice a1 l1 c1, .slice a2 l2 c2] := by
  cases v with
  | mk k s l ks =>
    obtain ⟨sl, xs, sk, h1, ⟨a1, c1, e1, _⟩, _, ⟨a2, c2, e2, _⟩⟩ := h
    subst e1 e2
    exact ⟨k, s, a1, _, c1, a2, _, c2, h1⟩
theorem ItAt.shape {v : ITy} {c : List Value} (h : ItAt C v c) : ∃ (k : Int) (s : Bs) (a1 : Option Addr) (l1 c1 : Nat), c = [numV k, str s, .slice a1 l1 c1] := by
  cases v with
  | mk k s l =>
    obtain ⟨sl, xs, h1, ⟨a1, c1, e1, _⟩, _⟩ := h
    subst e1
    exact ⟨k, s, a1, _, c1, h1⟩
theorem RowAt.shape {size : Nat} {sl : Value} {n : Nat} {xs : List Value} (h : RowAt C size sl n xs) : ∃ (a : Option Addr) (c : Nat), sl = .slice a n c := by
  obtain ⟨a, c, e, _⟩ := h
  exact ⟨a, c, e⟩
theorem IdlAt.shape {ds : List IDir} {sl : Value} (h : IdlAt C ds sl) : ∃ (a : Option Addr) (n c : Nat), sl = .slice a n c := by
  obtain ⟨xs, ⟨a, c, e, _⟩, _⟩ := h
  exact ⟨a, _, c, e⟩
theorem IalAt.shape {ds : List IArg} {sl : Value} (h : IalAt C ds sl) : ∃ (a : Option Addr) (n c : Nat), sl = .slice a n c := by
  obtain ⟨xs, ⟨a, c, e, _⟩, _⟩ := h
  exact ⟨a, _, c, e⟩
theorem IslAt.shape {ds : List ISel} {sl : Value} (h : IslAt C ds sl) : ∃ (a : Option Addr) (n c : Nat), sl = .slice a n c := by
  obtain ⟨xs, ⟨a, c, e, _⟩, _⟩ := h
  exact ⟨a, _, c, e⟩
theorem IilAt.shape {ds : List IInp} {sl : Value} (h : IilAt C ds sl) : ∃ (a : Option Addr) (n c : Nat), sl = .slice a n c := by
  obtain ⟨xs, ⟨a, c, e, _⟩, _⟩ := h
  exact ⟨a, _, c, e⟩
end

/-! ### new blocks -/

/-- the cells of the blocks from base on, but one -/
def CN (w : World) (base : Nat) (x : Option Nat) : Ck := fun b i v => base ≤ b ∧ some b ≠ x ∧ ∃ cs t, Bl w b cs t ∧ cs[i]? = some v

theorem CN.below {w w' : World} {base : Nat} {x : Option Nat} (h : Below w.heap.size w w') : ∀ b i v, CN w base x b i v → CN w' base x b i v :=
  fun _ _ _ ⟨h1, h2, cs, t, h3, h4⟩ => ⟨h1, h2, cs, t, h3.below h h3.lt, h4⟩
theorem CN.new {w : World} {base base' : Nat} {x : Option Nat} (hb : base ≤ base') (hx : ∀ k, x = some k → k < base') : ∀ b i v, CN w base' none b i v → CN w base x b i v :=
  fun _ _ _ ⟨h1, _, h3⟩ => ⟨Nat.le_trans hb h1, fun e => by have := hx _ e.symm; omega, h3⟩
theorem CN.step {W w' : World} {base : Nat} {x x' : Option Nat} (hg : W.grownBy w' x) (hf : ∀ k, x' = some k → x = some k ∨ W.heap.size ≤ k) : ∀ b i v, CN W base x b i v → CN w' base x' b i v :=
  fun _ _ _ ⟨h1, h2, cs, t, h3, h4⟩ => ⟨h1, fun e => by rcases hf _ e.symm with h | h; exact h2 h.symm; have := h3.lt; omega, cs, t, h3.grown hg h2, h4⟩
theorem CN.all {w : World} {base : Nat} {x : Option Nat} : ∀ b i v, CN w base x b i v → CN w base none b i v := fun _ _ _ h => ⟨h.1, by simp, h.2.2⟩
theorem CN.up {w : World} {base base' : Nat} {x : Option Nat} (h : base' ≤ base) : ∀ b i v, CN w base x b i v → CN w base' x b i v := fun _ _ _ k => ⟨Nat.le_trans h k.1, k.2⟩
theorem CN.put {w : World} {base D i0 : Nat} {x : Option Nat} {u : Value} (h : D < base) : ∀ b i v, CN w base x b i v → CN (w.setCell ⟨D, i0, none⟩ u) base x b i v :=
  fun _ _ _ ⟨h1, h2, cs, t, h3, h4⟩ => ⟨h1, h2, cs, t, h3.far (by simp; omega) _, h4⟩
theorem CN.cell {w : World} {base : Nat} {x : Option Nat} : ∀ b i v, CN w base x b i v → w.cell? ⟨b, i, none⟩ = some v :=
  fun _ _ _ ⟨_, _, cs, t, h3, h4⟩ => by rw [h3.cell]; exact h4

/-- a list under way -/
structure GrowsN (w : World) (base : Nat) (t : TypeId) (size : Nat) (v : Value) (n : Nat) (xs : List Value) : Prop where
  own : w.ownsRow base t size v n xs
  le : base ≤ w.heap.size

theorem GrowsN.nil (w : World) (t : TypeId) (size : Nat) : GrowsN w w.heap.size t size (.slice none 0 0) 0 [] := ⟨World.ownsRow_nil w _ t size, Nat.le_refl _⟩
theorem GrowsN.shape {w : World} {base : Nat} {t : TypeId} {size : Nat} {v : Value} {n : Nat} {xs : List Value} (h : GrowsN w base t size v n xs) : ∃ ao l c, v = .slice ao l c := by
  rcases h.own.2 with ⟨k1, _⟩ | ⟨g, cap, cur, h1, _⟩
  · exact ⟨_, _, _, k1⟩
  · exact ⟨_, _, _, h1⟩
theorem GrowsN.lt {w : World} {base : Nat} {t : TypeId} {size : Nat} {v : Value} {n : Nat} {xs : List Value} (h : GrowsN w base t size v n xs) : ∀ k, v.ownBlock = some k → k < w.heap.size ∧ base ≤ k := fun k hk => ⟨(h.own.lt k hk).2, (h.own.lt k hk).1⟩
theorem GrowsN.keep {w w' : World} {base : Nat} {t : TypeId} {size : Nat} {v : Value} {n : Nat} {xs : List Value} (h : GrowsN w base t size v n xs) (hk : ∀ b cs, v.ownBlock = some b → Bl w b cs t → Bl w' b cs t) (hz : w.heap.size ≤ w'.heap.size) : GrowsN w' base t size v n xs := by
  refine ⟨⟨h.own.1, ?_⟩, Nat.le_trans h.le hz⟩
  rcases h.own.2 with k | ⟨g, cap, cur, h1, h2, h3, h4⟩
  · exact .inl k
  · exact .inr ⟨g, cap, cur, h1, h2, hk g cur (by rw [h1]; rfl) h3, h4⟩
theorem GrowsN.below {w w' : World} {base : Nat} {t : TypeId} {size : Nat} {v : Value} {n : Nat} {xs : List Value} (h : GrowsN w base t size v n xs) (hb : Below w.heap.size w w') : GrowsN w' base t size v n xs :=
  h.keep (fun _ _ _ k => k.below hb k.lt) hb.size
theorem GrowsN.put {w : World} {base D i : Nat} {u : Value} {t : TypeId} {size : Nat} {v : Value} {n : Nat} {xs : List Value} (h : GrowsN w base t size v n xs) (hD : D < base) : GrowsN (w.setCell ⟨D, i, none⟩ u) base t size v n xs :=
  h.keep (fun b _ hb k => k.far (by have := (h.lt b hb).2; simp; omega) _) (by simp [World.setCell])
theorem GrowsN.step {W w4 : World} {base : Nat} {t : TypeId} {size : Nat} {v' : Value} {n : Nat} {ys : List Value} {x : Option Nat} (ho : w4.ownsRow base t size v' n ys) (hb : base ≤ W.heap.size) (hg : W.grownBy w4 x) : GrowsN w4 base t size v' n ys := ⟨ho, Nat.le_trans hb hg.size⟩
/-- as the trees read it -/
theorem GrowsN.rd {w : World} {base : Nat} {t : TypeId} {size : Nat} {v : Value} {n : Nat} {xs : List Value} (h : GrowsN w base t size v n xs) : RowAt (CN w base none) size v n xs := by
  rcases h.own.2 with ⟨k1, k2⟩ | ⟨g, cap, cur, h1, h2, h3, h4, h5, h6, h7⟩
  · subst k2
    have : xs = [] := List.eq_nil_of_length_eq_zero (by simpa using h.own.1)
    subst this
    rw [k1]
    exact RowAt.nil size
  · refine ⟨_, cap, h1, h4, h5, h.own.1, .inr ⟨g, 0, rfl, fun j u hj => ⟨h2, by simp, cur, t, h3, ?_⟩⟩⟩
    rw [← h7, List.getElem?_take] at hj
    split at hj
    · simpa using hj
    · cases hj

theorem below_grown {w W w' : World} {x : Option Nat} (hb : Below w.heap.size w W) (hg : W.grownBy w' x) (hx : ∀ k, x = some k → w.heap.size ≤ k) : Below w.heap.size w w' :=
  ⟨hg.os.trans hb.os, hg.tape.trans hb.tape, hg.output.trans hb.output, Nat.le_trans hb.size hg.size, fun k hk => (hg.block k (Nat.lt_of_lt_of_le hk hb.size) (fun e => by have := hx k e.symm; omega)).trans (hb.block k hk)⟩

/-! ### the trees that are read -/

theorem SlAt.read {w : World} {t : TypeId} {sl : Value} {xs : List Value} (h : SlAt (Bl w) t sl xs) : ∃ a cap, sl = .slice a xs.length cap ∧ xs.length ≤ cap ∧ cap ≤ maxLen ∧ ∀ (k : Nat) (y : Value), xs[k]? = some y → ∃ T, a = some ⟨T, 0, none⟩ ∧ w.cell? ⟨T, k, none⟩ = some y := by
  rcases h with ⟨h1, h2⟩ | ⟨T, cs, cap, h1, h2, h3, h4, h5⟩
  · subst h2
    exact ⟨none, 0, h1, Nat.le_refl _, Nat.zero_le _, fun k y hk => by simp at hk⟩
  · refine ⟨_, cap, h1, h3, h4, fun k y hk => ⟨T, rfl, ?_⟩⟩
    rw [h2.cell]
    rw [← h5, List.getElem?_take] at hk
    split at hk
    · simpa using hk
    · cases hk

theorem Bl.later {w w' : World} (h : Below w.heap.size w w') : ∀ b cs t, Bl w b cs t → Bl w' b cs t := fun _ _ _ k => k.below h k.lt

end Go.Proofs.YtobiaaabikfglaaGreatDoor
