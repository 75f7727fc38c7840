/-
  The parser's trees in memory. No conditions.
-/
import Derived.Test.YtobiaaabikfglaaGreatDoorR09
import Derived.Laws.AppendOwn
namespace Go.Proofs.YtobiaaabikfglaaGreatDoor
open Go.RowKit Go.Proofs.YtobiaaabikfglaaGreatDoor.Pq Go.Lib

abbrev Bk := Nat → Array Value → TypeId → Prop
abbrev ptrV (b : Nat) : Value := .pointer (some ⟨b, 0, none⟩)
abbrev numV (n : Int) : Value := .int .i64 n

/-- a slice of one-cell values -/
def SlAt (B : Bk) (t : TypeId) (sl : Value) (xs : List Value) : Prop :=
  (sl = .slice none 0 0 ∧ xs = []) ∨ ∃ T cs cap, sl = .slice (some ⟨T, 0, none⟩) xs.length cap ∧ B T cs t ∧ xs.length ≤ cap ∧ cap ≤ maxLen ∧ cs.toList.take xs.length = xs

mutual
def VAt (B : Bk) : Val → Value → Prop
  | .null, x => ∃ b l c, x = .iface 145 (ptrV b) ∧ B b #[numV l, numV c] 255
  | .prim k s, x => ∃ b l c, x = .iface 148 (ptrV b) ∧ B b #[.int .i32 k, str s, numV l, numV c] 198
  | .var s, x => ∃ b l c, x = .iface 146 (ptrV b) ∧ B b #[str s, numV l, numV c] 147
  | .list vs, x => ∃ b sl xs l c, x = .iface 150 (ptrV b) ∧ B b #[sl, numV l, numV c] 153 ∧ SlAt B 100 sl xs ∧ VsAt B vs xs
  | .obj fs, x => ∃ b sl xs l c, x = .iface 154 (ptrV b) ∧ B b #[sl, numV l, numV c] 157 ∧ SlAt B 158 sl xs ∧ FsAt B fs xs
def VsAt (B : Bk) : List Val → List Value → Prop
  | [], xs => xs = []
  | v :: vs, xs => ∃ y ys, xs = y :: ys ∧ VAt B v y ∧ VsAt B vs ys
def FsAt (B : Bk) : List (Bs × Val) → List Value → Prop
  | [], xs => xs = []
  | (n, v) :: fs, xs => ∃ b l c y ys, xs = ptrV b :: ys ∧ B b #[str n, numV l, numV c, y] 160 ∧ VAt B v y ∧ FsAt B fs ys
end

def TyAt (B : Bk) : Ty → Value → Prop
  | .named n, x => ∃ b l c, x = .iface 141 (ptrV b) ∧ B b #[str n, numV l, numV c] 68
  | .list t, x => ∃ b y, x = .iface 136 (ptrV b) ∧ B b #[y] 138 ∧ TyAt B t y
  | .nonnull t, x => ∃ b y, x = .iface 139 (ptrV b) ∧ B b #[y] 140 ∧ TyAt B t y

mutual
def DAt (B : Bk) : Dir → Value → Prop
  | .mk n gs, x => ∃ b sl xs l c, x = ptrV b ∧ B b #[str n, numV l, numV c, sl] 114 ∧ SlAt B 161 sl xs ∧ AsAt B gs xs
def DsAt (B : Bk) : List Dir → List Value → Prop
  | [], xs => xs = []
  | d :: ds, xs => ∃ y ys, xs = y :: ys ∧ DAt B d y ∧ DsAt B ds ys
def AsAt (B : Bk) : List (Bs × Val × List Dir) → List Value → Prop
  | [], xs => xs = []
  | (n, v, ds) :: gs, xs => ∃ b l c y sl zs ys, xs = ptrV b :: ys ∧ B b #[str n, numV l, numV c, y, sl] 163 ∧ VAt B v y ∧ SlAt B 110 sl zs ∧ DsAt B ds zs ∧ AsAt B gs ys
end

mutual
def SelAt (B : Bk) : Sel → Value → Prop
  | .field a n gs ds ss, x => ∃ b l1 c1 l2 c2 sa xa sd xd sl xs l3 c3, x = .iface 120 (ptrV b) ∧ B b #[str a, numV l1, numV c1, str n, numV l2, numV c2, sa, sd, sl, numV l3, numV c3] 122 ∧
      SlAt B 161 sa xa ∧ AsAt B gs xa ∧ SlAt B 110 sd xd ∧ DsAt B ds xd ∧ SlAt B 119 sl xs ∧ SelsAt B ss xs
  | .spread n ds, x => ∃ b l1 c1 sd xd l c, x = .iface 123 (ptrV b) ∧ B b #[str n, numV l1, numV c1, sd, numV l, numV c] 125 ∧ SlAt B 110 sd xd ∧ DsAt B ds xd
  | .inline on ds ss, x => ∃ b l1 c1 sl xs sd xd l c, x = .iface 126 (ptrV b) ∧ B b #[str (on.getD []), numV l1, numV c1, sl, sd, numV l, numV c] 128 ∧
      SlAt B 110 sd xd ∧ DsAt B ds xd ∧ SlAt B 119 sl xs ∧ SelsAt B ss xs
def SelsAt (B : Bk) : List Sel → List Value → Prop
  | [], xs => xs = []
  | s :: ss, xs => ∃ y ys, xs = y :: ys ∧ SelAt B s y ∧ SelsAt B ss ys
end

theorem SlAt.mono {B B' : Bk} (h : ∀ b cs t, B b cs t → B' b cs t) {t : TypeId} {sl : Value} {xs : List Value} (k : SlAt B t sl xs) : SlAt B' t sl xs := by
  rcases k with k | ⟨T, cs, cap, h1, h2, h3⟩
  · exact .inl k
  · exact .inr ⟨T, cs, cap, h1, h _ _ _ h2, h3⟩

mutual
theorem VAt.mono {B B' : Bk} (h : ∀ b cs t, B b cs t → B' b cs t) : ∀ (v : Val) (x : Value), VAt B v x → VAt B' v x
  | .null, _x => fun ⟨b, l, c, h1, h2⟩ => ⟨b, l, c, h1, h _ _ _ h2⟩
  | .prim _k _s, _x => fun ⟨b, l, c, h1, h2⟩ => ⟨b, l, c, h1, h _ _ _ h2⟩
  | .var _s, _x => fun ⟨b, l, c, h1, h2⟩ => ⟨b, l, c, h1, h _ _ _ h2⟩
  | .list vs, _x => fun ⟨b, sl, xs, l, c, h1, h2, h3, h4⟩ => ⟨b, sl, xs, l, c, h1, h _ _ _ h2, h3.mono h, VsAt.mono h vs xs h4⟩
  | .obj fs, _x => fun ⟨b, sl, xs, l, c, h1, h2, h3, h4⟩ => ⟨b, sl, xs, l, c, h1, h _ _ _ h2, h3.mono h, FsAt.mono h fs xs h4⟩
theorem VsAt.mono {B B' : Bk} (h : ∀ b cs t, B b cs t → B' b cs t) : ∀ (vs : List Val) (xs : List Value), VsAt B vs xs → VsAt B' vs xs
  | [], _xs => fun k => k
  | v :: vs, _xs => fun ⟨y, ys, h1, h2, h3⟩ => ⟨y, ys, h1, VAt.mono h v y h2, VsAt.mono h vs ys h3⟩
theorem FsAt.mono {B B' : Bk} (h : ∀ b cs t, B b cs t → B' b cs t) : ∀ (fs : List (Bs × Val)) (xs : List Value), FsAt B fs xs → FsAt B' fs xs
  | [], _xs => fun k => k
  | (_n, v) :: fs, _xs => fun ⟨b, l, c, y, ys, h1, h2, h3, h4⟩ => ⟨b, l, c, y, ys, h1, h _ _ _ h2, VAt.mono h v y h3, FsAt.mono h fs ys h4⟩
end

theorem TyAt.mono {B B' : Bk} (h : ∀ b cs t, B b cs t → B' b cs t) : ∀ (t : Ty) (x : Value), TyAt B t x → TyAt B' t x
  | .named _n, _x => fun ⟨b, l, c, h1, h2⟩ => ⟨b, l, c, h1, h _ _ _ h2⟩
  | .list t, _x => fun ⟨b, y, h1, h2, h3⟩ => ⟨b, y, h1, h _ _ _ h2, TyAt.mono h t y h3⟩
  | .nonnull t, _x => fun ⟨b, y, h1, h2, h3⟩ => ⟨b, y, h1, h _ _ _ h2, TyAt.mono h t y h3⟩

mutual
theorem DAt.mono {B B' : Bk} (h : ∀ b cs t, B b cs t → B' b cs t) : ∀ (d : Dir) (x : Value), DAt B d x → DAt B' d x
  | .mk _n gs, _x => fun ⟨b, sl, xs, l, c, h1, h2, h3, h4⟩ => ⟨b, sl, xs, l, c, h1, h _ _ _ h2, h3.mono h, AsAt.mono h gs xs h4⟩
theorem DsAt.mono {B B' : Bk} (h : ∀ b cs t, B b cs t → B' b cs t) : ∀ (ds : List Dir) (xs : List Value), DsAt B ds xs → DsAt B' ds xs
  | [], _xs => fun k => k
  | d :: ds, _xs => fun ⟨y, ys, h1, h2, h3⟩ => ⟨y, ys, h1, DAt.mono h d y h2, DsAt.mono h ds ys h3⟩
theorem AsAt.mono {B B' : Bk} (h : ∀ b cs t, B b cs t → B' b cs t) : ∀ (gs : List (Bs × Val × List Dir)) (xs : List Value), AsAt B gs xs → AsAt B' gs xs
  | [], _xs => fun k => k
  | (_n, v, ds) :: gs, _xs => fun ⟨b, l, c, y, sl, zs, ys, h1, h2, h3, h4, h5, h6⟩ => ⟨b, l, c, y, sl, zs, ys, h1, h _ _ _ h2, VAt.mono h v y h3, h4.mono h, DsAt.mono h ds zs h5, AsAt.mono h gs ys h6⟩
end

mutual
theorem SelAt.mono {B B' : Bk} (h : ∀ b cs t, B b cs t → B' b cs t) : ∀ (s : Sel) (x : Value), SelAt B s x → SelAt B' s x
  | .field _a _n gs ds ss, _x => fun ⟨b, l1, c1, l2, c2, sa, xa, sd, xd, sl, xs, l3, c3, h1, h2, h3, h4, h5, h6, h7, h8⟩ =>
      ⟨b, l1, c1, l2, c2, sa, xa, sd, xd, sl, xs, l3, c3, h1, h _ _ _ h2, h3.mono h, AsAt.mono h gs xa h4, h5.mono h, DsAt.mono h ds xd h6, h7.mono h, SelsAt.mono h ss xs h8⟩
  | .spread _n ds, _x => fun ⟨b, l1, c1, sd, xd, l, c, h1, h2, h3, h4⟩ => ⟨b, l1, c1, sd, xd, l, c, h1, h _ _ _ h2, h3.mono h, DsAt.mono h ds xd h4⟩
  | .inline _on ds ss, _x => fun ⟨b, l1, c1, sl, xs, sd, xd, l, c, h1, h2, h3, h4, h5, h6⟩ => ⟨b, l1, c1, sl, xs, sd, xd, l, c, h1, h _ _ _ h2, h3.mono h, DsAt.mono h ds xd h4, h5.mono h, SelsAt.mono h ss xs h6⟩
theorem SelsAt.mono {B B' : Bk} (h : ∀ b cs t, B b cs t → B' b cs t) : ∀ (ss : List Sel) (xs : List Value), SelsAt B ss xs → SelsAt B' ss xs
  | [], _xs => fun k => k
  | s :: ss, _xs => fun ⟨y, ys, h1, h2, h3⟩ => ⟨y, ys, h1, SelAt.mono h s y h2, SelsAt.mono h ss ys h3⟩
end

def InpAt (B : Bk) (i : Inp) (x : Value) : Prop := ∃ b l1 c1 y z sd xd l2 c2 l3 c3, x = ptrV b ∧ B b #[str i.name, numV l1, numV c1, y, z, str [], sd, numV l2, numV c2, numV l3, numV c3] 102 ∧
  TyAt B i.ty y ∧ (match i.dflt with | none => z = .nilIface | some v => VAt B v z) ∧ SlAt B 110 sd xd ∧ DsAt B i.dirs xd
def InpsAt (B : Bk) : List Inp → List Value → Prop
  | [], xs => xs = []
  | i :: is, xs => ∃ y ys, xs = y :: ys ∧ InpAt B i y ∧ InpsAt B is ys

def opType (k : Nat) : Bs := if k = 2 then [77, 85, 84, 65, 84, 73, 79, 78] else if k = 3 then [83, 85, 66, 83, 67, 82, 73, 80, 84, 73, 79, 78] else [81, 85, 69, 82, 89]

def OpAt (B : Bk) (o : Pq.Op) (x : Value) : Prop := ∃ b l1 c1 sv xv sl xs sd xd l2 c2, x = ptrV b ∧ B b #[str (opType o.kind), str o.name, numV l1, numV c1, str [], sv, sl, sd, numV l2, numV c2] 57 ∧
  SlAt B 96 sv xv ∧ InpsAt B o.vars xv ∧ SlAt B 119 sl xs ∧ SelsAt B o.sels xs ∧ SlAt B 110 sd xd ∧ DsAt B o.dirs xd
def OpsAt (B : Bk) : List Pq.Op → List Value → Prop
  | [], xs => xs = []
  | i :: is, xs => ∃ y ys, xs = y :: ys ∧ OpAt B i y ∧ OpsAt B is ys

def FragAt (B : Bk) (f : Frag) (x : Value) : Prop := ∃ b l1 c1 sl xs l2 c2 sd xd l3 c3, x = ptrV b ∧ B b #[str f.on, numV l1, numV c1, sl, str f.name, numV l2, numV c2, str [], sd, numV l3, numV c3] 72 ∧
  SlAt B 119 sl xs ∧ SelsAt B f.sels xs ∧ SlAt B 110 sd xd ∧ DsAt B f.dirs xd
def FragsAt (B : Bk) : List Frag → List Value → Prop
  | [], xs => xs = []
  | i :: is, xs => ∃ y ys, xs = y :: ys ∧ FragAt B i y ∧ FragsAt B is ys

theorem InpAt.mono {B B' : Bk} (h : ∀ b cs t, B b cs t → B' b cs t) (i : Inp) (x : Value) : InpAt B i x → InpAt B' i x := by
  rintro ⟨b, l1, c1, y, z, sd, xd, l2, c2, l3, c3, h1, h2, h3, h4, h5, h6⟩
  refine ⟨b, l1, c1, y, z, sd, xd, l2, c2, l3, c3, h1, h _ _ _ h2, TyAt.mono h _ _ h3, ?_, h5.mono h, DsAt.mono h _ _ h6⟩
  cases hd : i.dflt with
  | none => rw [hd] at h4; exact h4
  | some v => rw [hd] at h4; exact VAt.mono h _ _ h4
theorem InpsAt.mono {B B' : Bk} (h : ∀ b cs t, B b cs t → B' b cs t) : ∀ (is : List Inp) (xs : List Value), InpsAt B is xs → InpsAt B' is xs
  | [], _xs => fun k => k
  | i :: is, _xs => fun ⟨y, ys, h1, h2, h3⟩ => ⟨y, ys, h1, InpAt.mono h i y h2, InpsAt.mono h is ys h3⟩
theorem OpAt.mono {B B' : Bk} (h : ∀ b cs t, B b cs t → B' b cs t) (o : Pq.Op) (x : Value) : OpAt B o x → OpAt B' o x := by
  rintro ⟨b, l1, c1, sv, xv, sl, xs, sd, xd, l2, c2, h1, h2, h3, h4, h5, h6, h7, h8⟩
  exact ⟨b, l1, c1, sv, xv, sl, xs, sd, xd, l2, c2, h1, h _ _ _ h2, h3.mono h, InpsAt.mono h _ _ h4, h5.mono h, SelsAt.mono h _ _ h6, h7.mono h, DsAt.mono h _ _ h8⟩
theorem OpsAt.mono {B B' : Bk} (h : ∀ b cs t, B b cs t → B' b cs t) : ∀ (is : List Pq.Op) (xs : List Value), OpsAt B is xs → OpsAt B' is xs
  | [], _xs => fun k => k
  | i :: is, _xs => fun ⟨y, ys, h1, h2, h3⟩ => ⟨y, ys, h1, OpAt.mono h i y h2, OpsAt.mono h is ys h3⟩
theorem FragAt.mono {B B' : Bk} (h : ∀ b cs t, B b cs t → B' b cs t) (f : Frag) (x : Value) : FragAt B f x → FragAt B' f x := by
  rintro ⟨b, l1, c1, sl, xs, l2, c2, sd, xd, l3, c3, h1, h2, h3, h4, h5, h6⟩
  exact ⟨b, l1, c1, sl, xs, l2, c2, sd, xd, l3, c3, h1, h _ _ _ h2, h3.mono h, SelsAt.mono h _ _ h4, h5.mono h, DsAt.mono h _ _ h6⟩
theorem FragsAt.mono {B B' : Bk} (h : ∀ b cs t, B b cs t → B' b cs t) : ∀ (is : List Frag) (xs : List Value), FragsAt B is xs → FragsAt B' is xs
  | [], _xs => fun k => k
  | i :: is, _xs => fun ⟨y, ys, h1, h2, h3⟩ => ⟨y, ys, h1, FragAt.mono h i y h2, FragsAt.mono h is ys h3⟩

/-- no block of the lexer's and its scanner's -/
def AstT (t : TypeId) : Prop := t ≠ 186 ∧ t ≠ 182 ∧ t ≠ 217 ∧ t ≠ 5

instance (t : TypeId) : Decidable (AstT t) := by unfold AstT; infer_instance

theorem LexAt.out {ad : Addr} {g w : World} {L : Nat} {ms : List Nat} {d : Int} {ts : List Tok} (h : LexAt ad g w L ms d ts) {b : Nat} {cs : Array Value} {t : TypeId} (hb : Bl w b cs t) (ht : AstT t) : b ∉ ms := by
  obtain ⟨S, R, s, u, h1, h2, _⟩ := h
  intro hm
  rw [h1.eqm] at hm
  simp only [Sc.ms, List.mem_cons] at hm
  rcases hm with rfl | rfl | rfl | hm
  · exact ht.1 (h1.bl.eq hb).2.symm
  · exact ht.2.1 (h2.ahead.at_.sc.bl.eq hb).2.symm
  · obtain ⟨rd, hr, _⟩ := h2.ahead.at_.rd
    obtain ⟨_, _, _, hb2, _⟩ := hr.ex
    exact ht.2.2.1 (hb2.eq hb).2.symm
  · obtain ⟨ta, hta, _⟩ := h2.ahead.at_.tb
    generalize s.tb = v at *
    cases hta with
    | none => simp [rowOf] at hm
    | row T cs acc hb2 _ _ _ _ _ => simp [rowOf] at hm; subst hm; exact ht.2.2.2 (hb2.eq hb).2.symm

/-- the trees' blocks, from `base` on, but for one -/
def From (w : World) (base : Nat) (x : Option Nat) : Bk := fun b cs t => Bl w b cs t ∧ AstT t ∧ base ≤ b ∧ some b ≠ x

theorem LexAt.keeps {ad : Addr} {g w w' : World} {L : Nat} {ms ms' : List Nat} {d : Int} {ts : List Tok} (h : LexAt ad g w L ms d ts) (hf : Fr ms w ms' w') (base : Nat) (x : Option Nat) : ∀ b cs t, From w base x b cs t → From w' base x b cs t :=
  fun _ _ _ ⟨h1, h2, h3, h4⟩ => ⟨(hf.bl h1 (h.out h1 h2)).1, h2, h3, h4⟩

theorem From.grown {w w' : World} {base : Nat} {x : Option Nat} (hg : w.grownBy w' x) : ∀ b cs t, From w base x b cs t → From w' base x b cs t :=
  fun _ _ _ ⟨h1, h2, h3, h4⟩ => ⟨h1.grown hg h4, h2, h3, h4⟩
theorem From.fr {w w' : World} {base : Nat} {x : Option Nat} (hf : Fr [] w [] w') : ∀ b cs t, From w base x b cs t → From w' base x b cs t :=
  fun _ _ _ ⟨h1, h2, h3, h4⟩ => ⟨(hf.bl h1 (by simp)).1, h2, h3, h4⟩
/-- what is new is none of what was -/
theorem From.new {w : World} {base base' : Nat} {x x' : Option Nat} (hb : base ≤ base') (hx : ∀ k, x = some k → k < base') : ∀ b cs t, From w base' x' b cs t → From w base x b cs t :=
  fun _ _ _ ⟨h1, h2, h3, _⟩ => ⟨h1, h2, Nat.le_trans hb h3, fun e => by have := hx _ e.symm; omega⟩
/-- another block left out: one that is not there yet -/
theorem From.other {w : World} {base : Nat} {x x' : Option Nat} (hx : ∀ k, x' = some k → x = some k ∨ w.heap.size ≤ k) : ∀ b cs t, From w base x b cs t → From w base x' b cs t :=
  fun _ _ _ ⟨h1, h2, h3, h4⟩ => ⟨h1, h2, h3, fun e => by rcases hx _ e.symm with h | h; exact h4 h.symm; have := h1.lt; omega⟩

end Go.Proofs.YtobiaaabikfglaaGreatDoor

/-
  append of one value of one cell: where the row lies behind it. Of no program.
-/
namespace Go.Proofs.YtobiaaabikfglaaGreatDoor
open Go.RowKit Go.Proofs.YtobiaaabikfglaaGreatDoor.Pq Go.Lib

section
variable {P : Program} (w : World)

theorem run_append_more (base : Nat) (t ty e : TypeId) (i : TypeInfo) (z : Value) (bytes : Nat) (ht : P.underlying t = some (.slice e)) (hi : P.info? e = some i) (hz : i.zero = some z)
    (hsize : i.size = 1) (hby : i.bytes = bytes) (hzs : z.cells.size = 1)
    (v : Value) (n : Nat) (xs : List Value) (hown : w.ownsRow base e 1 v n xs)
    (a : Addr) (c : Nat) (y : Value) (hy : w.cell? a = some y) (h1 : y.oneCell' = true)
    (h63 : n + 1 ≤ maxLen) (hbytes : (n + 1) * bytes ≤ 140737488355328) (hbase : base ≤ w.heap.size) :
    ∃ v' w', (Builtin.append_ #[t, t] ty #[v, .slice (some a) 1 c]).run P w = .ok v' w' ∧ w'.ownsRow base e 1 v' (n + 1) (xs ++ [y]) ∧ w.grownBy w' v.ownBlock ∧
      ∀ k, v'.ownBlock = some k → v.ownBlock = some k ∨ w.heap.size ≤ k := by
  have hnews : ∀ j u, ([y] : List Value)[j]? = some u → w.cell? (a.add j) = some u := by
    intro j u hu
    cases j with
    | zero => simp at hu; subst hu; simpa [Addr.add] using hy
    | succ j => simp at hu
  have h1' : ∀ u ∈ ([y] : List Value), u.oneCell' = true := by simp [h1]
  obtain ⟨v', w', hr, h2, h3, h4⟩ := run_append_own (P := P) w base t ty e i z 1 bytes ht hi hz hsize hby hzs (by decide) v n xs hown a 1 c [y] rfl hnews h1' h63 hbytes hbase
  refine ⟨v', w', hr, h2, h3, ?_⟩
  rcases hown.2 with ⟨rfl, rfl⟩ | ⟨g, cap, cur, rfl, hbg, hg, hnc, hcm, hcs, htake⟩
  · have hx : xs = [] := List.eq_nil_of_length_eq_zero (by simpa using hown.1)
    subst hx
    obtain ⟨v2, w2, hr2, k2, k3, k4⟩ := run_append_own (P := P) w w.heap.size t ty e i z 1 bytes ht hi hz hsize hby hzs (by decide) _ 0 [] (World.ownsRow_nil w _ e 1) a 1 c [y] rfl hnews h1' h63 hbytes (Nat.le_refl _)
    rw [hr] at hr2
    injection hr2 with e1 e2
    subst e1 e2
    intro k hk
    rcases k2.2 with ⟨h, _⟩ | ⟨g, cap, cur, h, hbg, _⟩
    · rw [h] at hk; simp [Value.ownBlock] at hk
    · rw [h] at hk; simp [Value.ownBlock] at hk; subst hk; exact .inr hbg
  · by_cases hroom : n + 1 ≤ cap
    · have hfit : n * i.size + ([y] : List Value).length ≤ cur.size := by rw [hcs, hsize]; simp; omega
      have hr2 := run_append_room (P := P) w t ty e i ht hi g n cap cur hg a 1 c [y] (by simp [hsize]) hnews h1' hroom hfit
      rw [hr] at hr2
      injection hr2 with e1 e2
      subst e1
      intro k hk
      exact .inl hk
    · have hsmall : n + 1 ≤ 9223372036854775807 := by simp only [maxLen] at h63; omega
      have holds : ∀ j u, xs[j]? = some u → w.cell? ((⟨g, 0, none⟩ : Addr).add j) = some u := hown.cells (g := g) rfl
      have hl : xs.length = n * i.size := by rw [hown.1, hsize]
      have hr2 := run_append_grow (P := P) w t ty e i z ht hi hz ⟨g, 0, none⟩ n cap xs hl holds a 1 c [y] (by simp [hsize]) hnews (by omega) (by omega) (growslice_fits (by omega) (by rw [hby]; exact hbytes))
      rw [hr] at hr2
      injection hr2 with e1 e2
      subst e1
      intro k hk
      simp [Value.ownBlock] at hk
      exact .inr (by omega)

theorem wp_append_more {o : Oper} {a : Act} {K : Act → World → Prop} {Q : Exit → Act → World → Prop} (s x : Operand) (t : TypeId)
    (ho : o.op = .call { callee := .builtin .append, args := #[s, x], argTypes := #[t, t] })
    (base : Nat) (e : TypeId) (i : TypeInfo) (z : Value) (bytes : Nat) (ht : P.underlying t = some (.slice e)) (hi : P.info? e = some i) (hz : i.zero = some z)
    (hsize : i.size = 1) (hby : i.bytes = bytes) (hzs : z.cells.size = 1)
    (v : Value) (n : Nat) (xs : List Value) (hs : a.eval s = v) (hown : w.ownsRow base e 1 v n xs)
    (ad : Addr) (c : Nat) (y : Value) (hx : a.eval x = .slice (some ad) 1 c) (hy : w.cell? ad = some y) (h1 : y.oneCell' = true)
    (h63 : n + 1 ≤ maxLen) (hbytes : (n + 1) * bytes ≤ 140737488355328) (hbase : base ≤ w.heap.size)
    (h : ∀ v' w', w'.ownsRow base e 1 v' (n + 1) (xs ++ [y]) → w.grownBy w' v.ownBlock → (∀ k, v'.ownBlock = some k → v.ownBlock = some k ∨ w.heap.size ≤ k) → K (a.put o.dst v') w') : o.wp P a w K Q := by
  obtain ⟨v', w', hr, h2, h3, h4⟩ := run_append_more (P := P) w base t o.type e i z bytes ht hi hz hsize hby hzs v n xs hown ad c y hy h1 h63 hbytes hbase
  unfold Oper.wp execOp
  simp only [ho, resolve, invoke, builtin, Sem.run_bind, Sem.run_pure, Result.andThen_ok, List.map_toArray, List.map_cons, List.map_nil, hs, hx, hr]
  exact h v' w' h2 h3 h4

theorem wpList_append_more {ops : Array Oper} {rest : List Oper} {o : Oper} {a : Act} {Q : Exit → Act → World → Prop} (hgd : o.guard = none) (s x : Operand) (t : TypeId)
    (ho : o.op = .call { callee := .builtin .append, args := #[s, x], argTypes := #[t, t] })
    (base : Nat) (e : TypeId) (i : TypeInfo) (z : Value) (bytes : Nat) (ht : P.underlying t = some (.slice e)) (hi : P.info? e = some i) (hz : i.zero = some z)
    (hsize : i.size = 1) (hby : i.bytes = bytes) (hzs : z.cells.size = 1)
    (v : Value) (n : Nat) (xs : List Value) (hs : a.eval s = v) (hown : w.ownsRow base e 1 v n xs)
    (ad : Addr) (c : Nat) (y : Value) (hx : a.eval x = .slice (some ad) 1 c) (hy : w.cell? ad = some y) (h1 : y.oneCell' = true)
    (h63 : n + 1 ≤ maxLen) (hbytes : (n + 1) * bytes ≤ 140737488355328) (hbase : base ≤ w.heap.size)
    (h : ∀ v' w', w'.ownsRow base e 1 v' (n + 1) (xs ++ [y]) → w.grownBy w' v.ownBlock → (∀ k, v'.ownBlock = some k → v.ownBlock = some k ∨ w.heap.size ≤ k) → wpList P ops Q rest (a.put o.dst v') w') : wpList P ops Q (o :: rest) a w :=
  wpList_plain hgd fun _ hK => wp_append_more w s x t ho base e i z bytes ht hi hz hsize hby hzs v n xs hs hown ad c y hx hy h1 h63 hbytes hbase fun v' w' h2 h3 h4 => hK _ _ (h v' w' h2 h3 h4)
end

/-- a list under way: its row lies from `base` on -/
structure Grows (w : World) (base : Nat) (t : TypeId) (v : Value) (n : Nat) (xs : List Value) : Prop where
  own : w.ownsRow base t 1 v n xs
  le : base ≤ w.heap.size

theorem Grows.nil (w : World) (t : TypeId) : Grows w w.heap.size t (.slice none 0 0) 0 [] := ⟨World.ownsRow_nil w _ t 1, Nat.le_refl _⟩

theorem Grows.keep {w w' : World} {base : Nat} {t : TypeId} {v : Value} {n : Nat} {xs : List Value} (h : Grows w base t v n xs) (_ht : AstT t) (hk : ∀ b cs, Bl w b cs t → Bl w' b cs t) (hz : w.heap.size ≤ w'.heap.size) : Grows w' base t v n xs := by
  refine ⟨⟨h.own.1, ?_⟩, Nat.le_trans h.le hz⟩
  rcases h.own.2 with k | ⟨g, cap, cur, h1, h2, h3, h4⟩
  · exact .inl k
  · exact .inr ⟨g, cap, cur, h1, h2, hk g cur h3, h4⟩

theorem Grows.lex {ad : Addr} {g w w' : World} {L : Nat} {ms ms' : List Nat} {d : Int} {ts : List Tok} {base : Nat} {t : TypeId} {v : Value} {n : Nat} {xs : List Value} (h : Grows w base t v n xs) (ht : AstT t) (hl : LexAt ad g w L ms d ts) (hf : Fr ms w ms' w') : Grows w' base t v n xs :=
  h.keep ht (fun _b _cs hb => (hf.bl hb (hl.out hb ht)).1) hf.kept.size
theorem Grows.fr {w w' : World} {base : Nat} {t : TypeId} {v : Value} {n : Nat} {xs : List Value} (h : Grows w base t v n xs) (ht : AstT t) (hf : Fr [] w [] w') : Grows w' base t v n xs :=
  h.keep ht (fun b cs hb => (hf.bl hb (by simp)).1) hf.kept.size

/-- its row is there -/
theorem Grows.row_lt {w : World} {base : Nat} {t : TypeId} {v : Value} {n : Nat} {xs : List Value} (h : Grows w base t v n xs) : ∀ k, v.ownBlock = some k → k < w.heap.size ∧ base ≤ k ∧ ∃ cs, Bl w k cs t := by
  intro k hk
  rcases h.own.2 with ⟨k1, _⟩ | ⟨g, cap, cur, h1, h2, h3, h4⟩
  · rw [k1] at hk; simp [Value.ownBlock] at hk
  · rw [h1] at hk; simp [Value.ownBlock] at hk; subst hk
    exact ⟨Bl.lt h3, h2, cur, h3⟩

/-- the list as the trees have it -/
theorem Grows.at_ {w : World} {base : Nat} {t : TypeId} {v : Value} {n : Nat} {xs : List Value} (h : Grows w base t v n xs) (ht : AstT t) : SlAt (From w base none) t v xs := by
  rcases h.own.2 with ⟨k1, k2⟩ | ⟨g, cap, cur, h1, h2, h3, h4, h5, h6, h7⟩
  · subst k2
    exact .inl ⟨k1, List.eq_nil_of_length_eq_zero (by simpa using h.own.1)⟩
  · have hn : xs.length = n := by simpa using h.own.1
    exact .inr ⟨g, cur, cap, by rw [hn]; exact h1, ⟨h3, ht, h2, by simp⟩, by omega, h5, by rw [hn]; simpa using h7⟩

theorem Fr.grownOut {ms ms' : List Nat} {a w w' : World} {row : Option Nat} (h : Fr ms a ms' w) (hg : w.grownBy w' row) (hr : ∀ k, row = some k → a.heap.size ≤ k) : Fr ms a ms' w' := h.grown hg (fun k hk => .inr (hr k hk))

theorem LexAt.grown {ad : Addr} {g w w' : World} {L : Nat} {ms : List Nat} {d : Int} {ts : List Tok} {row : Option Nat} (h : LexAt ad g w L ms d ts) (hg : w.grownBy w' row) (hr : ∀ k, row = some k → k ∉ ms ∧ g.heap.size ≤ k) : LexAt ad g w' L ms d ts := by
  have hf : Fr row.toList w row.toList w' := (Fr.refl _ _).grown hg (fun k hk => .inl (by simp [hk]))
  have hn : ∀ k, k ∈ ms → k ∉ row.toList := by
    intro k hk hm
    cases row with
    | none => simp at hm
    | some r => simp at hm; subst hm; exact (hr k rfl).1 hk
  obtain ⟨S, R, s, u, h1, h2, h3⟩ := h
  have e := h1.eqm
  refine ⟨S, R, s, u, ⟨(hf.bl h1.bl (hn L (by rw [e]; simp))).1, e, h1.no, ⟨h1.gd.gl, ?_, h1.gd.hi⟩⟩, h2.away hf (fun k hk => hn k (by rw [e]; exact List.mem_cons_of_mem _ hk)), h3⟩
  refine h1.gd.below.trans ⟨hg.os, hg.tape, hg.output, hg.size, fun k hk => hg.block k (Nat.lt_of_lt_of_le hk h1.gd.below.size) (fun e => ?_)⟩
  have := (hr k e.symm).2
  omega

end Go.Proofs.YtobiaaabikfglaaGreatDoor

/-
  The parser of types by a contract: it reads what the plain parser reads, and gives up where that gives up. No conditions but lengths.
-/
namespace Go.Proofs.YtobiaaabikfglaaGreatDoor
open Go.RowKit Go.Proofs.YtobiaaabikfglaaGreatDoor.Pq Go.Lib

/-- what a parser's function leaves, by the plain parser's answer -/
def PRes {α : Type} (At : Bk → α → Value → Prop) (r : Res (α × List Tok)) (ad : Addr) (g : World) (L : Nat) (ms : List Nat) (d : Nat) (w : World) (e : Ending) (w' : World) : Prop :=
  match r with
  | .ok p => ∃ x ms', e = .returned x ∧ At (From w' w.heap.size none) p.1 x ∧ LexAt ad g w' L ms' d p.2 ∧ Fr ms w ms' w'
  | .err => Errs ad g L ms w e w'
  | .unk => True

theorem wrap_up (d : Nat) (h : d ≤ 1000) : wrap64 ((((d + 1 : Nat) : Int)) - 1) = d := by
  unfold wrap64; omega

/-- the door of a function that has deferred Ascend: it returns -/
theorem door_ret {fn : Func} {tmps : Array Value} {R : Ending → World → Prop} {ad : Addr} {g : World} {L : Nat} {ms : List Nat} {d : Int} {ts : List Tok} {w : World} (h : LexAt ad g w L ms d ts) (v : Value)
    (hv : ∀ w', (results fn tmps).run Tryz.prog w' = .ok v w') (hR : ∀ w', LexAt ad g w' L ms (wrap64 (d - 1)) ts → Fr ms w ms w' → R (.returned v) w') :
    Leaves Tryz.prog fn tmps R [{ target := .fn (.func 52) #[], args := #[.pointer (some ⟨L, 0, none⟩)] }] .returning w := by
  refine leaves_cons (f := 52) (args := #[.pointer (some ⟨L, 0, none⟩)]) (by simp) (by simp [go_sem]) ?_
  refine (lex_up ad g L ms d ts .returning w h).mono ?_
  rintro e u' w' ⟨rfl, rfl, h1, h2⟩
  exact ⟨v, hv w', hR w' h1 h2⟩

theorem door_panic {fn : Func} {tmps : Array Value} {R : Ending → World → Prop} {ad : Addr} {g : World} {L : Nat} {ms : List Nat} {d : Int} {ts : List Tok} {w : World} {v : Value} (h : LexAt ad g w L ms d ts)
    (hR : ∀ w', LexAt ad g w' L ms (wrap64 (d - 1)) ts → Fr ms w ms w' → R (.panicked [{ v := v, recovered := false }]) w') :
    Leaves Tryz.prog fn tmps R [{ target := .fn (.func 52) #[], args := #[.pointer (some ⟨L, 0, none⟩)] }] (.panicking [{ v := v, recovered := false }]) w := by
  refine leaves_cons (f := 52) (args := #[.pointer (some ⟨L, 0, none⟩)]) (by simp) (by simp [go_sem]) ?_
  refine (lex_up ad g L ms d ts _ w h).mono ?_
  rintro e u' w' ⟨rfl, rfl, h1, h2⟩
  exact hR w' h1 h2

theorem TyAt.shape {B : Bk} {t : Ty} {x : Value} (h : TyAt B t x) : ∃ T b, x = .iface T (ptrV b) := by
  cases t with
  | named n => obtain ⟨b, l, c, h1, _⟩ := h; exact ⟨_, b, h1⟩
  | list t => obtain ⟨b, y, h1, _⟩ := h; exact ⟨_, b, h1⟩
  | nonnull t => obtain ⟨b, y, h1, _⟩ := h; exact ⟨_, b, h1⟩

def TyGoal (ad : Addr) (g : World) (L : Nat) (f : Nat) : Prop := ∀ (d : Nat) (ts : List Tok) (ms : List Nat) (w : World), d ≤ 1000 → LexAt ad g w L ms d ts → pTy f d ts ≠ .unk →
  Calls Tryz.prog 82 #[.pointer (some ⟨L, 0, none⟩)] w (PRes TyAt (pTy f d ts) ad g L ms d w)
def NullGoal (ad : Addr) (g : World) (L : Nat) (f : Nat) : Prop := ∀ (d : Nat) (ts : List Tok) (ms : List Nat) (w : World), d ≤ 1000 → LexAt ad g w L ms d ts → pNull f d ts ≠ .unk →
  Calls Tryz.prog 106 #[.pointer (some ⟨L, 0, none⟩)] w (PRes TyAt (pNull f d ts) ad g L ms d w)

set_option maxRecDepth 100000 in
set_option maxHeartbeats 4000000 in
theorem null_any (ad : Addr) (g : World) (L : Nat) (f : Nat) (ih : TyGoal ad g L f) : NullGoal ad g L (f + 1) := by
  intro d ts ms w hd0 h hu
  have he : pNull (f + 1) d ts = if (cur ts).kind = 91 then (if d + 1 > maxDepth then .err else (pTy f (d + 1) ts.tail).bind fun p => (want 93 p.2).bind fun t1 => .ok (.list p.1, t1)) else (ident ts).bind fun p => .ok (.named p.1, p.2) := by rw [pNull]
  by_cases hk : (cur ts).kind = 91
  · rw [if_pos hk] at he
    have d1 : ((cur ts).kind == 91) = true := by rw [hk]; rfl
    by_cases hd : d + 1 ≤ 1000
    · rw [if_neg (by unfold maxDepth; omega)] at he
      have H := Lib.hid (And.intro h (And.intro hk (And.intro he hu)))
      clear h hk he hu
      go_enter_defers Tryz.func106, Tryz.ntmps106
      go_wp2_with fail
      refine (lex_peek ad g L ms d ts _ H.out.1).mono ?_
      rintro e w' ⟨rfl, rfl⟩
      go_wp2_with fail
      refine (lex_down ad g L ms d ts _ H.out.1 hd).mono ?_
      rintro e w1 ⟨rfl, h1⟩
      have H1 := Lib.hid h1
      clear h1
      go_wp2_with fail
      refine (lex_tok ad g L ms _ ts 91 _ H1.out.1 H.out.2.1).mono ?_
      rintro e w2 ⟨rfl, ms2, h2⟩
      have H2 := Lib.hid h2
      clear h2
      go_wp2_with fail
      have hr0 : ∃ r, pTy f (d + 1) ts.tail = r := ⟨_, rfl⟩
      obtain ⟨r, hr⟩ := hr0
      have hru : r ≠ .unk := fun e => by rw [hr, e] at H; exact H.out.2.2.2 H.out.2.2.1
      have HR := Lib.hid hr
      refine (ih (d + 1) ts.tail ms2 w2 hd H2.out.1 (by rw [hr]; exact hru)).mono ?_
      intro e w3 h3
      rw [HR.out] at h3
      clear hr
      cases r with
      | unk => exact absurd rfl hru
      | err =>
        obtain ⟨m, ms3, d3, ts3, rfl, k1, k2⟩ := h3
        refine door_panic k1 (fun w' a b => ?_)
        rw [H.out.2.2.1, HR.out]
        exact ⟨m, ms3, _, ts3, rfl, a, ((H1.out.2.trans H2.out.2).trans k2).trans b⟩
      | ok p =>
        obtain ⟨x, ms3, rfl, k1, k2, k3⟩ := h3
        obtain ⟨T, b, rfl⟩ := k1.shape
        have H3 := Lib.hid (And.intro k1 (And.intro k2 k3))
        clear k1 k2 k3 hru
        go_wp2_with fail
        by_cases hc : (cur p.2).kind = 93
        · have HC := Lib.hid hc
          clear hc
          refine (lex_tok ad g L ms3 _ p.2 93 _ H3.out.2.1 HC.out).mono ?_
          rintro e w4 ⟨rfl, ms4, h4⟩
          have H4 := Lib.hid h4
          clear h4
          go_wp2_with fail
          refine door_ret (H4.out.1.alloc _) _ (fun _ => results_tmp rfl _ _ _) (fun w' a b => ?_)
          rw [H.out.2.2.1, HR.out]
          simp only [Res.bind, want, if_pos HC.out]
          have z1 := H1.out.2.kept.size
          have z2 := H2.out.2.kept.size
          have z3 := H3.out.2.2.kept.size
          have z4 := H4.out.2.kept.size
          refine ⟨_, ms4, rfl, ⟨w4.heap.size, _, rfl, ⟨(H4.out.1.keep (Bl.new w4 _ _) b).1, by decide, by omega, by simp⟩, ?_⟩, by rw [wrap_up d hd0] at a; exact a, (((H1.out.2.trans H2.out.2).trans H3.out.2.2).trans H4.out.2).trans (((Fr.refl _ _).alloc _).trans b)⟩
          refine TyAt.mono (fun b' cs t k => ?_) _ _ H3.out.1
          exact (H4.out.1.alloc _).keeps b _ _ _ _ _ (From.fr ((Fr.refl [] w4).alloc _) _ _ _ (H3.out.2.1.keeps H4.out.2 _ _ _ _ _ (From.new (base := w.heap.size) (x := none) (by omega) (by simp) _ _ _ k)))
        · have HC := Lib.hid hc
          clear hc
          refine (lex_tok_err ad g L ms3 _ p.2 93 _ H3.out.2.1 HC.out).mono ?_
          rintro e w4 ⟨m, ms4, d4, ts4, rfl, k1, k2⟩
          refine door_panic k1 (fun w' a b => ?_)
          rw [H.out.2.2.1, HR.out]
          simp only [Res.bind, want, if_neg HC.out]
          exact ⟨m, ms4, _, ts4, rfl, a, (((H1.out.2.trans H2.out.2).trans H3.out.2.2).trans k2).trans b⟩
    · rw [if_pos (by unfold maxDepth; omega)] at he
      have H := Lib.hid (And.intro h he)
      clear h hk he hu
      go_enter_defers Tryz.func106, Tryz.ntmps106
      go_wp2_with fail
      refine (lex_peek ad g L ms d ts _ H.out.1).mono ?_
      rintro e w' ⟨rfl, rfl⟩
      go_wp2_with fail
      refine (lex_down_err ad g L ms d ts _ H.out.1 hd (by omega)).mono ?_
      rintro e w1 ⟨m, ms1, d1', ts1, rfl, k1, k2⟩
      show PRes _ _ _ _ _ _ _ _ _ _
      rw [H.out.2]
      exact ⟨m, ms1, _, ts1, rfl, k1, k2⟩
  · rw [if_neg hk] at he
    have d1 : ((cur ts).kind == 91) = false := by simpa using hk
    by_cases hi : (cur ts).kind = -2
    · have hid : ident ts = .ok ((cur ts).text, ts.tail) := if_pos hi
      rw [hid] at he
      have H := Lib.hid (And.intro h (And.intro hi he))
      clear h hk hi he hu hid
      go_enter_defers Tryz.func106, Tryz.ntmps106
      go_wp2_with fail
      refine (lex_peek ad g L ms d ts _ H.out.1).mono ?_
      rintro e w' ⟨rfl, rfl⟩
      go_wp2_with fail
      refine (lex_name ad g L ms d ts _ H.out.1 H.out.2.1).mono ?_
      rintro e w1 ⟨⟨l, c, rfl⟩, ms1, k1, k2⟩
      have H1 := Lib.hid (And.intro k1 k2)
      clear k1 k2
      go_wp2_with fail
      refine ⟨_, results_tmp rfl _ _ _, ?_⟩
      show PRes _ _ _ _ _ _ _ _ _ _
      rw [H.out.2.2]
      have z1 := H1.out.2.kept.size
      exact ⟨_, ms1, rfl, ⟨w1.heap.size, l, c, rfl, ⟨Bl.new w1 _ _, by decide, by omega, by simp⟩⟩, H1.out.1.alloc _, H1.out.2.alloc _⟩
    · have hid : ident ts = .err := if_neg hi
      rw [hid] at he
      have H := Lib.hid (And.intro h (And.intro hi he))
      clear h hk hi he hu hid
      go_enter_defers Tryz.func106, Tryz.ntmps106
      go_wp2_with fail
      refine (lex_peek ad g L ms d ts _ H.out.1).mono ?_
      rintro e w' ⟨rfl, rfl⟩
      go_wp2_with fail
      refine (lex_name_err ad g L ms d ts _ H.out.1 H.out.2.1).mono ?_
      rintro e w1 ⟨m, ms1, d1', ts1, rfl, k1, k2⟩
      show PRes _ _ _ _ _ _ _ _ _ _
      rw [H.out.2.2]
      exact ⟨m, ms1, _, ts1, rfl, k1, k2⟩

set_option maxRecDepth 100000 in
set_option maxHeartbeats 4000000 in
theorem ty_any (ad : Addr) (g : World) (L : Nat) (f : Nat) (ih : NullGoal ad g L f) : TyGoal ad g L (f + 1) := by
  intro d ts ms w hd0 h hu
  have he : pTy (f + 1) d ts = (pNull f d ts).bind fun p => if (cur p.2).kind = 33 then .ok (.nonnull p.1, p.2.tail) else .ok p := by rw [pTy]
  obtain ⟨r, hr⟩ : ∃ r, pNull f d ts = r := ⟨_, rfl⟩
  rw [hr] at he
  have hru : r ≠ .unk := fun e => by rw [e] at he; exact hu he
  have H := Lib.hid (And.intro h (And.intro hr he))
  clear h he hr hu
  go_enter Tryz.func82, Tryz.ntmps82
  go_wp2_with fail
  refine (ih d ts ms w hd0 H.out.1 (by rw [H.out.2.1]; exact hru)).mono ?_
  intro e w1 h1
  rw [H.out.2.1] at h1
  cases r with
  | unk => exact absurd rfl hru
  | err =>
    obtain ⟨m, ms1, d1, ts1, rfl, k1, k2⟩ := h1
    refine ⟨rfl, ?_⟩
    show PRes _ _ _ _ _ _ _ _ _ _
    rw [H.out.2.2]
    exact ⟨m, ms1, _, ts1, rfl, k1, k2⟩
  | ok p =>
    obtain ⟨x, ms1, rfl, k1, k2, k3⟩ := h1
    obtain ⟨T, b, rfl⟩ := k1.shape
    have H1 := Lib.hid (And.intro k1 (And.intro k2 k3))
    clear k1 k2 k3 hru
    go_wp2_with fail
    refine (lex_peek ad g L ms1 d p.2 _ H1.out.2.1).mono ?_
    rintro e w' ⟨rfl, rfl⟩
    by_cases hc : (cur p.2).kind = 33
    · have HC := Lib.hid hc
      have d1 : ((cur p.2).kind == 33) = true := by rw [hc]; rfl
      clear hc
      go_wp2_with fail
      refine (lex_tok ad g L ms1 _ p.2 33 _ H1.out.2.1 HC.out).mono ?_
      rintro e w2 ⟨rfl, ms2, h2⟩
      have H2 := Lib.hid h2
      clear h2
      go_wp2_with fail
      go_ret
      rw [H.out.2.2]
      simp only [Res.bind, if_pos HC.out]
      have z1 := H1.out.2.2.kept.size
      have z2 := H2.out.2.kept.size
      refine ⟨_, ms2, rfl, ⟨w2.heap.size, _, rfl, ⟨Bl.new w2 _ _, by decide, by omega, by simp⟩, ?_⟩, H2.out.1.alloc _, (H1.out.2.2.trans H2.out.2).alloc _⟩
      refine TyAt.mono (fun b' cs t k => ?_) _ _ H1.out.1
      exact From.fr ((Fr.refl [] w2).alloc _) _ _ _ (H1.out.2.1.keeps H2.out.2 _ _ _ _ _ k)
    · have HC := Lib.hid hc
      have d1 : ((cur p.2).kind == 33) = false := by simpa using hc
      clear hc
      go_wp2_with fail
      go_ret
      rw [H.out.2.2]
      simp only [Res.bind, if_neg HC.out]
      exact ⟨_, ms1, rfl, H1.out⟩

theorem ty_all (ad : Addr) (g : World) (L : Nat) : ∀ f, TyGoal ad g L f ∧ NullGoal ad g L f
  | 0 => ⟨fun d ts ms w _ _ h => absurd (by rw [pTy]) h, fun d ts ms w _ _ h => absurd (by rw [pNull]) h⟩
  | f + 1 => ⟨ty_any ad g L f (ty_all ad g L f).2, null_any ad g L f (ty_all ad g L f).1⟩

end Go.Proofs.YtobiaaabikfglaaGreatDoor

/-
  ConsumeLiteral by a contract (no strings). No conditions but lengths.
-/
namespace Go.Proofs.YtobiaaabikfglaaGreatDoor
open Go.RowKit Go.Proofs.YtobiaaabikfglaaGreatDoor.Pq Go.Lib

theorem lex_text_f {ad : Addr} {g : World} {L : Nat} {ms : List Nat} {d : Int} {ts : List Tok} {w : World} (h : LexAt ad g w L ms d ts) :
    ∃ S, w.cell? ⟨L, 0, none⟩ = some (.pointer (some ⟨S, 0, none⟩)) ∧ w.cell? ⟨L, 1, none⟩ = some (.int .i32 (cur ts).kind) ∧
      ∀ w1, Fr [] w [] w1 → Calls Tryz.prog 55 #[.pointer (some ⟨S, 0, none⟩)] w1 fun e w' => e = .returned (str (cur ts).text) ∧ ∃ ms', LexAt ad g w' L ms' d ts ∧ Fr ms w1 ms' w' ∧
        w'.cell? ⟨L, 0, none⟩ = some (.pointer (some ⟨S, 0, none⟩)) ∧ w'.cell? ⟨L, 1, none⟩ = some (.int .i32 (cur ts).kind) := by
  obtain ⟨S, R, s, u, h1, h2, h3, h4, h5⟩ := h
  refine ⟨S, h1.bl.cell 0, h1.bl.cell 1, fun w1 hf => (tok_text S R s _ u w1 (h2.away hf (by simp)) h5).mono ?_⟩
  rintro e w' ⟨rfl, s', k1, _, _, k4⟩
  obtain ⟨hL, hF⟩ := (h1.quiet hf).1.fr k4
  exact ⟨rfl, _, ⟨S, R, s', u, hL, k1, h3, h4, h5⟩, hF, hL.bl.cell 0, hL.bl.cell 1⟩

theorem cell_alloc {w : World} {a : Addr} {v : Value} (h : w.cell? a = some v) (o : Obj) : (w.alloc o).cell? a = some v := by
  exact cell_later ((Below.refl _ _).alloc (Nat.le_refl _) _) h

set_option maxRecDepth 100000 in
set_option maxHeartbeats 4000000 in
theorem lex_lit (ad : Addr) (g : World) (L : Nat) (ms : List Nat) (d : Int) (ts : List Tok) (w : World) (h : LexAt ad g w L ms d ts) (hk : (cur ts).kind ≠ -6) :
    Calls Tryz.prog 107 #[.pointer (some ⟨L, 0, none⟩)] w fun e w' => ∃ b ms', e = .returned (ptrV b) ∧ Bl w' b #[.int .i32 (cur ts).kind, str (cur ts).text, numV 0, numV 0] 198 ∧ w.heap.size ≤ b ∧ LexAt ad g w' L ms' d ts.tail ∧ Fr ms w ms' w' := by
  obtain ⟨S, c0, c1, hT⟩ := lex_text_f h
  have d1 : ((cur ts).kind == -6) = false := by simpa using hk
  have H := Lib.hid (And.intro h hT)
  clear h hT hk
  go_enter Tryz.func107, Tryz.ntmps107
  go_wp2_with fail
  go_region_held3 (fun w' => w'.cell? ⟨L, 0, none⟩ = some (.pointer (some ⟨S, 0, none⟩)) ∧ w'.cell? ⟨L, 1, none⟩ = some (.int .i32 (cur ts).kind)) (first | exact ⟨c0, c1⟩ | exact e01 | exact e01a _) ((
    go_at_call 55
    refine (H.out.2 _ (Fr.refl _ _).drew).mono ?_
    rintro e w1 ⟨rfl, ms1, k1, k2, e0, e1⟩
    have e01 := And.intro e0 e1
    have e01a := fun o => And.intro (cell_alloc e0 o) (cell_alloc e1 o)
    have e1a := fun o => cell_alloc e1 o
    have H1 := Lib.hid (And.intro k1 k2)
    clear k1 k2))
  clear e01 e01a e0 e1
  go_wp2_with fail
  refine (lex_ws ad g L ms1 d ts.tail _ (H1.out.1.alloc _).rdy).mono ?_
  rintro e w2 ⟨rfl, ms2, h2⟩
  have H2 := Lib.hid h2
  clear h2
  go_wp2_with fail
  go_ret
  have z1 := H1.out.2.kept.size
  exact ⟨w1.heap.size, ms2, rfl, (H1.out.1.keep (Bl.new w1 _ _) H2.out.2).1, by simpa using z1, H2.out.1, ((((Fr.refl _ _).drew).trans H1.out.2).alloc _).trans H2.out.2⟩

end Go.Proofs.YtobiaaabikfglaaGreatDoor
