/-
  The scanner's 'next' as a whole; Peek; isIdentRune; scanIdentifier. No conditions but lengths.
-/
import Derived.Test.YtobiaaabikfglaaGreatDoorR05
import Derived.Deep.LoopGhost
import Derived.WalkLawsBesides
namespace Go.Proofs.YtobiaaabikfglaaGreatDoor
open Go.RowKit Go.Proofs.YtobiaaabikfglaaGreatDoor.Pq Go.Lib

theorem next_any (S R : Nat) (s : Sc) (u acc : Bs) (ad : Addr) (g w : World) (h : SAt w S R s u acc) (G : Gd ad g w (s.ms S R)) (hl : acc.length ≤ 60) (hu : ∀ c, u.head? = some c → 0 < c.toNat ∧ c.toNat < 128) :
    Calls Tryz.prog 63 #[.pointer (some ⟨S, 0, none⟩)] w (Next1 S R s u acc w) := by
  rcases Nat.lt_or_ge s.pos s.fin with hp | hp
  · cases u with
    | nil =>
      obtain ⟨rd, _, hur⟩ := h.rd
      have := congrArg List.length hur
      have hl := h.sc.len
      have h2 := h.le2
      simp [Sc.have_] at this
      omega
    | cons c u' => obtain ⟨h1, h2⟩ := hu c rfl; exact next_fast S R s c u' acc w h h1 h2 hp
  · exact next_fill S R s u acc ad g w h G (by have := h.le; omega) hl hu

/-- the character read ahead is the first of u -/
structure Ahead (w : World) (S R : Nat) (s : Sc) (u acc : Bs) : Prop where
  at_ : SAt w S R s u.tail (acc ++ u.take 1)
  last : Last s (u.take 1)

/-- the scanner between two tokens: the text u is left -/
def Rdy (w : World) (S R : Nat) (s : Sc) (u : Bs) : Prop :=
  (s.ch = -2 ∧ SAt w S R s u [] ∧ s.tokPos < 0) ∨ (s.ch = hd u ∧ ∃ acc, Ahead w S R s u acc)

theorem SAt.noTok {w : World} {S R : Nat} {s : Sc} {u acc acc' : Bs} (h : SAt w S R s u acc) (ht : s.tokPos < 0) : SAt w S R s u acc' :=
  ⟨h.sc, h.src, h.rd, h.le, h.le2, h.sent, by obtain ⟨ta, h1, _⟩ := h.tb; exact ⟨ta, h1, .inl ht⟩⟩

theorem SAt.own0 {w w' : World} {S R : Nat} {s s' : Sc} {u acc : Bs} (h : SAt w S R s u acc) (hf : Fr [S] w [S] w') (hs : ScAt w' S s') (h1 : s'.src = s.src) (h2 : s'.tb = s.tb) (h3 : s'.buf = s.buf) (h4 : s'.pos = s.pos) (h5 : s'.fin = s.fin) (h6 : s'.tokPos = s.tokPos) : SAt w' S R s' u acc :=
  h.own hf hs h1 h2 (fun rd hu => by simpa [Sc.have_, h3, h4, h5] using hu) (by rw [h4, h5]; exact h.le) (by rw [h5]; exact h.le2) (by rw [h3, h5]; exact h.sent) (fun ta _ ht => by rw [h6, h4, h3]; exact ht)

theorem hd_small (u : Bs) : -1 ≤ hd u ∧ hd u < 256 := by
  cases u with
  | nil => simp [hd]
  | cons c u => have := c.toNat_lt; simp [hd]; omega

theorem nofunc_neq (w : World) : (binOp .neq 178 .nilFunc .nilFunc).run Tryz.prog w = .ok (.bool false) w := by kernel_rfl

set_option maxRecDepth 100000 in
set_option maxHeartbeats 1000000 in
theorem ident_ascii (S : Nat) (s : Sc) (c i : Nat) (ad : Addr) (w : World) (h : ScAt w S s) (G : Gl ad w) (hc : c < 128) (_hi : i ≤ 1000000) :
    Calls Tryz.prog 64 #[.pointer (some ⟨S, 0, none⟩), .int .i32 c, .int .i64 i] w fun e w' => e = .returned (.bool ((c == 95) || Lib.isLetterL c || (Lib.isDigitL c && decide (0 < i)))) ∧ w = w' := by
  have c0 := h.named.idr
  have hnf := nofunc_neq
  have hp := G.prop
  clear G h
  by_cases h1 : c = 95
  · subst h1
    go_enter Tryz.func64, Tryz.ntmps64
    go_wp2_with fail
    go_ret
    exact ⟨by simp, rfl⟩
  · have d1 : ((c : Int) == 95) = false := by simp; omega
    have d1' : (c == 95) = false := by simp; omega
    have HP := Lib.hid hp
    clear hp
    by_cases h2 : Lib.isLetterL c = true
    · have H2 := Lib.hid h2
      clear h2 h1
      go_enter Tryz.func64, Tryz.ntmps64
      go_wp2_with (go_at_call 94; refine (Tryz.unicode_IsLetter c _ (by omega) HP.out).mono ?_; rintro e w' ⟨rfl, rfl⟩; rw [H2.out])
      go_ret
      exact ⟨by rw [H2.out]; simp, rfl⟩
    · have h2 : Lib.isLetterL c = false := by simpa using h2
      have H2 := Lib.hid h2
      clear h2 h1
      by_cases h3 : Lib.isDigitL c = true
      · have H3 := Lib.hid h3
        clear h3
        go_enter Tryz.func64, Tryz.ntmps64
        go_wp2_with (first
          | (go_at_call 94; refine (Tryz.unicode_IsLetter c _ (by omega) HP.out).mono ?_; rintro e w' ⟨rfl, rfl⟩; rw [H2.out])
          | (go_at_call 95; refine (Tryz.unicode_IsDigit c _ (by omega)).mono ?_; rintro e w' ⟨rfl, rfl⟩; rw [H3.out]))
        go_ret
        exact ⟨by rw [H2.out, H3.out, d1']; simp, rfl⟩
      · have h3 : Lib.isDigitL c = false := by simpa using h3
        have H3 := Lib.hid h3
        clear h3
        go_enter Tryz.func64, Tryz.ntmps64
        go_wp2_with (first
          | (go_at_call 94; refine (Tryz.unicode_IsLetter c _ (by omega) HP.out).mono ?_; rintro e w' ⟨rfl, rfl⟩; rw [H2.out])
          | (go_at_call 95; refine (Tryz.unicode_IsDigit c _ (by omega)).mono ?_; rintro e w' ⟨rfl, rfl⟩; rw [H3.out]))
        go_ret
        exact ⟨by rw [H2.out, H3.out, d1']; simp, rfl⟩

theorem isLetterU_neg : Lib.isLetterU (-1) = false := by kernel_rfl

set_option maxRecDepth 100000 in
set_option maxHeartbeats 1000000 in
theorem ident_eof (S : Nat) (s : Sc) (i : Nat) (ad : Addr) (w : World) (h : ScAt w S s) (G : Gl ad w) (_hi : i ≤ 1000000) :
    Calls Tryz.prog 64 #[.pointer (some ⟨S, 0, none⟩), .int .i32 (-1), .int .i64 i] w fun e w' => e = .returned (.bool false) ∧ Below w.heap.size w w' := by
  have c0 := h.named.idr
  have hnf := nofunc_neq
  have HG := Lib.hid G
  clear G h
  go_enter Tryz.func64, Tryz.ntmps64
  go_wp2_with (first
    | (go_at_call 94; refine (Tryz.unicode_IsLetter_all (-1) _ (by omega) (by omega) HG.out.prop HG.out.letter).mono ?_; rintro e w' ⟨rfl, hB⟩; rw [isLetterU_neg])
    | (go_at_call 95; refine (Tryz.unicode_IsDigit (-1) _ (by omega)).mono ?_; rintro e w'' ⟨rfl, rfl⟩; rw [show Lib.isDigitL (-1) = false from rfl]))
  go_ret
  exact ⟨rfl, hB⟩

end Go.Proofs.YtobiaaabikfglaaGreatDoor

/-
  The scanner's Peek and scanIdentifier. No conditions but lengths.
-/
namespace Go.Proofs.YtobiaaabikfglaaGreatDoor
open Go.RowKit Go.Proofs.YtobiaaabikfglaaGreatDoor.Pq Go.Lib

/-- the first character of u, if there is one, is an ASCII one -/
def Asc (u : Bs) : Prop := ∀ c, u.head? = some c → 0 < c.toNat ∧ c.toNat < 128

theorem Asc.hd {u : Bs} (h : Asc u) : hd u < 128 := by
  cases u with
  | nil => simp [Go.Proofs.YtobiaaabikfglaaGreatDoor.hd]
  | cons c u => obtain ⟨_, h2⟩ := h c rfl; simp [Go.Proofs.YtobiaaabikfglaaGreatDoor.hd]; omega

/-- behind Peek -/
def Peeked (S R : Nat) (s : Sc) (u : Bs) (w : World) (e : Ending) (w' : World) : Prop :=
  e = .returned (.int .i32 (hd u)) ∧ ∃ s', s'.ch = hd u ∧ (∃ acc, Ahead w' S R s' u acc) ∧ s'.err = s.err ∧ s'.ec = s.ec ∧ Fr (s.ms S R) w (s'.ms S R) w'

set_option maxRecDepth 100000 in
set_option maxHeartbeats 1000000 in
theorem peek_any (S R : Nat) (s : Sc) (u : Bs) (ad : Addr) (g w : World) (h : Rdy w S R s u) (G : Gd ad g w (s.ms S R)) (hu : Asc u) :
    Calls Tryz.prog 62 #[.pointer (some ⟨S, 0, none⟩)] w (Peeked S R s u w) := by
  have hs := hd_small u
  have h128 := hu.hd
  rcases h with ⟨h1, h2, h3⟩ | ⟨h1, acc, h2⟩
  · have c0 := h2.sc.named.ch
    rw [h1] at c0
    have hb : (hd u == 65279) = false := by simp; omega
    have H := Lib.hid (And.intro h2 (And.intro h3 (And.intro G hu)))
    clear h1 h2 h3 G hu
    go_enter Tryz.func62, Tryz.ntmps62
    go_wp2_with (
      go_at_call 63
      refine (next_any S R s u [] ad g _ H.out.1 H.out.2.2.1 (by simp) H.out.2.2.2).mono ?_
      rintro e w1 ⟨rfl, s1, k1, k2, k3, k4⟩
      have f1 : ∀ o, w1.frozen? ⟨S, o, none⟩ = false := k1.sc.bl.free
      have e1 : w1.cell? ⟨S, 1038, none⟩ = some (.int .i32 s1.ch) := k1.sc.named.ch
      have HK := Lib.hid (And.intro k1 (And.intro k2 (And.intro k3 k4)))
      clear k1 k2 k3 k4)
    go_ret
    obtain ⟨k1, k2, k3, k4⟩ := HK.out
    have hf : Fr [S] w1 [S] (w1.setCell ⟨S, 1038, none⟩ (.int .i32 (hd u))) := (Fr.refl _ _).set (.inl (by simp)) _
    refine ⟨rfl, { s1 with ch := hd u }, rfl, ⟨[], k1.own0 hf (k1.sc.set_ch _) rfl rfl rfl rfl rfl rfl, ⟨k4.len, k4.le, k4.at_, k4.tp⟩⟩, k2.err, k2.ec, ?_⟩
    exact k3.set (.inl (by simp [Sc.ms])) _
  · have c0 := h2.at_.sc.named.ch
    rw [h1] at c0
    have hb : (hd u == -2) = false := by simp; omega
    have H := Lib.hid (And.intro h1 (And.intro h2 (And.intro G hu)))
    clear h1 h2 G hu
    go_enter Tryz.func62, Tryz.ntmps62
    go_wp2_with fail
    go_ret
    obtain ⟨h1, h2, G, hu⟩ := H.out
    exact ⟨rfl, s, h1, ⟨acc, h2⟩, rfl, rfl, Fr.refl _ _⟩

theorem letterL_eq : ∀ c : Fin 128, Lib.isLetterL c.val = (decide (65 ≤ c.val ∧ c.val ≤ 90) || decide (97 ≤ c.val ∧ c.val ≤ 122)) := by decide +kernel
theorem digitL_eq : ∀ c : Fin 128, Lib.isDigitL (c.val : Int) = decide (48 ≤ c.val ∧ c.val ≤ 57) := by decide +kernel

theorem ident_idB (c : UInt8) (h : c.toNat < 128) (i : Nat) (hi : 0 < i) : ((c.toNat == 95) || Lib.isLetterL c.toNat || (Lib.isDigitL c.toNat && decide (0 < i))) = idB c := by
  have h1 := letterL_eq ⟨c.toNat, h⟩
  have h2 := digitL_eq ⟨c.toNat, h⟩
  simp only at h1 h2
  rw [h1, h2, Bool.eq_iff_iff]
  simp [idB, letB, digB, hi, ← UInt8.toNat_inj]
  omega

theorem ident_letB (c : UInt8) (h : c.toNat < 128) : ((c.toNat == 95) || Lib.isLetterL c.toNat || (Lib.isDigitL c.toNat && decide (0 < 0))) = letB c := by
  have h1 := letterL_eq ⟨c.toNat, h⟩
  simp only at h1
  rw [h1, Bool.eq_iff_iff]
  simp [letB, ← UInt8.toNat_inj]
  omega

theorem idB_asc {c : UInt8} (h : idB c = true) : 0 < c.toNat ∧ c.toNat < 128 := by
  simp [idB, letB, digB, ← UInt8.toNat_inj] at h
  omega

theorem stop_asc {u : Bs} (h : Stop u) (h0 : ∀ c, u.head? = some c → 0 < c.toNat) : Asc u := fun c hc => ⟨h0 c hc, (h c hc).1⟩

/-- what a scanner's reader of a token leaves -/
def Scanned (S R : Nat) (s : Sc) (u acc : Bs) (w : World) (w' : World) : Prop :=
  ∃ s', Ahead w' S R s' u acc ∧ Same s s' ∧ Fr (s.ms S R) w (s'.ms S R) w'

set_option maxRecDepth 100000 in
set_option maxHeartbeats 2000000 in
theorem scan_ident (S R : Nat) (s : Sc) (c : UInt8) (l u : Bs) (ad : Addr) (g w : World) (h : SAt w S R s (l ++ u) [c]) (G : Gd ad g w (s.ms S R)) (hl : l.all idB = true) (hn : l.length ≤ 58) (hst : Stop u) (hu : Asc u) :
    Calls Tryz.prog 65 #[.pointer (some ⟨S, 0, none⟩)] w fun e w' => e = .returned (.int .i32 (hd u)) ∧ Scanned S R s u (c :: l) w w' := by
  have hasc : ∀ l1 l2, l = l1 ++ l2 → Asc (l2 ++ u) := by
    intro l1 l2 e c' hc'
    cases l2 with
    | nil => exact hu c' (by simpa using hc')
    | cons d l2 =>
      simp at hc'
      subst hc'
      rw [e] at hl
      simp [List.all_append] at hl
      exact idB_asc hl.2.1
  have H := Lib.hid (And.intro h (And.intro G (And.intro hl (And.intro hst (And.intro hu hasc)))))
  clear h G hl hst hu hasc
  go_enter Tryz.func65, Tryz.ntmps65
  go_wp2_with (
    go_at_call 63
    refine (next_any S R s (l ++ u) [c] ad g _ H.out.1 H.out.2.1 (by simp) (H.out.2.2.2.2.2 [] l rfl)).mono ?_
    rintro e w1 ⟨rfl, s1, k1, k2, k3, k4⟩
    have HK := Lib.hid (And.intro k1 (And.intro k2 (And.intro k3 k4)))
    clear k1 k2 k3 k4)
  go_loopw [3, 4] (fun v i wr => ∃ l1 l2 s2, l = l1 ++ l2 ∧ v = .int .i32 (hd (l2 ++ u)) ∧ i = .int .i64 ((l1.length + 1 : Nat) : Int) ∧ Ahead wr S R s2 (l2 ++ u) (c :: l1) ∧ Same s s2 ∧ Fr (s.ms S R) w (s2.ms S R) wr) (fun _ i _ => l.length + 1 - (intOf i).toNat)
  case atStart => exact ⟨[], l, s1, rfl, rfl, rfl, ⟨HK.out.1, HK.out.2.2.2⟩, HK.out.2.1, HK.out.2.2.1⟩
  case round =>
    obtain ⟨l1, l2, s2, he, rfl, rfl, hA, hS, hF⟩ := hrel
    have hlen : l1.length + l2.length = l.length := by rw [he]; simp
    cases l2 with
    | cons c' l2 =>
      rw [show hd (c' :: l2 ++ u) = (c'.toNat : Int) from rfl]
      have hc' := H.out.2.2.2.2.2 l1 (c' :: l2) he c' rfl
      have hidB : idB c' = true := by
        have := H.out.2.2.1
        rw [he] at this
        simp [List.all_append] at this
        exact this.2.1
      have hn1 : l1.length ≤ 57 := by simp at hlen; omega
      have hn2 : l1.length < l.length := by simp at hlen; omega
      have HR := Lib.hid (And.intro he (And.intro hA (And.intro hS (And.intro hF (And.intro hc' hidB)))))
      clear he hA hS hF hc' hidB hlen
      go_wp2_with (first
        | (go_at_call 64
           refine (ident_ascii S s2 c'.toNat (l1.length + 1) ad _ HR.out.2.1.at_.sc (H.out.2.1.fr HR.out.2.2.2.1).at_ HR.out.2.2.2.2.1.2 (by omega)).mono ?_
           rintro e w' ⟨rfl, rfl⟩
           rw [ident_idB c' HR.out.2.2.2.2.1.2 _ (by omega), HR.out.2.2.2.2.2])
        | (go_at_call 63
           refine (next_any S R s2 (l2 ++ u) (c :: l1 ++ [c']) ad g _ HR.out.2.1.at_ (H.out.2.1.fr HR.out.2.2.2.1) (by simp; omega) (H.out.2.2.2.2.2 (l1 ++ [c']) l2 (by rw [HR.out.1]; simp))).mono ?_
           rintro e w3 ⟨rfl, s3, k1, k2, k3, k4⟩
           have HK2 := Lib.hid (And.intro k1 (And.intro k2 (And.intro k3 k4)))
           clear k1 k2 k3 k4))
      go_roundw
      case rel => exact ⟨l1 ++ [c'], l2, s3, by rw [HR.out.1]; simp, rfl, by simp, ⟨by simpa using HK2.out.1, HK2.out.2.2.2⟩, HR.out.2.2.1.trans HK2.out.2.1, HR.out.2.2.2.1.trans HK2.out.2.2.1⟩
      case measure => simp [intOf]; omega
    | nil =>
      have hn1 : l1.length ≤ 58 := by simp at hlen; omega
      have hl1 : l = l1 := by rw [he]; simp
      cases u with
      | nil =>
        rw [show hd ([] ++ [] : Bs) = -1 from rfl]
        have HR := Lib.hid (And.intro hl1 (And.intro hA (And.intro hS hF)))
        clear he hA hS hF hl1 hlen
        go_wp2_with (
          go_at_call 64
          refine (ident_eof S s2 (l1.length + 1) ad _ HR.out.2.1.at_.sc (H.out.2.1.fr HR.out.2.2.2).at_ (by omega)).mono ?_
          rintro e w3 ⟨rfl, hB⟩
          have HB := Lib.hid hB
          clear hB)
        go_ret
        obtain ⟨rfl, hA, hS, hF⟩ := HR.out
        have hf1 : Fr [S] wr [S] w3 := (Fr.refl _ _).below HB.out
        refine ⟨rfl, s2, ⟨hA.at_.own0 hf1 (hA.at_.sc.fr ((Fr.refl _ _).below HB.out)) rfl rfl rfl rfl rfl rfl, hA.last⟩, hS, hF.below HB.out⟩
      | cons d u =>
        rw [show hd ([] ++ d :: u) = (d.toNat : Int) from rfl]
        have hd1 := H.out.2.2.2.1 d rfl
        have HR := Lib.hid (And.intro hl1 (And.intro hA (And.intro hS (And.intro hF hd1))))
        clear he hA hS hF hl1 hlen hd1
        go_wp2_with (
          go_at_call 64
          refine (ident_ascii S s2 d.toNat (l1.length + 1) ad _ HR.out.2.1.at_.sc (H.out.2.1.fr HR.out.2.2.2.1).at_ HR.out.2.2.2.2.1 (by omega)).mono ?_
          rintro e w' ⟨rfl, rfl⟩
          rw [ident_idB d HR.out.2.2.2.2.1 _ (by omega), HR.out.2.2.2.2.2.1])
        go_ret
        obtain ⟨rfl, hA, hS, hF, _⟩ := HR.out
        exact ⟨rfl, s2, hA, hS, hF⟩

end Go.Proofs.YtobiaaabikfglaaGreatDoor

/-
  The scanner's readers of numbers: isDecimal, lower, digits (to the base of ten), scanNumber at whole numbers. No conditions but lengths.
-/
namespace Go.Proofs.YtobiaaabikfglaaGreatDoor
open Go.RowKit Go.Proofs.YtobiaaabikfglaaGreatDoor.Pq Go.Lib

theorem dec_yes (n : Int) (w : World) (h1 : 48 ≤ n) (h2 : n ≤ 57) : Calls Tryz.prog 66 #[.int .i32 n] w fun e w' => e = .returned (.bool true) ∧ w = w' := by
  go_enter Tryz.func66, Tryz.ntmps66
  go_wp2_with fail
  go_ret
  exact ⟨rfl, rfl⟩
theorem dec_no (n : Int) (w : World) (h : n < 48 ∨ 57 < n) : Calls Tryz.prog 66 #[.int .i32 n] w fun e w' => e = .returned (.bool false) ∧ w = w' := by
  rcases h with h | h
  · have h' : ¬ 48 ≤ n := by omega
    go_enter Tryz.func66, Tryz.ntmps66
    go_wp2_with fail
    go_ret
    exact ⟨rfl, rfl⟩
  · have h' : 48 ≤ n := by omega
    have h'' : ¬ n ≤ 57 := by omega
    go_enter Tryz.func66, Tryz.ntmps66
    go_wp2_with fail
    go_ret
    exact ⟨rfl, rfl⟩

theorem digB_asc {c : UInt8} (h : digB c = true) : 48 ≤ c.toNat ∧ c.toNat ≤ 57 := by
  simp [digB] at h
  exact h

theorem digB_no {c : UInt8} (h : digB c = false) : c.toNat < 48 ∨ 57 < c.toNat := by
  rcases Nat.lt_or_ge c.toNat 48 with h1 | h1
  · exact .inl h1
  · rcases Nat.lt_or_ge 57 c.toNat with h2 | h2
    · exact .inr h2
    · simp [digB, h1, h2] at h

/-- behind digits no digit stands, and no low line -/
def NoDig (u : Bs) : Prop := ∀ c, u.head? = some c → digB c = false ∧ c ≠ 95

theorem NoDig.hd {u : Bs} (h : NoDig u) : (hd u < 48 ∨ 57 < hd u) ∧ hd u ≠ 95 := by
  cases u with
  | nil => simp [Go.Proofs.YtobiaaabikfglaaGreatDoor.hd]
  | cons c u =>
    obtain ⟨h1, h2⟩ := h c rfl
    have := digB_no h1
    simp only [Go.Proofs.YtobiaaabikfglaaGreatDoor.hd]
    refine ⟨by omega, fun e => h2 ?_⟩
    rw [← UInt8.toNat_inj]
    exact_mod_cast e

def dsOf (l : Bs) : Int := if l = [] then 0 else 1

set_option maxRecDepth 100000 in
set_option maxHeartbeats 2000000 in
theorem digits_any (S R : Nat) (s : Sc) (inv : Value) (a : Bs) (l u : Bs) (ad : Addr) (g w : World) (h : Ahead w S R s (l ++ u) a) (G : Gd ad g w (s.ms S R)) (hl : l.all digB = true) (hn : a.length + l.length ≤ 60) (hst : NoDig u) (hu : Asc u) :
    Calls Tryz.prog 97 #[.pointer (some ⟨S, 0, none⟩), .int .i32 (hd (l ++ u)), .int .i64 10, inv] w fun e w' => e = .returned (.tuple #[.int .i32 (hd u), .int .i64 (dsOf l)]) ∧ Scanned S R s u (a ++ l) w w' := by
  have hasc : ∀ l1 l2, l = l1 ++ l2 → Asc (l2 ++ u) := by
    intro l1 l2 e c' hc'
    cases l2 with
    | nil => exact hu c' (by simpa using hc')
    | cons d l2 =>
      simp at hc'
      subst hc'
      rw [e] at hl
      simp [List.all_append] at hl
      have := digB_asc hl.2.1
      omega
  have H := Lib.hid (And.intro h (And.intro G (And.intro hl (And.intro hst (And.intro hu hasc)))))
  clear h G hl hst hu hasc
  go_enter Tryz.func97, Tryz.ntmps97
  go_wp2_with fail
  go_loopg [8, 9] l.length (fun k v d wr => ∃ l1 l2 s2, k = l2.length ∧ l = l1 ++ l2 ∧ v = .int .i32 (hd (l2 ++ u)) ∧ d = .int .i64 (dsOf l1) ∧ Ahead wr S R s2 (l2 ++ u) (a ++ l1) ∧ Same s s2 ∧ Fr (s.ms S R) w (s2.ms S R) wr)
  case atStart => exact ⟨[], l, s, rfl, rfl, rfl, rfl, by simpa using H.out.1, ⟨rfl, rfl, rfl, rfl, Iff.rfl⟩, Fr.refl _ _⟩
  case round =>
    obtain ⟨l1, l2, s2, hk, he, rfl, rfl, hA, hS, hF⟩ := hrel
    have hlen : l1.length + l2.length = l.length := by rw [he]; simp
    cases l2 with
    | cons c' l2 =>
      rw [show hd (c' :: l2 ++ u) = (c'.toNat : Int) from rfl]
      have hdig : digB c' = true := by
        have := H.out.2.2.1
        rw [he] at this
        simp [List.all_append] at this
        exact this.2.1
      obtain ⟨hc1, hc2⟩ := digB_asc hdig
      have d1 : ((c'.toNat : Int) == 95) = false := by simp; omega
      have d2 : ¬ (58 : Int) ≤ c'.toNat := by omega
      have d3 : decide ((58 : Int) ≤ c'.toNat) = false := by simp; omega
      have hn1 : a.length + l1.length + 1 ≤ 60 := by simp at hlen; omega
      have hkk : l2.length < gk := by rw [hk]; simp
      have HR := Lib.hid (And.intro he (And.intro hA (And.intro hS (And.intro hF (And.intro hc1 (And.intro hc2 hkk))))))
      clear he hA hS hF hc1 hc2 hlen hdig hk hkk d2
      rcases l1 with _ | ⟨x1, l1⟩
      · rw [show dsOf [] = 0 from rfl]
        go_wp2_with (first
          | (go_at_call 66; refine (dec_yes _ _ (by have := HR.out.2.2.2.2.1; omega) (by have := HR.out.2.2.2.2.2.1; omega)).mono ?_; rintro e w' ⟨rfl, rfl⟩)
          | (go_at_call 63
             refine (next_any S R s2 (l2 ++ u) (a ++ [] ++ [c']) ad g _ HR.out.2.1.at_ (H.out.2.1.fr HR.out.2.2.2.1) (by simpa using hn1) (H.out.2.2.2.2.2 ([] ++ [c']) l2 (by rw [HR.out.1]; simp))).mono ?_
             rintro e w3 ⟨rfl, s3, k1, k2, k3, k4⟩
             have HK2 := Lib.hid (And.intro k1 (And.intro k2 (And.intro k3 k4)))
             clear k1 k2 k3 k4))
        go_roundg l2.length
        case rel => exact ⟨[c'], l2, s3, rfl, by rw [HR.out.1]; simp, rfl, rfl, ⟨by simpa using HK2.out.1, HK2.out.2.2.2⟩, HR.out.2.2.1.trans HK2.out.2.1, HR.out.2.2.2.1.trans HK2.out.2.2.1⟩
        case measure => exact HR.out.2.2.2.2.2.2
      · rw [show dsOf (x1 :: l1) = 1 from rfl]
        go_wp2_with (first
          | (go_at_call 66; refine (dec_yes _ _ (by have := HR.out.2.2.2.2.1; omega) (by have := HR.out.2.2.2.2.2.1; omega)).mono ?_; rintro e w' ⟨rfl, rfl⟩)
          | (go_at_call 63
             refine (next_any S R s2 (l2 ++ u) (a ++ (x1 :: l1) ++ [c']) ad g _ HR.out.2.1.at_ (H.out.2.1.fr HR.out.2.2.2.1) (by simp at hn1 ⊢; omega) (H.out.2.2.2.2.2 ((x1 :: l1) ++ [c']) l2 (by rw [HR.out.1]; simp))).mono ?_
             rintro e w3 ⟨rfl, s3, k1, k2, k3, k4⟩
             have HK2 := Lib.hid (And.intro k1 (And.intro k2 (And.intro k3 k4)))
             clear k1 k2 k3 k4))
        go_roundg l2.length
        case rel => exact ⟨(x1 :: l1) ++ [c'], l2, s3, rfl, by rw [HR.out.1]; simp, rfl, rfl, ⟨by simpa using HK2.out.1, HK2.out.2.2.2⟩, HR.out.2.2.1.trans HK2.out.2.1, HR.out.2.2.2.1.trans HK2.out.2.2.1⟩
        case measure => exact HR.out.2.2.2.2.2.2
    | nil =>
      have hl1 : l = l1 := by rw [he]; simp
      rw [show hd ([] ++ u) = hd u from rfl]
      have HN := Lib.hid (H.out.2.2.2.1.hd)
      have HR := Lib.hid (And.intro hl1 (And.intro hA (And.intro hS hF)))
      have d1 : (hd u == 95) = false := by have := HN.out.2; simpa using this
      clear he hA hS hF hl1 hlen hk
      go_wp2_with (go_at_call 66; refine (dec_no _ _ HN.out.1).mono ?_; rintro e w' ⟨rfl, rfl⟩)
      go_ret2
      obtain ⟨rfl, hA, hS, hF⟩ := HR.out
      exact ⟨rfl, s2, by simpa using hA, hS, hF⟩

end Go.Proofs.YtobiaaabikfglaaGreatDoor

/-
  The scanner's scanNumber at whole numbers. No conditions but lengths.
-/
namespace Go.Proofs.YtobiaaabikfglaaGreatDoor
open Go.RowKit Go.Proofs.YtobiaaabikfglaaGreatDoor.Pq Go.Lib

theorem SAt.lt {w : World} {S R : Nat} {s : Sc} {u acc : Bs} (h : SAt w S R s u acc) : ∀ k, k ∈ s.ms S R → k < w.heap.size := by
  intro k hk
  simp only [Sc.ms, List.mem_cons] at hk
  rcases hk with rfl | rfl | hk
  · exact h.sc.bl.lt
  · obtain ⟨rd, hr, _⟩ := h.rd
    obtain ⟨_, _, _, hb, _⟩ := hr.ex
    exact hb.lt
  · obtain ⟨ta, ht, _⟩ := h.tb
    generalize s.tb = v at *
    cases ht with
    | none => simp [rowOf] at hk
    | row T cs acc hb _ _ _ _ _ => simp [rowOf] at hk; rw [hk]; exact hb.lt

theorem Ahead.alloc {w : World} {S R : Nat} {s : Sc} {u acc : Bs} (h : Ahead w S R s u acc) (o : Obj) : Ahead (w.alloc o) S R s u acc :=
  ⟨h.at_.own0 ((Fr.refl _ _).alloc o) (h.at_.sc.alloc o) rfl rfl rfl rfl rfl rfl, h.last⟩
theorem Gd.alloc {ad : Addr} {g w : World} {ms : List Nat} (h : Gd ad g w ms) (o : Obj) : Gd ad g (w.alloc o) ms := h.fr ((Fr.refl _ _).alloc o)

theorem lower_any (n : Int) (w : World) : Calls Tryz.prog 96 #[.int .i32 n] w fun e w' => e = .returned (.int .i32 (bits .or .i32 32 n)) ∧ w = w' := by
  go_enter Tryz.func96, Tryz.ntmps96
  go_wp2_with fail
  go_ret
  exact ⟨rfl, rfl⟩

theorem lower_e : ∀ c : Fin 128, ((bits .or .i32 32 (c.val : Int) == 101) = decide (c.val = 69 ∨ c.val = 101)) ∧ ((bits .or .i32 32 (c.val : Int) == 112) = decide (c.val = 80 ∨ c.val = 112)) := by decide +kernel
theorem lower_eof : ((bits .or .i32 32 (-1) == 101) = false) ∧ ((bits .or .i32 32 (-1) == 112) = false) := by decide +kernel

theorem stop_lower {u : Bs} (h : Stop u) : ((bits .or .i32 32 (hd u) == 101) = false) ∧ ((bits .or .i32 32 (hd u) == 112) = false) := by
  cases u with
  | nil => exact lower_eof
  | cons c u =>
    obtain ⟨h1, h2, h3⟩ := h c rfl
    have h4 := lower_e ⟨c.toNat, h1⟩
    simp only at h4
    have : c.toNat ≠ 69 ∧ c.toNat ≠ 101 ∧ c.toNat ≠ 80 ∧ c.toNat ≠ 112 := by
      simp [idB, letB, digB, ← UInt8.toNat_inj] at h2
      omega
    simp only [hd]
    rw [h4.1, h4.2]
    simp
    omega

theorem stop_noDig {u : Bs} (h : Stop u) : NoDig u := fun c hc => by
  obtain ⟨h1, h2, h3⟩ := h c hc
  simp only [idB, Bool.or_eq_false_iff] at h2
  refine ⟨h2.2, fun e => ?_⟩
  subst e
  simp [letB] at h2

theorem stop_dot {u : Bs} (h : Stop u) : (hd u == 46) = false := by
  cases u with
  | nil => rfl
  | cons c u =>
    obtain ⟨_, _, h3⟩ := h c rfl
    simp only [hd, beq_eq_false_iff_ne, ne_eq]
    intro e
    exact h3 (by rw [← UInt8.toNat_inj]; exact_mod_cast e)

set_option maxRecDepth 100000 in
set_option maxHeartbeats 4000000 in
theorem scan_int (S R : Nat) (s : Sc) (c : UInt8) (l u : Bs) (ad : Addr) (g w : World) (h : Ahead w S R s (c :: l ++ u) []) (G : Gd ad g w (s.ms S R)) (hc : digB c = true) (h0 : c ≠ 48) (hl : l.all digB = true) (hn : l.length ≤ 58) (hst : Stop u) (hu : Asc u) :
    Calls Tryz.prog 67 #[.pointer (some ⟨S, 0, none⟩), .int .i32 c.toNat, .bool false] w fun e w' => e = .returned (.tuple #[.int .i32 (-3), .int .i32 (hd u)]) ∧ Scanned S R s u (c :: l) w w' := by
  obtain ⟨e1, e2⟩ := stop_lower hst
  have e3 := stop_dot hst
  have d0 : ((c.toNat : Int) == 48) = false := by
    simp only [beq_eq_false_iff_ne, ne_eq]
    intro e
    exact h0 (by rw [← UInt8.toNat_inj]; exact_mod_cast e)
  have H := Lib.hid (And.intro h (And.intro G (And.intro hc (And.intro hl (And.intro hst hu)))))
  clear h G hc h0 hl hst hu
  go_enter Tryz.func67, Tryz.ntmps67
  go_wp2_with (first
    | (go_at_call 97
       refine (digits_any S R s _ [] (c :: l) u ad g _ (H.out.1.alloc _) (H.out.2.1.alloc _) (by simp [H.out.2.2.1]; simpa using H.out.2.2.2.1) (by simp; omega) (stop_noDig H.out.2.2.2.2.1) H.out.2.2.2.2.2).mono ?_
       rintro e w1 ⟨rfl, s1, k1, k2, k3⟩
       rw [show dsOf (c :: l) = 1 from rfl]
       have hb := (k3.bl (Bl.new w #[.int .i32 0] _) (fun hk => Nat.lt_irrefl _ (H.out.1.at_.lt _ hk))).1
       have e11 : w1.cell? ⟨w.heap.size, 0, none⟩ = some (.int .i32 0) := hb.cell 0
       have HK := Lib.hid (And.intro k1 (And.intro k2 k3))
       clear k1 k2 k3 hb)
    | (go_at_call 96; refine (lower_any _ _).mono ?_; rintro e w' ⟨rfl, rfl⟩))
  go_ret2
  obtain ⟨k1, k2, k3⟩ := HK.out
  exact ⟨rfl, s1, k1, k2, ((Fr.refl _ _).alloc _).trans k3⟩

end Go.Proofs.YtobiaaabikfglaaGreatDoor
