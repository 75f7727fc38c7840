/-
  The parser of sets of selections by a contract. No conditions but lengths.
-/
import Derived.Test.YtobiaaabikfglaaGreatDoorR14
namespace Go.Proofs.YtobiaaabikfglaaGreatDoor
open Go.RowKit Go.Proofs.YtobiaaabikfglaaGreatDoor.Pq Go.Lib

theorem SelAt.shape {B : Bk} {s : Sel} {x : Value} (h : SelAt B s x) : ∃ T b, x = .iface T (ptrV b) := by
  cases s with
  | field a n gs ds ss => obtain ⟨b, _, _, _, _, _, _, _, _, _, _, _, _, h1, _⟩ := h; exact ⟨_, b, h1⟩
  | spread n ds => obtain ⟨b, _, _, _, _, _, _, h1, _⟩ := h; exact ⟨_, b, h1⟩
  | inline on ds ss => obtain ⟨b, _, _, _, _, _, _, _, _, h1, _⟩ := h; exact ⟨_, b, h1⟩

theorem SelsAt.snoc {B : Bk} {d : Sel} {y : Value} (hv : SelAt B d y) : ∀ (vs : List Sel) (xs : List Value), SelsAt B vs xs → SelsAt B (vs ++ [d]) (xs ++ [y])
  | [], xs => fun h => by
    have h : xs = [] := h
    subst h
    exact ⟨y, [], rfl, hv, rfl⟩
  | u :: us, xs => fun ⟨z, zs, h1, h2, h3⟩ => ⟨z, zs ++ [y], by rw [h1]; rfl, h2, SelsAt.snoc hv us zs h3⟩

set_option maxRecDepth 100000 in
set_option maxHeartbeats 4000000 in
theorem sel_any (ad : Addr) (g : World) (L : Nat) (f : Nat) (ih : SetGoal ad g L f) : SelGoal ad g L (f + 1) := by
  intro d ts ms w hd hf h hu
  by_cases hk : (cur ts).kind = 46
  · have d1 : ((cur ts).kind == 46) = true := by rw [hk]; rfl
    have H := Lib.hid (And.intro h (And.intro hk (And.intro hu hf)))
    clear h hk hu hf
    go_enter Tryz.func54, Tryz.ntmps54
    go_wp2_with fail
    refine (lex_peek ad g L ms d ts _ H.out.1).mono ?_
    rintro e w' ⟨rfl, rfl⟩
    go_wp2_with fail
    refine (spread_any ad g L f ih d ts ms _ hd (by have := H.out.2.2.2; omega) H.out.1 H.out.2.1 H.out.2.2.1).mono ?_
    intro e w1 h1
    obtain ⟨r, hr⟩ : ∃ r, pSel (f + 1) d ts = r := ⟨_, rfl⟩
    rw [hr] at h1
    have hru : r ≠ .unk := fun e => H.out.2.2.1 (by rw [hr, e])
    have HR := Lib.hid hr
    clear hr
    cases r with
    | unk => exact absurd rfl hru
    | err =>
      obtain ⟨m, ms1, d2, ts1, rfl, k1, k2⟩ := h1
      refine ⟨rfl, ?_⟩
      show PRes _ _ _ _ _ _ _ _ _ _
      rw [HR.out]
      exact ⟨m, ms1, _, ts1, rfl, k1, k2⟩
    | ok p =>
      obtain ⟨x, ms1, rfl, q1, k2, k3⟩ := h1
      obtain ⟨T, b, rfl⟩ := q1.shape
      have H2 := Lib.hid (And.intro q1 (And.intro k2 k3))
      clear q1 k2 k3
      go_wp2_with fail
      go_ret
      rw [HR.out]
      exact ⟨_, ms1, rfl, H2.out⟩
  · have d1 : ((cur ts).kind == 46) = false := by simpa using hk
    have H := Lib.hid (And.intro h (And.intro hk (And.intro hu hf)))
    clear h hk hu hf
    go_enter Tryz.func54, Tryz.ntmps54
    go_wp2_with fail
    refine (lex_peek ad g L ms d ts _ H.out.1).mono ?_
    rintro e w' ⟨rfl, rfl⟩
    go_wp2_with fail
    refine (field_any ad g L f ih d ts ms _ hd (by have := H.out.2.2.2; omega) H.out.1 H.out.2.1 H.out.2.2.1).mono ?_
    intro e w1 h1
    obtain ⟨r, hr⟩ : ∃ r, pSel (f + 1) d ts = r := ⟨_, rfl⟩
    rw [hr] at h1
    have hru : r ≠ .unk := fun e => H.out.2.2.1 (by rw [hr, e])
    have HR := Lib.hid hr
    clear hr
    cases r with
    | unk => exact absurd rfl hru
    | err =>
      obtain ⟨m, ms1, d2, ts1, rfl, k1, k2⟩ := h1
      refine ⟨rfl, ?_⟩
      show PRes _ _ _ _ _ _ _ _ _ _
      rw [HR.out]
      exact ⟨m, ms1, _, ts1, rfl, k1, k2⟩
    | ok p =>
      obtain ⟨x, ms1, rfl, ⟨b, rfl, q1⟩, k2, k3⟩ := h1
      have H2 := Lib.hid (And.intro q1 (And.intro k2 k3))
      clear q1 k2 k3
      go_wp2_with fail
      go_ret
      rw [HR.out]
      exact ⟨_, ms1, rfl, H2.out⟩

structure SetRel (ad : Addr) (g w : World) (L : Nat) (ms : List Nat) (d : Nat) (f : Nat) (r0 : Res (List Sel × List Tok)) (k : Nat) (v : Value) (wr : World) (ts : List Tok) (acc : List Sel) (xs : List Value) (ms2 : List Nat) : Prop where
  pure : r0 = pSels k (d + 1) ts acc
  lex : LexAt ad g wr L ms2 ((d + 1 : Nat) : Int) ts
  row : Grows wr w.heap.size 119 v acc.length xs
  el : SelsAt (From wr w.heap.size v.ownBlock) acc xs
  fr : Fr ms w ms2 wr
  le : acc.length + k ≤ f + 1

set_option maxRecDepth 100000 in
set_option maxHeartbeats 8000000 in
theorem set_any (ad : Addr) (g : World) (L : Nat) (f : Nat) (ih : ∀ k, k ≤ f → SelGoal ad g L k) : SetGoal ad g L (f + 1) := by
  intro d ts ms w hd0 hf h hu
  obtain ⟨i0, hi, hz0, hz1, hz2⟩ := info_parts (by kernel_rfl : (Tryz.prog.info? 119).map (fun i => (i.zero, i.size, i.bytes)) = some (some .nilIface, 1, 16))
  have he : pSet (f + 1) d ts = if d + 1 > maxDepth then .err else (want 123 ts).bind fun t1 => (pSel f (d + 1) t1).bind fun p => pSels f (d + 1) p.2 [p.1] := by rw [pSet]
  obtain ⟨r0, hr0⟩ : ∃ r0, pSet (f + 1) d ts = r0 := ⟨_, rfl⟩
  rw [hr0] at he hu ⊢
  clear hr0
  by_cases hd : d + 1 ≤ 1000
  · rw [if_neg (by unfold maxDepth; omega)] at he
    have H := Lib.hid (And.intro h (And.intro hu hf))
    have HE := Lib.hid he
    clear h he hu hf
    go_enter_defers Tryz.func39, Tryz.ntmps39
    go_wp2_with fail
    refine (lex_down ad g L ms d ts _ H.out.1 hd).mono ?_
    rintro e w1 ⟨rfl, k1, k2⟩
    have H1 := Lib.hid (And.intro k1 k2)
    clear k1 k2
    go_wp2_with fail
    by_cases hc : (cur ts).kind = 123
    · have hpu := HE.out
      rw [want, if_pos hc] at hpu
      simp only [Res.bind] at hpu
      have HC := Lib.hid (And.intro hc hpu)
      clear hc hpu HE
      refine (lex_tok ad g L ms _ ts 123 _ H1.out.1 HC.out.1).mono ?_
      rintro e w2 ⟨rfl, ms2, k1, k2⟩
      have H2 := Lib.hid (And.intro k1 (H1.out.2.trans k2))
      clear k1 k2 H1
      go_wp2_with fail
      obtain ⟨r, hr⟩ : ∃ r, pSel f (d + 1) ts.tail = r := ⟨_, rfl⟩
      have hpu := HC.out.2
      rw [hr] at hpu
      have hru : r ≠ .unk := fun e => by rw [e] at hpu; exact H.out.2.1 hpu
      have HP := Lib.hid hpu
      clear hpu
      refine (ih f (Nat.le_refl _) (d + 1) ts.tail ms2 _ hd (by have := H.out.2.2; omega) H2.out.1 (by rw [hr]; exact hru)).mono ?_
      intro e w3 h3
      rw [hr] at h3
      clear hr
      cases r with
      | unk => exact absurd rfl hru
      | err =>
        obtain ⟨m, ms3, d3, ts3, rfl, k1, k2⟩ := h3
        refine door_panic k1 (fun w' a b => ?_)
        rw [HP.out]
        exact ⟨m, ms3, _, ts3, rfl, a, (H2.out.2.trans k2).trans b⟩
      | ok p =>
      obtain ⟨x, ms3, rfl, q1, k2, k3⟩ := h3
      obtain ⟨T, b, rfl⟩ := q1.shape
      have hW : Fr [] w3 [] (w3.alloc (.cells #[.iface T (ptrV b)] 119)) := (Fr.refl _ _).alloc _
      have hR0 : Grows w2 w.heap.size 119 (.slice none 0 0) 0 [] := ⟨World.ownsRow_nil _ _ _ 1, H2.out.2.kept.size⟩
      have hA := Lib.hid (next_v H2.out.1 hR0 k3 (by decide) hW)
      have hE : Hid (SelsAt (From (w3.alloc (.cells #[.iface T (ptrV b)] 119)) w.heap.size none) [p.1] [.iface T (ptrV b)]) :=
        Lib.hid (SelsAt.snoc (SelAt.mono (fun b' cs t k => hA.out.new b' cs t k) _ _ q1) [] [] rfl)
      have H3 := Lib.hid (And.intro k2 k3)
      have hcell : (w3.alloc (.cells #[.iface T (ptrV b)] 119)).cell? ⟨w3.heap.size, 0, none⟩ = some (.iface T (ptrV b)) := (Bl.new w3 _ _).cell 0
      have HCe := Lib.hid hcell
      clear k2 k3 q1 hru hcell hW hR0
      go_wp2_with (
        at_builtin
        refine wpList_append_more _ rfl (.tmp 9) (.tmp 12) 52 rfl w.heap.size 119 i0 .nilIface 16 Tryz.underlying52 hi hz0 hz1 hz2 rfl (.slice none 0 0) 0 [] rfl hA.out.row.own ⟨w3.heap.size, 0, none⟩ 1 (.iface T (ptrV b)) rfl HCe.out rfl (by decide) (by decide) hA.out.row.le ?_
        intro v' w4 ho hg hfr
        have HG := Lib.hid (And.intro ho (And.intro hg hfr))
        clear ho hg hfr)
      go_loopg [3] f (fun k v wr => ∃ ts' acc xs ms', SetRel ad g w L ms d f r0 k v wr ts' acc xs ms')
      case atStart =>
        obtain ⟨ho, hg, hfr⟩ := HG.out
        refine ⟨p.2, [p.1], [.iface T (ptrV b)], ms3, HP.out, ?_, ?_, SelsAt.mono (From.step hg hfr) _ _ hE.out, ?_, by simp; omega⟩
        · exact (H3.out.1.alloc _).row hA.out.row (by decide) H.out.1.base hg
        · have := Grows.step ho hA.out.row.le hg
          simpa using this
        · exact ((H2.out.2.trans H3.out.2).alloc _).grownOut hg (fun k hk => (hA.out.row.row_lt k hk).2.1)
      case round =>
        obtain ⟨ts', acc, xs, ms', hR⟩ := hrel
        have HR := Lib.hid hR
        clear hR H2 H3 HG hA hE HCe HP HC
        cases gk with
        | zero =>
          refine absurd ?_ H.out.2.1
          rw [HR.out.pure, pSels]
        | succ k =>
          have hstep : pSels (k + 1) (d + 1) ts' acc = if (cur ts').kind = 125 then .ok (acc, ts'.tail) else (pSel k (d + 1) ts').bind fun p => pSels k (d + 1) p.2 (acc ++ [p.1]) := by rw [pSels]
          have HS := Lib.hid hstep
          clear hstep
          go_wp2_with fail
          refine (lex_peek ad g L ms' _ ts' _ HR.out.lex).mono ?_
          rintro e w' ⟨rfl, rfl⟩
          by_cases hc : (cur ts').kind = 125
          · have d1 : ((cur ts').kind != 125) = false := by simpa using hc
            have hpu : r0 = _ := HR.out.pure.trans (HS.out.trans (if_pos hc))
            have HC := Lib.hid (And.intro hc hpu)
            clear hc hpu
            go_wp2_with fail
            refine (lex_tok ad g L ms' _ ts' 125 _ HR.out.lex HC.out.1).mono ?_
            rintro e w5 ⟨rfl, ms5, k2, k3⟩
            obtain ⟨ao, sl, sc, rfl⟩ := HR.out.row.shape
            have H5 := Lib.hid (And.intro k2 k3)
            clear k2 k3
            go_wp2_with fail
            refine door_ret H5.out.1 _ (fun _ => results_tmp rfl _ _ _) (fun w' a b => ?_)
            rw [HC.out.2]
            have hrow := (HR.out.row.lex (by decide) HR.out.lex H5.out.2).lex (by decide) H5.out.1 b
            refine ⟨_, ms5, rfl, ⟨xs, hrow.at_ (by decide), ?_⟩, by rw [wrap_up d hd0] at a; exact a, (HR.out.fr.trans H5.out.2).trans b⟩
            refine SelsAt.mono (fun b' cs t k => ?_) _ _ HR.out.el
            have k2 := H5.out.1.keeps b _ _ _ _ _ (HR.out.lex.keeps H5.out.2 _ _ _ _ _ k)
            exact ⟨k2.1, k2.2.1, k2.2.2.1, by simp⟩
          · have d1 : ((cur ts').kind != 125) = true := by simpa using hc
            have hpu : r0 = _ := HR.out.pure.trans (HS.out.trans (if_neg hc))
            have HP0 := Lib.hid hpu
            clear hc hpu
            go_wp2_with fail
            obtain ⟨r, hr⟩ : ∃ r, pSel k (d + 1) ts' = r := ⟨_, rfl⟩
            have hpu := HP0.out
            clear HP0
            rw [hr] at hpu
            have hru : r ≠ .unk := fun e => by rw [e] at hpu; exact H.out.2.1 hpu
            have HP := Lib.hid hpu
            clear hpu
            refine (ih k (by have := HR.out.le; omega) (d + 1) ts' ms' _ hd (by have := HR.out.le; have := H.out.2.2; omega) HR.out.lex (by rw [hr]; exact hru)).mono ?_
            intro e w3 h3
            rw [hr] at h3
            clear hr
            cases r with
            | unk => exact absurd rfl hru
            | err =>
              obtain ⟨m, ms3, d3, ts3, rfl, k1, k2⟩ := h3
              refine door_panic k1 (fun w' a b => ?_)
              rw [HP.out]
              exact ⟨m, ms3, _, ts3, rfl, a, (HR.out.fr.trans k2).trans b⟩
            | ok p =>
            obtain ⟨x, ms3, rfl, q1, k2, k3⟩ := h3
            obtain ⟨T, b, rfl⟩ := q1.shape
            have hlen : acc.length + 1 ≤ FMax := by have := HR.out.le; have := H.out.2.2; omega
            have hW : Fr [] w3 [] (w3.alloc (.cells #[.iface T (ptrV b)] 119)) := (Fr.refl _ _).alloc _
            have hA := Lib.hid (next_v HR.out.lex HR.out.row k3 (by decide) hW)
            have hE : Hid (SelsAt (From (w3.alloc (.cells #[.iface T (ptrV b)] 119)) w.heap.size u3.ownBlock) (acc ++ [p.1]) (xs ++ [.iface T (ptrV b)])) :=
              Lib.hid (SelsAt.snoc (SelAt.mono (fun b' cs t k => hA.out.new b' cs t k) _ _ q1) _ _ (SelsAt.mono (fun b' cs t k => hA.out.old b' cs t k) _ _ HR.out.el))
            have H3 := Lib.hid (And.intro k2 k3)
            have hcell : (w3.alloc (.cells #[.iface T (ptrV b)] 119)).cell? ⟨w3.heap.size, 0, none⟩ = some (.iface T (ptrV b)) := (Bl.new w3 _ _).cell 0
            have HCe := Lib.hid hcell
            clear k2 k3 q1 hru hcell hW
            go_wp2_with (
              at_builtin
              refine wpList_append_more _ rfl (.tmp 17) (.tmp 20) 52 rfl w.heap.size 119 i0 .nilIface 16 Tryz.underlying52 hi hz0 hz1 hz2 rfl u3 acc.length xs rfl hA.out.row.own ⟨w3.heap.size, 0, none⟩ 1 (.iface T (ptrV b)) rfl HCe.out rfl (by unfold FMax at hlen; unfold maxLen; omega) (by unfold FMax at hlen; omega) hA.out.row.le ?_
              intro v' w4 ho hg hfr
              have HG := Lib.hid (And.intro ho (And.intro hg hfr))
              clear ho hg hfr)
            go_roundg k
            case measure => omega
            case rel =>
              obtain ⟨ho, hg, hfr⟩ := HG.out
              refine ⟨p.2, acc ++ [p.1], xs ++ [.iface T (ptrV b)], ms3, HP.out, ?_, ?_, SelsAt.mono (From.step hg hfr) _ _ hE.out, ?_, by have := HR.out.le; simp; omega⟩
              · exact (H3.out.1.alloc _).row hA.out.row (by decide) H.out.1.base hg
              · have := Grows.step ho hA.out.row.le hg
                simpa using this
              · exact ((HR.out.fr.trans H3.out.2).alloc _).grownOut hg (fun k hk => (hA.out.row.row_lt k hk).2.1)
    · have hpu := HE.out
      rw [want, if_neg hc] at hpu
      have HC := Lib.hid (And.intro hc hpu)
      clear hc hpu HE
      refine (lex_tok_err ad g L ms _ ts 123 _ H1.out.1 HC.out.1).mono ?_
      rintro e w2 ⟨m, ms2, d2, ts2, rfl, k1, k2⟩
      refine door_panic k1 (fun w' a b => ?_)
      rw [HC.out.2]
      exact ⟨m, ms2, _, ts2, rfl, a, (H1.out.2.trans k2).trans b⟩
  · rw [if_pos (by unfold maxDepth; omega)] at he
    have H := Lib.hid (And.intro h he)
    clear h he hu hf
    go_enter_defers Tryz.func39, Tryz.ntmps39
    go_wp2_with fail
    refine (lex_down_err ad g L ms d ts _ H.out.1 hd (by omega)).mono ?_
    rintro e w1 ⟨m, ms1, d1', ts1, rfl, k1, k2⟩
    show PRes _ _ _ _ _ _ _ _ _ _
    rw [H.out.2]
    exact ⟨m, ms1, _, ts1, rfl, k1, k2⟩

theorem set_sel (ad : Addr) (g : World) (L : Nat) : ∀ f, (∀ k, k ≤ f → SetGoal ad g L k ∧ SelGoal ad g L k)
  | 0 => fun k hk => by
    obtain rfl : k = 0 := by omega
    exact ⟨fun d ts ms w _ _ _ hu => absurd (by rw [pSet]) hu, fun d ts ms w _ _ _ hu => absurd (by rw [pSel]) hu⟩
  | f + 1 => fun k hk => by
    have ih := set_sel ad g L f
    by_cases h : k = f + 1
    · subst h
      exact ⟨set_any ad g L f (fun k hk => (ih k hk).2), sel_any ad g L f (ih f (Nat.le_refl _)).1⟩
    · exact ih k (by omega)

/-- ████ sets of selections -/
theorem sgoal (ad : Addr) (g : World) (L : Nat) (f : Nat) : SetGoal ad g L f := (set_sel ad g L f f (Nat.le_refl _)).1

end Go.Proofs.YtobiaaabikfglaaGreatDoor

/-
  The lexer's descriptions (none: no text stands here) and its words. No conditions but lengths.
-/
namespace Go.Proofs.YtobiaaabikfglaaGreatDoor
open Go.RowKit Go.Proofs.YtobiaaabikfglaaGreatDoor.Pq Go.Lib

set_option maxRecDepth 100000 in
theorem lex_nodesc (ad : Addr) (g : World) (L : Nat) (ms : List Nat) (d : Int) (ts : List Tok) (w : World) (h : LexAt ad g w L ms d ts) (hk : (cur ts).kind ≠ -6) :
    Calls Tryz.prog 50 #[.pointer (some ⟨L, 0, none⟩)] w fun e w' => e = .returned (str []) ∧ w = w' := by
  obtain ⟨S, R, s, u, h1, _⟩ := h
  have c1 : w.cell? ⟨L, 1, none⟩ = some (.int .i32 (cur ts).kind) := h1.bl.cell 1
  have d1 : ((cur ts).kind != -6) = true := by simpa using hk
  clear h1 hk
  go_enter Tryz.func50, Tryz.ntmps50
  go_wp2_with fail
  go_ret
  exact ⟨rfl, rfl⟩

set_option maxRecDepth 100000 in
theorem lex_desc (ad : Addr) (g : World) (L : Nat) (ms : List Nat) (d : Int) (ts : List Tok) (w : World) (h : LexAt ad g w L ms d ts) (hk : (cur ts).kind ≠ -6) :
    Calls Tryz.prog 37 #[.pointer (some ⟨L, 0, none⟩)] w fun e w' => e = .returned (str []) ∧ w = w' := by
  go_enter Tryz.func37, Tryz.ntmps37
  go_wp2_with fail
  refine (lex_nodesc ad g L ms d ts _ h hk).mono ?_
  rintro e w' ⟨rfl, rfl⟩
  go_wp2_with fail
  go_ret
  exact ⟨rfl, rfl⟩

set_option maxRecDepth 100000 in
theorem lex_comment (ad : Addr) (g : World) (L : Nat) (ms : List Nat) (d : Int) (ts : List Tok) (w : World) (h : LexAt ad g w L ms d ts) (hk : (cur ts).kind ≠ -6) :
    Calls Tryz.prog 81 #[.pointer (some ⟨L, 0, none⟩)] w fun e w' => e = .returned (str []) ∧ LexAt ad g w' L ms d ts ∧ Fr ms w ms w' := by
  have h0 := h
  obtain ⟨S, R, s, u, h1, _⟩ := h0
  have hS : Calls Tryz.prog 80 #[.pointer (some ⟨L, 2, none⟩)] w fun e w' => e = .returned (.string ⟨([] : Bs).toArray⟩) ∧ ∃ n, w' = w.drewN n := by
    refine Tryz.Buffer_String_at 186 (fun i => (#[.pointer (some ⟨S, 0, none⟩), .int .i32 (cur ts).kind, .slice none 0 0, .int .i64 0, .int .i8 0, .bool true, .int .i64 d] : Array Value)[i]?) 0 L 2 [] w ?_
    exact LibA.zero_isBuffer (Nat.zero_le _) ⟨_, h1.bl, rfl, rfl, rfl, fun i _ => rfl⟩
  have H := Lib.hid (And.intro h (And.intro hk hS))
  clear h h1 hk hS
  go_enter Tryz.func81, Tryz.ntmps81
  go_wp2_with fail
  refine H.out.2.2.mono ?_
  rintro e w' ⟨rfl, n, rfl⟩
  have hf : Fr [] w [] (w.drewN n) := (Fr.refl _ _).drewN n
  have h1 := H.out.1.quiet hf
  have H1 := Lib.hid h1
  obtain ⟨S, R, s, u, h2, _⟩ := h1
  have c5 : (w.drewN n).cell? ⟨L, 5, none⟩ = some (.bool true) := h2.bl.cell 5
  clear h2
  go_wp2_with fail
  refine (lex_nodesc ad g L ms d ts _ H1.out H.out.2.1).mono ?_
  rintro e w' ⟨rfl, rfl⟩
  go_wp2_with fail
  go_ret
  exact ⟨rfl, H1.out, hf.wide (by simp)⟩

set_option maxRecDepth 100000 in
set_option maxHeartbeats 1000000 in
theorem lex_word (ad : Addr) (g : World) (L : Nat) (ms : List Nat) (d : Int) (ts : List Tok) (W : Bs) (w : World) (h : LexAt ad g w L ms d ts) (hk : (cur ts).kind = -2) (ht : (cur ts).text = W) :
    Calls Tryz.prog 59 #[.pointer (some ⟨L, 0, none⟩), str W] w fun e w' => e = .returned (.tuple #[]) ∧ ∃ ms', LexAt ad g w' L ms' d ts.tail ∧ Fr ms w ms' w' := by
  subst ht
  obtain ⟨S, c0, c1, hT⟩ := lex_text h
  have HT := Lib.hid (And.intro hT hk)
  rw [hk] at c1
  clear hT hk h
  go_enter Tryz.func59, Tryz.ntmps59
  go_wp2_with fail
  refine HT.out.1.mono ?_
  rintro e w1 ⟨rfl, ms1, k1, k2⟩
  have H1 := Lib.hid (And.intro k1 k2)
  clear k1 k2
  go_wp2_with fail
  refine (lex_ws ad g L ms1 d ts.tail _ H1.out.1.rdy).mono ?_
  rintro e w2 ⟨rfl, ms2, k1, k2⟩
  have H2 := Lib.hid (And.intro k1 k2)
  clear k1 k2
  go_wp2_with fail
  go_end0
  exact ⟨rfl, ms2, H2.out.1, H1.out.2.trans H2.out.2⟩

set_option maxRecDepth 100000 in
set_option maxHeartbeats 1000000 in
theorem lex_word_err (ad : Addr) (g : World) (L : Nat) (ms : List Nat) (d : Int) (ts : List Tok) (W : Bs) (w : World) (h : LexAt ad g w L ms d ts) (hk : ¬ ((cur ts).kind = -2 ∧ (cur ts).text = W)) :
    Calls Tryz.prog 59 #[.pointer (some ⟨L, 0, none⟩), str W] w (Errs ad g L ms w) := by
  obtain ⟨S, c0, c1, hT⟩ := lex_text h
  by_cases hi : (cur ts).kind = -2
  · have hne : (cur ts).text ≠ W := fun e => hk ⟨hi, e⟩
    have HT := Lib.hid (And.intro hT hne)
    rw [hi] at c1
    clear hT hk h hne
    go_enter Tryz.func59, Tryz.ntmps59
    go_wp2_with fail
    refine HT.out.1.mono ?_
    rintro e w1 ⟨rfl, ms1, k1, k2⟩
    have H1 := Lib.hid (And.intro k1 k2)
    have d2 : ((cur ts).text == W) = false := by simpa using HT.out.2
    clear k1 k2
    go_wp2_with fail
    refine (lex_err L _ _).mono ?_
    rintro e w2 ⟨rfl, rfl⟩
    exact ⟨rfl, _, ms1, _, ts, rfl, H1.out.1, H1.out.2⟩
  · have d1 : ((cur ts).kind != -2) = true := by simpa using hi
    have HT := Lib.hid h
    clear hT hk h
    go_enter Tryz.func59, Tryz.ntmps59
    go_wp2_with fail
    refine (lex_err L _ _).mono ?_
    rintro e w2 ⟨rfl, rfl⟩
    exact ⟨rfl, _, ms, _, ts, rfl, HT.out, Fr.refl _ _⟩

end Go.Proofs.YtobiaaabikfglaaGreatDoor
