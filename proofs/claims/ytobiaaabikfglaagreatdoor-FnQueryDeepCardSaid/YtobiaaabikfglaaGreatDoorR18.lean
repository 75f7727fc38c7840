/-
  The parser of documents by a contract. No conditions but lengths.
-/
import Derived.Test.YtobiaaabikfglaaGreatDoorR17
namespace Go.Proofs.YtobiaaabikfglaaGreatDoor
open Go.RowKit Go.Proofs.YtobiaaabikfglaaGreatDoor.Pq Go.Lib

theorem LexR.quiet {ad : Addr} {g w w' : World} {L : Nat} {ms : List Nat} {d : Int} {ts : List Tok} (h : LexR ad g w L ms d ts) (hf : Fr [] w [] w') : LexR ad g w' L ms d ts := by
  obtain ⟨S, R, s, u, k, h1, h2, h3⟩ := h
  exact ⟨S, R, s, u, k, (h1.quiet hf).1, h2.away hf (by simp), h3⟩
theorem LexR.lt {ad : Addr} {g w : World} {L : Nat} {ms : List Nat} {d : Int} {ts : List Tok} (h : LexR ad g w L ms d ts) : ∀ k, k ∈ ms → k < w.heap.size := by
  obtain ⟨S, R, s, u, k0, h1, h2, h3⟩ := h
  intro k hk
  rw [h1.eqm] at hk
  simp only [List.mem_cons] at hk
  rcases hk with rfl | hk
  · exact h1.bl.lt
  · exact h2.lt k hk

set_option maxRecDepth 100000 in
set_option maxHeartbeats 16000000 in
theorem doc_any (ad : Addr) (g : World) (L : Nat) (f : Nat) (ts : List Tok) (ms : List Nat) (w : World) (hf : f ≤ FMax) (h : LexR ad g w L ms ((0 : Nat) : Int) ts) (hgw : g.heap.size ≤ w.heap.size) (hu : pDoc f ts ⟨[], []⟩ ≠ .unk) :
    Calls Tryz.prog 24 #[.pointer (some ⟨L, 0, none⟩)] w (DocRes (pDoc f ts ⟨[], []⟩) ad g L ms w) := by
  obtain ⟨i0, hi, hz0, hz1, hz2⟩ := info_parts (by kernel_rfl : (Tryz.prog.info? 44).map (fun i => (i.zero, i.size, i.bytes)) = some (some (.pointer none), 1, 8))
  obtain ⟨j0, ji, jz0, jz1, jz2⟩ := info_parts (by kernel_rfl : (Tryz.prog.info? 66).map (fun i => (i.zero, i.size, i.bytes)) = some (some (.pointer none), 1, 8))
  obtain ⟨r0, hr0⟩ : ∃ r0, pDoc f ts ⟨[], []⟩ = r0 := ⟨_, rfl⟩
  rw [hr0] at hu ⊢
  have H := Lib.hid (And.intro h (And.intro hr0 (And.intro hu (And.intro hf hgw))))
  clear h hr0 hu hf hgw
  go_enter Tryz.func24, Tryz.ntmps24
  go_wp2_with fail
  have hR : LexR ad g (w.alloc (.cells #[.slice none 0 0, .slice none 0 0] 43)) L ms ((0 : Nat) : Int) ts := H.out.1.quiet ((Fr.refl _ _).alloc _)
  refine (lex_ws ad g L ms _ ts _ hR).mono ?_
  rintro e w1 ⟨rfl, ms1, k1, k2⟩
  have hO : Own ad g w L ms ((0 : Nat) : Int) w1 ms1 ts w.heap.size #[.slice none 0 0, .slice none 0 0] 43 :=
    ⟨k1, (k2.bl (Bl.new w _ _) (fun hk => Nat.lt_irrefl _ (H.out.1.lt _ hk))).1, ((Fr.refl ms w).alloc _).trans k2, Nat.le_refl _, by have := k2.kept.size; simp at this; omega, H.out.2.2.2.2, by decide⟩
  have H1 := Lib.hid hO
  clear hO hR k1 k2
  go_wp2_with fail
  go_loopg [] f (fun k wr => ∃ ms' ts' acc vo xo vf xf, DocRel ad g w L ms f r0 k wr ms' ts' acc vo xo vf xf)
  case atStart =>
    refine ⟨ms1, ts, ⟨[], []⟩, .slice none 0 0, [], .slice none 0 0, [], H.out.2.1.symm, ⟨H1.out, ⟨World.ownsRow_nil _ _ _ 1, H1.out.lt⟩, ⟨World.ownsRow_nil _ _ _ 1, H1.out.lt⟩⟩, rfl, rfl, by simp, by simp⟩
  case round =>
    obtain ⟨ms', ts', acc, vo, xo, vf, xf, hR⟩ := hrel
    have HR := Lib.hid hR
    clear hR H1
    cases gk with
    | zero =>
      refine absurd ?_ H.out.2.2.1
      rw [HR.out.pure, pDoc]
    | succ k =>
      have hpure : r0 = if (cur ts').kind = -1 then .ok acc
        else if (cur ts').kind = -6 then .unk
        else if (cur ts').kind = 123 then (pSet k 0 ts').bind fun p => pDoc k p.2 ⟨acc.ops ++ [⟨1, [], [], [], p.1⟩], acc.frags⟩
        else (ident ts').bind fun x =>
          if x.1 = bQuery then (pOp k 1 x.2).bind fun p => pDoc k p.2 ⟨acc.ops ++ [p.1], acc.frags⟩
          else if x.1 = bMutation then (pOp k 2 x.2).bind fun p => pDoc k p.2 ⟨acc.ops ++ [p.1], acc.frags⟩
          else if x.1 = bSubscription then (pOp k 3 x.2).bind fun p => pDoc k p.2 ⟨acc.ops ++ [p.1], acc.frags⟩
          else if x.1 = bFragment then (pFrag k x.2).bind fun p => pDoc k p.2 ⟨acc.ops, acc.frags ++ [p.1]⟩
          else .err := by rw [HR.out.pure, pDoc]
      have HS := Lib.hid hpure
      clear hpure
      obtain ⟨ao, sl, sc, rfl⟩ := HR.out.st.ro.shape
      obtain ⟨af, fl, fc, rfl⟩ := HR.out.st.rf.shape
      go_wp2_with fail
      refine (lex_peek ad g L ms' _ ts' _ HR.out.st.own.lex).mono ?_
      rintro e w' ⟨rfl, rfl⟩
      by_cases hc : (cur ts').kind = -1
      · have d1 : ((cur ts').kind != -1) = false := by simpa using hc
        have hpu := HS.out
        rw [if_pos hc] at hpu
        have HC := Lib.hid hpu
        clear hc hpu HS
        go_wp2_with fail
        go_ret
        rw [HC.out]
        refine ⟨_, ms', ts', rfl, ⟨w.heap.size, _, xo, _, xf, rfl, ⟨HR.out.st.own.box, by decide, Nat.le_refl _, by simp⟩, ?_, ?_, ?_, ?_⟩, HR.out.st.own.lex, HR.out.st.own.fr⟩
        · exact (HR.out.st.ro.at_ (by decide)).mono (Fm.up (Nat.le_succ _))
        · exact OpsAt.mono (fun b cs t k => Fm.up (Nat.le_succ _) b cs t (Two.all b cs t k)) _ _ HR.out.eo
        · exact (HR.out.st.rf.at_ (by decide)).mono (Fm.up (Nat.le_succ _))
        · exact FragsAt.mono (fun b cs t k => Fm.up (Nat.le_succ _) b cs t (Two.all b cs t k)) _ _ HR.out.ef
      · have d1 : ((cur ts').kind != -1) = true := by simpa using hc
        have hk6 : (cur ts').kind ≠ -6 := by
          intro e
          have := HS.out
          rw [if_neg hc, if_pos e] at this
          exact H.out.2.2.1 this
        have hpu := HS.out
        rw [if_neg hc, if_neg hk6] at hpu
        have HC := Lib.hid (And.intro hk6 hpu)
        clear hc hpu HS hk6
        go_wp2_with fail
        refine (lex_desc ad g L ms' _ ts' _ HR.out.st.own.lex HC.out.1).mono ?_
        rintro e w' ⟨rfl, rfl⟩
        go_wp2_with fail
        refine (lex_peek ad g L ms' _ ts' _ HR.out.st.own.lex).mono ?_
        rintro e w' ⟨rfl, rfl⟩
        by_cases hc : (cur ts').kind = 123
        · have d2 : ((cur ts').kind == 123) = true := by rw [hc]; rfl
          have hpu := HC.out.2
          rw [if_pos hc] at hpu
          have HC := Lib.hid hpu
          clear hc hpu
          go_wp2_with fail
          refine (lex_loc ad g L ms' _ ts' _ HR.out.st.own.lex).mono ?_
          rintro e w5 ⟨⟨l5, c5, rfl⟩, hf⟩
          have H5 := Lib.hid (And.intro (HR.out.st.calm hf) hf)
          clear hf
          go_wp2_with fail
          obtain ⟨r, hr⟩ : ∃ r, pSet k 0 ts' = r := ⟨_, rfl⟩
          have hpu := HC.out
          rw [hr] at hpu
          have hru : r ≠ .unk := fun e => by rw [e] at hpu; exact H.out.2.2.1 hpu
          have HP := Lib.hid hpu
          clear hpu
          refine (sgoal ad g L k 0 ts' ms' _ (by decide) (by have := HR.out.leo; have := H.out.2.2.2.1; omega) (H5.out.1.own.lex.alloc _) (by rw [hr]; exact hru)).mono ?_
          intro e w7 h7
          rw [hr] at h7
          clear hr
          cases r with
          | unk => exact absurd rfl hru
          | err =>
            obtain ⟨m, ms7, d7, ts7, rfl, k1, k2⟩ := h7
            refine ⟨rfl, ?_⟩
            show DocRes _ _ _ _ _ _ _ _
            rw [HP.out]
            exact ⟨m, ms7, _, ts7, rfl, k1, (H5.out.1.own.fr.alloc _).trans k2⟩
          | ok p =>
          obtain ⟨y, ms7, rfl, hS, k2, k3⟩ := h7
          obtain ⟨ao2, sl2, sc2, rfl⟩ : ∃ ao l c, y = .slice ao l c := by obtain ⟨xd, q1, q2⟩ := hS; exact q1.shape
          have hN := H5.out.1.own.lex.keep (Bl.new w5 _ _) k3
          have g6 := hN.1.cell 6
          have f1 : ∀ o, w7.frozen? ⟨w5.heap.size, o, none⟩ = false := hN.1.free
          have hz5 : wr.heap.size ≤ w5.heap.size := H5.out.2.kept.size
          have hgb : g.heap.size ≤ w5.heap.size := Nat.le_trans HR.out.st.own.lex.base hz5
          obtain ⟨w8, hw8⟩ : ∃ w8, w8 = w7.setCell ⟨w5.heap.size, 6, none⟩ (.slice ao2 sl2 sc2) := ⟨_, rfl⟩
          have hl8 : LexAt ad g w8 L ms7 ((0 : Nat) : Int) p.2 := by rw [hw8]; exact k2.poke hN.2 hgb _ _
          have hf8 : Fr ms' wr ms7 w8 := by rw [hw8]; exact (((H5.out.2.wide (by simp)).alloc _).trans k3).set (.inr hz5) _
          have hB8 : Bl w8 w5.heap.size (OpCs ⟨1, [], [], [], p.1⟩ 0 0 (.slice none 0 0) (.slice ao2 sl2 sc2) (.slice none 0 0) l5 c5) 57 := by
            have := hN.1.set 6 (.slice ao2 sl2 sc2)
            simp only [List.setIfInBounds_toArray, List.set_cons_succ, List.set_cons_zero] at this
            rw [hw8]
            exact this
          have hnew : ∀ b cs t, Fm w7 (w5.alloc (.cells #[str (opType 1), str [], numV 0, numV 0, str [], .slice none 0 0, .slice none 0 0, .slice none 0 0, numV l5, numV c5] 57)).heap.size b cs t → Two w8 (w.heap.size + 1) (Value.slice ao sl sc).ownBlock (Value.slice af fl fc).ownBlock b cs t := fun b cs t k => by
            refine HR.out.st.new b cs t ?_
            rw [hw8]
            exact Fm.up (by simp; omega) b cs t (From.far b cs t k (by simp))
          have hA8 : OpAt (Two w8 (w.heap.size + 1) (Value.slice ao sl sc).ownBlock (Value.slice af fl fc).ownBlock) ⟨1, [], [], [], p.1⟩ (ptrV w5.heap.size) :=
            opAt_of (HR.out.st.new _ _ _ ⟨hB8, by decide, hz5, by simp⟩) ⟨[], .inl ⟨rfl, rfl⟩, rfl⟩ (hS.mono hnew) ⟨[], .inl ⟨rfl, rfl⟩, rfl⟩
          have H8 := Lib.hid (And.intro (HR.out.st.go hl8 hf8) (And.intro hA8 hf8))
          clear k2 k3 hS hN hz5 hgb hl8 hf8 hB8 hnew hA8 hru
          have HA := Lib.hid (H8.out.1.alloc (.cells #[ptrV w5.heap.size] 44))
          have hEO : Hid (OpsAt (Two (w8.alloc (.cells #[ptrV w5.heap.size] 44)) (w.heap.size + 1) (Value.slice ao sl sc).ownBlock (Value.slice af fl fc).ownBlock) (acc.ops ++ [(⟨1, [], [], [], p.1⟩ : Pq.Op)]) (xo ++ [ptrV w5.heap.size])) := Lib.hid (OpsAt.snoc (OpAt.mono (Two.alloc _) _ _ H8.out.2.1) _ _ (OpsAt.mono (fun b' cs t k => Two.alloc _ b' cs t (HR.out.st.old H8.out.2.2 _ _ _ b' cs t k)) _ _ HR.out.eo))
          have hEF : Hid (FragsAt (Two (w8.alloc (.cells #[ptrV w5.heap.size] 44)) (w.heap.size + 1) (Value.slice ao sl sc).ownBlock (Value.slice af fl fc).ownBlock) acc.frags xf) := Lib.hid (FragsAt.mono (fun b' cs t k => Two.alloc _ b' cs t (HR.out.st.old H8.out.2.2 _ _ _ b' cs t k)) _ _ HR.out.ef)
          have hcell : (w8.alloc (.cells #[ptrV w5.heap.size] 44)).cell? ⟨w8.heap.size, 0, none⟩ = some (ptrV w5.heap.size) := (Bl.new w8 _ _).cell 0
          have HCe := Lib.hid hcell
          have hz8 : w8.heap.size = w7.heap.size := by rw [hw8]; simp [World.setCell]
          have hc0 := H8.out.1.own.box.cell 0
          have hlen : acc.ops.length + 1 ≤ FMax := by have := HR.out.leo; have := H.out.2.2.2.1; omega
          rw [hz8] at HCe
          rw [hw8] at HA hEO hEF HCe hc0
          clear hcell hz8
          go_wp2_with (
            at_builtin
            refine wpList_append_more _ rfl (.tmp 41) (.tmp 43) 39 rfl (w.heap.size + 1) 44 i0 (.pointer none) 8 Tryz.underlying39 hi hz0 hz1 hz2 rfl (.slice ao sl sc) acc.ops.length xo rfl HA.out.ro.own ⟨w7.heap.size, 0, none⟩ 1 (ptrV w5.heap.size) rfl HCe.out rfl (by unfold FMax at hlen; unfold maxLen; omega) (by unfold FMax at hlen; omega) HA.out.ro.le ?_
            intro v' w9 ho hg hfr
            have hS9 := HA.out.addo ho hg
            obtain ⟨ao9, sl9, sc9, rfl⟩ := hS9.ro.shape
            have h5 := hS9.own.box.cell 0
            have f2 : ∀ o, w9.frozen? ⟨w.heap.size, o, none⟩ = false := hS9.own.box.free
            have HG := Lib.hid (And.intro hS9 (And.intro hg hfr))
            clear ho hg hfr hS9)
          go_roundg k
          case measure => omega
          case rel =>
            obtain ⟨hS9, hg, hfr⟩ := HG.out
            have hS10 := hS9.put0 (.slice ao9 sl9 sc9)
            exact ⟨ms7, p.2, ⟨acc.ops ++ [(⟨1, [], [], [], p.1⟩ : Pq.Op)], acc.frags⟩, .slice ao9 sl9 sc9, xo ++ [ptrV w5.heap.size], .slice af fl fc, xf, (by have := HP.out; simpa only [Res.bind] using this), by simpa using hS10,
              OpsAt.mono (fun b' cs t k => Two.put (Nat.lt_succ_self _) b' cs t (Two.step1 hg hfr b' cs t k)) _ _ hEO.out,
              FragsAt.mono (fun b' cs t k => Two.put (Nat.lt_succ_self _) b' cs t (Two.step1 hg hfr b' cs t k)) _ _ hEF.out,
              by have := HR.out.leo; simp; omega, by have := HR.out.lef; simp; omega⟩
        · have d2 : ((cur ts').kind == 123) = false := by simpa using hc
          have hpu := HC.out.2
          rw [if_neg hc] at hpu
          have HC := Lib.hid hpu
          clear hc hpu
          go_wp2_with fail
          refine (lex_loc ad g L ms' _ ts' _ HR.out.st.own.lex).mono ?_
          rintro e w5 ⟨⟨l5, c5, rfl⟩, hf⟩
          have H5 := Lib.hid (And.intro (HR.out.st.calm hf) hf)
          clear hf
          go_wp2_with fail
          by_cases hi1 : (cur ts').kind = -2
          · have hid : ident ts' = .ok ((cur ts').text, ts'.tail) := if_pos hi1
            have hpu := HC.out
            rw [hid] at hpu
            simp only [Res.bind] at hpu
            have HC := Lib.hid (And.intro hi1 hpu)
            clear hi1 hpu hid
            refine (lex_ident ad g L ms' _ ts' _ (H5.out.1.own.lex.alloc _) HC.out.1).mono ?_
            rintro e w6 ⟨rfl, ms6, k1, k2⟩
            have hN := H5.out.1.own.lex.keep (Bl.new w5 _ _) k2
            have H6 := Lib.hid (And.intro ((H5.out.1.alloc _).go k1 k2) (And.intro hN (((H5.out.2.wide (by simp)).alloc _).trans k2)))
            clear k1 k2 hN
            by_cases hq : (cur ts').text = bQuery
            · have hpu := HC.out.2
              rw [if_pos hq] at hpu
              obtain ⟨r, hr⟩ : ∃ r, pOp k 1 ts'.tail = r := ⟨_, rfl⟩
              rw [hr] at hpu
              have hru : r ≠ .unk := fun e => by rw [e] at hpu; exact H.out.2.2.1 hpu
              have HP := Lib.hid hpu
              clear hpu
              go_wp2_with fail
              refine (op_any ad g L k 1 ts'.tail ms6 _ (by have := HR.out.leo; have := H.out.2.2.2.1; omega) H6.out.1.own.lex (by rw [hr]; exact hru)).mono ?_
              intro e w7 h7
              rw [hr] at h7
              clear hr
              cases r with
              | unk => exact absurd rfl hru
              | err =>
                obtain ⟨m, ms7, d7, ts7, rfl, k1, k2⟩ := h7
                refine ⟨rfl, ?_⟩
                show DocRes _ _ _ _ _ _ _ _
                rw [HP.out]
                exact ⟨m, ms7, _, ts7, rfl, k1, H6.out.1.own.fr.trans k2⟩
              | ok p =>
              obtain ⟨x, ms7, rfl, ⟨b, li, ci, sv, sl1, sd, l3, c3, rfl, hB, hVV, hSS, hDD⟩, k2, k3⟩ := h7
              have hB1 : Bl w7 b #[str (opType p.1.kind), str p.1.name, numV li, numV ci, str [], sv, sl1, sd, numV l3, numV c3] 57 := hB.1
              have hbge : w6.heap.size ≤ b := hB.2.2.1
              have hbms : b ∉ ms7 := k2.out hB1 (by decide)
              have hN7 := (k3.bl H6.out.2.1.1 H6.out.2.1.2).1
              have e0 := hN7.cell 0
              have e1 := hN7.cell 1
              have g1 := hB1.cell 8
              have g2 := hB1.cell 9
              have g3 := hB1.cell 4
              have f1 : ∀ o, w7.frozen? ⟨b, o, none⟩ = false := hB1.free
              have hz6 : wr.heap.size ≤ w6.heap.size := H6.out.2.2.kept.size
              obtain ⟨w8, hw8⟩ : ∃ w8, w8 = ((w7.setCell ⟨b, 8, none⟩ (.int .i64 l5)).setCell ⟨b, 9, none⟩ (.int .i64 c5)).setCell ⟨b, 4, none⟩ (str []) := ⟨_, rfl⟩
              have hB8 : Bl w8 b (OpCs p.1 li ci sv sl1 sd l5 c5) 57 := by
                have := ((hB1.set 8 (numV l5)).set 9 (numV c5)).set 4 (str [])
                simp only [List.setIfInBounds_toArray, List.set_cons_succ, List.set_cons_zero] at this
                rw [hw8]
                exact this
              have hgb : g.heap.size ≤ b := Nat.le_trans H6.out.1.own.lex.base hbge
              have hl8 : LexAt ad g w8 L ms7 ((0 : Nat) : Int) p.2 := by rw [hw8]; exact ((k2.poke hbms hgb _ _).poke hbms hgb _ _).poke hbms hgb _ _
              have hf8 : Fr ms' wr ms7 w8 := H6.out.2.2.trans (by rw [hw8]; exact ((k3.set (.inr hbge) _).set (.inr hbge) _).set (.inr hbge) _)
              have hnew : ∀ b' cs t, But (Fm w7 w6.heap.size) b b' cs t → Two w8 (w.heap.size + 1) (Value.slice ao sl sc).ownBlock (Value.slice af fl fc).ownBlock b' cs t := fun b' cs t k => by
                refine HR.out.st.new b' cs t ?_
                rw [hw8]
                exact ⟨((k.1.1.far k.2 _).far k.2 _).far k.2 _, k.1.2.1, Nat.le_trans hz6 k.1.2.2.1, by simp⟩
              have hA8 : OpAt (Two w8 (w.heap.size + 1) (Value.slice ao sl sc).ownBlock (Value.slice af fl fc).ownBlock) p.1 (ptrV b) := opAt_of (HR.out.st.new _ _ _ ⟨hB8, by decide, Nat.le_trans hz6 hbge, by simp⟩) (hVV.mono hnew) (hSS.mono hnew) (hDD.mono hnew)
              have H8 := Lib.hid (And.intro (HR.out.st.go hl8 hf8) (And.intro hA8 hf8))
              clear k2 k3 hB hSS hDD hVV hN7 hB1 hbge hbms hz6 hgb hl8 hf8 hB8 hnew hA8 hru
              have HA := Lib.hid (H8.out.1.alloc (.cells #[ptrV b] 44))
              have hEO : Hid (OpsAt (Two (w8.alloc (.cells #[ptrV b] 44)) (w.heap.size + 1) (Value.slice ao sl sc).ownBlock (Value.slice af fl fc).ownBlock) (acc.ops ++ [p.1]) (xo ++ [ptrV b])) := Lib.hid (OpsAt.snoc (OpAt.mono (Two.alloc _) _ _ H8.out.2.1) _ _ (OpsAt.mono (fun b' cs t k => Two.alloc _ b' cs t (HR.out.st.old H8.out.2.2 _ _ _ b' cs t k)) _ _ HR.out.eo))
              have hEF : Hid (FragsAt (Two (w8.alloc (.cells #[ptrV b] 44)) (w.heap.size + 1) (Value.slice ao sl sc).ownBlock (Value.slice af fl fc).ownBlock) acc.frags xf) := Lib.hid (FragsAt.mono (fun b' cs t k => Two.alloc _ b' cs t (HR.out.st.old H8.out.2.2 _ _ _ b' cs t k)) _ _ HR.out.ef)
              have hcell : (w8.alloc (.cells #[ptrV b] 44)).cell? ⟨w8.heap.size, 0, none⟩ = some (ptrV b) := (Bl.new w8 _ _).cell 0
              have HCe := Lib.hid hcell
              have hz8 : w8.heap.size = w7.heap.size := by rw [hw8]; simp [World.setCell]
              have hc0 := H8.out.1.own.box.cell 0
              have hlen : acc.ops.length + 1 ≤ FMax := by have := HR.out.leo; have := H.out.2.2.2.1; omega
              rw [hz8] at HCe
              rw [hw8] at HA hEO hEF HCe hc0
              clear hcell hz8
              go_wp2_with (
                at_builtin
                refine wpList_append_more _ rfl (.tmp 70) (.tmp 72) 39 rfl (w.heap.size + 1) 44 i0 (.pointer none) 8 Tryz.underlying39 hi hz0 hz1 hz2 rfl (.slice ao sl sc) acc.ops.length xo rfl HA.out.ro.own ⟨w7.heap.size, 0, none⟩ 1 (ptrV b) rfl HCe.out rfl (by unfold FMax at hlen; unfold maxLen; omega) (by unfold FMax at hlen; omega) HA.out.ro.le ?_
                intro v' w9 ho hg hfr
                have hS9 := HA.out.addo ho hg
                obtain ⟨ao9, sl9, sc9, rfl⟩ := hS9.ro.shape
                have h5 := hS9.own.box.cell 0
                have f2 : ∀ o, w9.frozen? ⟨w.heap.size, o, none⟩ = false := hS9.own.box.free
                have HG := Lib.hid (And.intro hS9 (And.intro hg hfr))
                clear ho hg hfr hS9)
              go_roundg k
              case measure => omega
              case rel =>
                obtain ⟨hS9, hg, hfr⟩ := HG.out
                have hS10 := hS9.put0 (.slice ao9 sl9 sc9)
                exact ⟨ms7, p.2, ⟨acc.ops ++ [p.1], acc.frags⟩, .slice ao9 sl9 sc9, xo ++ [ptrV b], .slice af fl fc, xf, (by have := HP.out; simpa only [Res.bind] using this), by simpa using hS10,
                  OpsAt.mono (fun b' cs t k => Two.put (Nat.lt_succ_self _) b' cs t (Two.step1 hg hfr b' cs t k)) _ _ hEO.out,
                  FragsAt.mono (fun b' cs t k => Two.put (Nat.lt_succ_self _) b' cs t (Two.step1 hg hfr b' cs t k)) _ _ hEF.out,
                  by have := HR.out.leo; simp; omega, by have := HR.out.lef; simp; omega⟩
            have n1 := hq
            clear hq
            by_cases hq : (cur ts').text = bMutation
            · have hpu := HC.out.2
              rw [if_neg (by rw [hq]; decide), if_pos hq] at hpu
              obtain ⟨r, hr⟩ : ∃ r, pOp k 2 ts'.tail = r := ⟨_, rfl⟩
              rw [hr] at hpu
              have hru : r ≠ .unk := fun e => by rw [e] at hpu; exact H.out.2.2.1 hpu
              have HP := Lib.hid hpu
              clear hpu
              go_wp2_with fail
              refine (op_any ad g L k 2 ts'.tail ms6 _ (by have := HR.out.leo; have := H.out.2.2.2.1; omega) H6.out.1.own.lex (by rw [hr]; exact hru)).mono ?_
              intro e w7 h7
              rw [hr] at h7
              clear hr
              cases r with
              | unk => exact absurd rfl hru
              | err =>
                obtain ⟨m, ms7, d7, ts7, rfl, k1, k2⟩ := h7
                refine ⟨rfl, ?_⟩
                show DocRes _ _ _ _ _ _ _ _
                rw [HP.out]
                exact ⟨m, ms7, _, ts7, rfl, k1, H6.out.1.own.fr.trans k2⟩
              | ok p =>
              obtain ⟨x, ms7, rfl, ⟨b, li, ci, sv, sl1, sd, l3, c3, rfl, hB, hVV, hSS, hDD⟩, k2, k3⟩ := h7
              have hB1 : Bl w7 b #[str (opType p.1.kind), str p.1.name, numV li, numV ci, str [], sv, sl1, sd, numV l3, numV c3] 57 := hB.1
              have hbge : w6.heap.size ≤ b := hB.2.2.1
              have hbms : b ∉ ms7 := k2.out hB1 (by decide)
              have hN7 := (k3.bl H6.out.2.1.1 H6.out.2.1.2).1
              have e0 := hN7.cell 0
              have e1 := hN7.cell 1
              have g1 := hB1.cell 8
              have g2 := hB1.cell 9
              have g3 := hB1.cell 4
              have f1 : ∀ o, w7.frozen? ⟨b, o, none⟩ = false := hB1.free
              have hz6 : wr.heap.size ≤ w6.heap.size := H6.out.2.2.kept.size
              obtain ⟨w8, hw8⟩ : ∃ w8, w8 = ((w7.setCell ⟨b, 8, none⟩ (.int .i64 l5)).setCell ⟨b, 9, none⟩ (.int .i64 c5)).setCell ⟨b, 4, none⟩ (str []) := ⟨_, rfl⟩
              have hB8 : Bl w8 b (OpCs p.1 li ci sv sl1 sd l5 c5) 57 := by
                have := ((hB1.set 8 (numV l5)).set 9 (numV c5)).set 4 (str [])
                simp only [List.setIfInBounds_toArray, List.set_cons_succ, List.set_cons_zero] at this
                rw [hw8]
                exact this
              have hgb : g.heap.size ≤ b := Nat.le_trans H6.out.1.own.lex.base hbge
              have hl8 : LexAt ad g w8 L ms7 ((0 : Nat) : Int) p.2 := by rw [hw8]; exact ((k2.poke hbms hgb _ _).poke hbms hgb _ _).poke hbms hgb _ _
              have hf8 : Fr ms' wr ms7 w8 := H6.out.2.2.trans (by rw [hw8]; exact ((k3.set (.inr hbge) _).set (.inr hbge) _).set (.inr hbge) _)
              have hnew : ∀ b' cs t, But (Fm w7 w6.heap.size) b b' cs t → Two w8 (w.heap.size + 1) (Value.slice ao sl sc).ownBlock (Value.slice af fl fc).ownBlock b' cs t := fun b' cs t k => by
                refine HR.out.st.new b' cs t ?_
                rw [hw8]
                exact ⟨((k.1.1.far k.2 _).far k.2 _).far k.2 _, k.1.2.1, Nat.le_trans hz6 k.1.2.2.1, by simp⟩
              have hA8 : OpAt (Two w8 (w.heap.size + 1) (Value.slice ao sl sc).ownBlock (Value.slice af fl fc).ownBlock) p.1 (ptrV b) := opAt_of (HR.out.st.new _ _ _ ⟨hB8, by decide, Nat.le_trans hz6 hbge, by simp⟩) (hVV.mono hnew) (hSS.mono hnew) (hDD.mono hnew)
              have H8 := Lib.hid (And.intro (HR.out.st.go hl8 hf8) (And.intro hA8 hf8))
              clear k2 k3 hB hSS hDD hVV hN7 hB1 hbge hbms hz6 hgb hl8 hf8 hB8 hnew hA8 hru
              have HA := Lib.hid (H8.out.1.alloc (.cells #[ptrV b] 44))
              have hEO : Hid (OpsAt (Two (w8.alloc (.cells #[ptrV b] 44)) (w.heap.size + 1) (Value.slice ao sl sc).ownBlock (Value.slice af fl fc).ownBlock) (acc.ops ++ [p.1]) (xo ++ [ptrV b])) := Lib.hid (OpsAt.snoc (OpAt.mono (Two.alloc _) _ _ H8.out.2.1) _ _ (OpsAt.mono (fun b' cs t k => Two.alloc _ b' cs t (HR.out.st.old H8.out.2.2 _ _ _ b' cs t k)) _ _ HR.out.eo))
              have hEF : Hid (FragsAt (Two (w8.alloc (.cells #[ptrV b] 44)) (w.heap.size + 1) (Value.slice ao sl sc).ownBlock (Value.slice af fl fc).ownBlock) acc.frags xf) := Lib.hid (FragsAt.mono (fun b' cs t k => Two.alloc _ b' cs t (HR.out.st.old H8.out.2.2 _ _ _ b' cs t k)) _ _ HR.out.ef)
              have hcell : (w8.alloc (.cells #[ptrV b] 44)).cell? ⟨w8.heap.size, 0, none⟩ = some (ptrV b) := (Bl.new w8 _ _).cell 0
              have HCe := Lib.hid hcell
              have hz8 : w8.heap.size = w7.heap.size := by rw [hw8]; simp [World.setCell]
              have hc0 := H8.out.1.own.box.cell 0
              have hlen : acc.ops.length + 1 ≤ FMax := by have := HR.out.leo; have := H.out.2.2.2.1; omega
              rw [hz8] at HCe
              rw [hw8] at HA hEO hEF HCe hc0
              clear hcell hz8
              go_wp2_with (
                at_builtin
                refine wpList_append_more _ rfl (.tmp 92) (.tmp 94) 39 rfl (w.heap.size + 1) 44 i0 (.pointer none) 8 Tryz.underlying39 hi hz0 hz1 hz2 rfl (.slice ao sl sc) acc.ops.length xo rfl HA.out.ro.own ⟨w7.heap.size, 0, none⟩ 1 (ptrV b) rfl HCe.out rfl (by unfold FMax at hlen; unfold maxLen; omega) (by unfold FMax at hlen; omega) HA.out.ro.le ?_
                intro v' w9 ho hg hfr
                have hS9 := HA.out.addo ho hg
                obtain ⟨ao9, sl9, sc9, rfl⟩ := hS9.ro.shape
                have h5 := hS9.own.box.cell 0
                have f2 : ∀ o, w9.frozen? ⟨w.heap.size, o, none⟩ = false := hS9.own.box.free
                have HG := Lib.hid (And.intro hS9 (And.intro hg hfr))
                clear ho hg hfr hS9)
              go_roundg k
              case measure => omega
              case rel =>
                obtain ⟨hS9, hg, hfr⟩ := HG.out
                have hS10 := hS9.put0 (.slice ao9 sl9 sc9)
                exact ⟨ms7, p.2, ⟨acc.ops ++ [p.1], acc.frags⟩, .slice ao9 sl9 sc9, xo ++ [ptrV b], .slice af fl fc, xf, (by have := HP.out; simpa only [Res.bind] using this), by simpa using hS10,
                  OpsAt.mono (fun b' cs t k => Two.put (Nat.lt_succ_self _) b' cs t (Two.step1 hg hfr b' cs t k)) _ _ hEO.out,
                  FragsAt.mono (fun b' cs t k => Two.put (Nat.lt_succ_self _) b' cs t (Two.step1 hg hfr b' cs t k)) _ _ hEF.out,
                  by have := HR.out.leo; simp; omega, by have := HR.out.lef; simp; omega⟩
            have n2 := hq
            clear hq
            by_cases hq : (cur ts').text = bSubscription
            · have hpu := HC.out.2
              rw [if_neg (by rw [hq]; decide), if_neg (by rw [hq]; decide), if_pos hq] at hpu
              obtain ⟨r, hr⟩ : ∃ r, pOp k 3 ts'.tail = r := ⟨_, rfl⟩
              rw [hr] at hpu
              have hru : r ≠ .unk := fun e => by rw [e] at hpu; exact H.out.2.2.1 hpu
              have HP := Lib.hid hpu
              clear hpu
              go_wp2_with fail
              refine (op_any ad g L k 3 ts'.tail ms6 _ (by have := HR.out.leo; have := H.out.2.2.2.1; omega) H6.out.1.own.lex (by rw [hr]; exact hru)).mono ?_
              intro e w7 h7
              rw [hr] at h7
              clear hr
              cases r with
              | unk => exact absurd rfl hru
              | err =>
                obtain ⟨m, ms7, d7, ts7, rfl, k1, k2⟩ := h7
                refine ⟨rfl, ?_⟩
                show DocRes _ _ _ _ _ _ _ _
                rw [HP.out]
                exact ⟨m, ms7, _, ts7, rfl, k1, H6.out.1.own.fr.trans k2⟩
              | ok p =>
              obtain ⟨x, ms7, rfl, ⟨b, li, ci, sv, sl1, sd, l3, c3, rfl, hB, hVV, hSS, hDD⟩, k2, k3⟩ := h7
              have hB1 : Bl w7 b #[str (opType p.1.kind), str p.1.name, numV li, numV ci, str [], sv, sl1, sd, numV l3, numV c3] 57 := hB.1
              have hbge : w6.heap.size ≤ b := hB.2.2.1
              have hbms : b ∉ ms7 := k2.out hB1 (by decide)
              have hN7 := (k3.bl H6.out.2.1.1 H6.out.2.1.2).1
              have e0 := hN7.cell 0
              have e1 := hN7.cell 1
              have g1 := hB1.cell 8
              have g2 := hB1.cell 9
              have g3 := hB1.cell 4
              have f1 : ∀ o, w7.frozen? ⟨b, o, none⟩ = false := hB1.free
              have hz6 : wr.heap.size ≤ w6.heap.size := H6.out.2.2.kept.size
              obtain ⟨w8, hw8⟩ : ∃ w8, w8 = ((w7.setCell ⟨b, 8, none⟩ (.int .i64 l5)).setCell ⟨b, 9, none⟩ (.int .i64 c5)).setCell ⟨b, 4, none⟩ (str []) := ⟨_, rfl⟩
              have hB8 : Bl w8 b (OpCs p.1 li ci sv sl1 sd l5 c5) 57 := by
                have := ((hB1.set 8 (numV l5)).set 9 (numV c5)).set 4 (str [])
                simp only [List.setIfInBounds_toArray, List.set_cons_succ, List.set_cons_zero] at this
                rw [hw8]
                exact this
              have hgb : g.heap.size ≤ b := Nat.le_trans H6.out.1.own.lex.base hbge
              have hl8 : LexAt ad g w8 L ms7 ((0 : Nat) : Int) p.2 := by rw [hw8]; exact ((k2.poke hbms hgb _ _).poke hbms hgb _ _).poke hbms hgb _ _
              have hf8 : Fr ms' wr ms7 w8 := H6.out.2.2.trans (by rw [hw8]; exact ((k3.set (.inr hbge) _).set (.inr hbge) _).set (.inr hbge) _)
              have hnew : ∀ b' cs t, But (Fm w7 w6.heap.size) b b' cs t → Two w8 (w.heap.size + 1) (Value.slice ao sl sc).ownBlock (Value.slice af fl fc).ownBlock b' cs t := fun b' cs t k => by
                refine HR.out.st.new b' cs t ?_
                rw [hw8]
                exact ⟨((k.1.1.far k.2 _).far k.2 _).far k.2 _, k.1.2.1, Nat.le_trans hz6 k.1.2.2.1, by simp⟩
              have hA8 : OpAt (Two w8 (w.heap.size + 1) (Value.slice ao sl sc).ownBlock (Value.slice af fl fc).ownBlock) p.1 (ptrV b) := opAt_of (HR.out.st.new _ _ _ ⟨hB8, by decide, Nat.le_trans hz6 hbge, by simp⟩) (hVV.mono hnew) (hSS.mono hnew) (hDD.mono hnew)
              have H8 := Lib.hid (And.intro (HR.out.st.go hl8 hf8) (And.intro hA8 hf8))
              clear k2 k3 hB hSS hDD hVV hN7 hB1 hbge hbms hz6 hgb hl8 hf8 hB8 hnew hA8 hru
              have HA := Lib.hid (H8.out.1.alloc (.cells #[ptrV b] 44))
              have hEO : Hid (OpsAt (Two (w8.alloc (.cells #[ptrV b] 44)) (w.heap.size + 1) (Value.slice ao sl sc).ownBlock (Value.slice af fl fc).ownBlock) (acc.ops ++ [p.1]) (xo ++ [ptrV b])) := Lib.hid (OpsAt.snoc (OpAt.mono (Two.alloc _) _ _ H8.out.2.1) _ _ (OpsAt.mono (fun b' cs t k => Two.alloc _ b' cs t (HR.out.st.old H8.out.2.2 _ _ _ b' cs t k)) _ _ HR.out.eo))
              have hEF : Hid (FragsAt (Two (w8.alloc (.cells #[ptrV b] 44)) (w.heap.size + 1) (Value.slice ao sl sc).ownBlock (Value.slice af fl fc).ownBlock) acc.frags xf) := Lib.hid (FragsAt.mono (fun b' cs t k => Two.alloc _ b' cs t (HR.out.st.old H8.out.2.2 _ _ _ b' cs t k)) _ _ HR.out.ef)
              have hcell : (w8.alloc (.cells #[ptrV b] 44)).cell? ⟨w8.heap.size, 0, none⟩ = some (ptrV b) := (Bl.new w8 _ _).cell 0
              have HCe := Lib.hid hcell
              have hz8 : w8.heap.size = w7.heap.size := by rw [hw8]; simp [World.setCell]
              have hc0 := H8.out.1.own.box.cell 0
              have hlen : acc.ops.length + 1 ≤ FMax := by have := HR.out.leo; have := H.out.2.2.2.1; omega
              rw [hz8] at HCe
              rw [hw8] at HA hEO hEF HCe hc0
              clear hcell hz8
              go_wp2_with (
                at_builtin
                refine wpList_append_more _ rfl (.tmp 114) (.tmp 116) 39 rfl (w.heap.size + 1) 44 i0 (.pointer none) 8 Tryz.underlying39 hi hz0 hz1 hz2 rfl (.slice ao sl sc) acc.ops.length xo rfl HA.out.ro.own ⟨w7.heap.size, 0, none⟩ 1 (ptrV b) rfl HCe.out rfl (by unfold FMax at hlen; unfold maxLen; omega) (by unfold FMax at hlen; omega) HA.out.ro.le ?_
                intro v' w9 ho hg hfr
                have hS9 := HA.out.addo ho hg
                obtain ⟨ao9, sl9, sc9, rfl⟩ := hS9.ro.shape
                have h5 := hS9.own.box.cell 0
                have f2 : ∀ o, w9.frozen? ⟨w.heap.size, o, none⟩ = false := hS9.own.box.free
                have HG := Lib.hid (And.intro hS9 (And.intro hg hfr))
                clear ho hg hfr hS9)
              go_roundg k
              case measure => omega
              case rel =>
                obtain ⟨hS9, hg, hfr⟩ := HG.out
                have hS10 := hS9.put0 (.slice ao9 sl9 sc9)
                exact ⟨ms7, p.2, ⟨acc.ops ++ [p.1], acc.frags⟩, .slice ao9 sl9 sc9, xo ++ [ptrV b], .slice af fl fc, xf, (by have := HP.out; simpa only [Res.bind] using this), by simpa using hS10,
                  OpsAt.mono (fun b' cs t k => Two.put (Nat.lt_succ_self _) b' cs t (Two.step1 hg hfr b' cs t k)) _ _ hEO.out,
                  FragsAt.mono (fun b' cs t k => Two.put (Nat.lt_succ_self _) b' cs t (Two.step1 hg hfr b' cs t k)) _ _ hEF.out,
                  by have := HR.out.leo; simp; omega, by have := HR.out.lef; simp; omega⟩
            have n3 := hq
            clear hq
            by_cases hq : (cur ts').text = bFragment
            · have hpu := HC.out.2
              rw [if_neg (by rw [hq]; decide), if_neg (by rw [hq]; decide), if_neg (by rw [hq]; decide), if_pos hq] at hpu
              obtain ⟨r, hr⟩ : ∃ r, pFrag k ts'.tail = r := ⟨_, rfl⟩
              rw [hr] at hpu
              have hru : r ≠ .unk := fun e => by rw [e] at hpu; exact H.out.2.2.1 hpu
              have HP := Lib.hid hpu
              clear hpu
              go_wp2_with fail
              refine (frag_any ad g L k ts'.tail ms6 _ (by have := HR.out.leo; have := H.out.2.2.2.1; omega) H6.out.1.own.lex (by rw [hr]; exact hru)).mono ?_
              intro e w7 h7
              rw [hr] at h7
              clear hr
              cases r with
              | unk => exact absurd rfl hru
              | err =>
                obtain ⟨m, ms7, d7, ts7, rfl, k1, k2⟩ := h7
                refine ⟨rfl, ?_⟩
                show DocRes _ _ _ _ _ _ _ _
                rw [HP.out]
                exact ⟨m, ms7, _, ts7, rfl, k1, H6.out.1.own.fr.trans k2⟩
              | ok p =>
              obtain ⟨x, ms7, rfl, ⟨b, li, ci, sl1, l2, c2, sd, l3, c3, rfl, hB, hSS, hDD⟩, k2, k3⟩ := h7
              have hB1 : Bl w7 b #[str p.1.on, numV li, numV ci, sl1, str p.1.name, numV l2, numV c2, str [], sd, numV l3, numV c3] 72 := hB.1
              have hbge : w6.heap.size ≤ b := hB.2.2.1
              have hbms : b ∉ ms7 := k2.out hB1 (by decide)
              have hN7 := (k3.bl H6.out.2.1.1 H6.out.2.1.2).1
              have e0 := hN7.cell 0
              have e1 := hN7.cell 1
              have g1 := hB1.cell 9
              have g2 := hB1.cell 10
              have g3 := hB1.cell 7
              have f1 : ∀ o, w7.frozen? ⟨b, o, none⟩ = false := hB1.free
              have hz6 : wr.heap.size ≤ w6.heap.size := H6.out.2.2.kept.size
              obtain ⟨w8, hw8⟩ : ∃ w8, w8 = ((w7.setCell ⟨b, 9, none⟩ (.int .i64 l5)).setCell ⟨b, 10, none⟩ (.int .i64 c5)).setCell ⟨b, 7, none⟩ (str []) := ⟨_, rfl⟩
              have hB8 : Bl w8 b (FragCs p.1 li ci sl1 l2 c2 sd l5 c5) 72 := by
                have := ((hB1.set 9 (numV l5)).set 10 (numV c5)).set 7 (str [])
                simp only [List.setIfInBounds_toArray, List.set_cons_succ, List.set_cons_zero] at this
                rw [hw8]
                exact this
              have hgb : g.heap.size ≤ b := Nat.le_trans H6.out.1.own.lex.base hbge
              have hl8 : LexAt ad g w8 L ms7 ((0 : Nat) : Int) p.2 := by rw [hw8]; exact ((k2.poke hbms hgb _ _).poke hbms hgb _ _).poke hbms hgb _ _
              have hf8 : Fr ms' wr ms7 w8 := H6.out.2.2.trans (by rw [hw8]; exact ((k3.set (.inr hbge) _).set (.inr hbge) _).set (.inr hbge) _)
              have hnew : ∀ b' cs t, But (Fm w7 w6.heap.size) b b' cs t → Two w8 (w.heap.size + 1) (Value.slice ao sl sc).ownBlock (Value.slice af fl fc).ownBlock b' cs t := fun b' cs t k => by
                refine HR.out.st.new b' cs t ?_
                rw [hw8]
                exact ⟨((k.1.1.far k.2 _).far k.2 _).far k.2 _, k.1.2.1, Nat.le_trans hz6 k.1.2.2.1, by simp⟩
              have hA8 : FragAt (Two w8 (w.heap.size + 1) (Value.slice ao sl sc).ownBlock (Value.slice af fl fc).ownBlock) p.1 (ptrV b) := fragAt_of (HR.out.st.new _ _ _ ⟨hB8, by decide, Nat.le_trans hz6 hbge, by simp⟩) (hSS.mono hnew) (hDD.mono hnew)
              have H8 := Lib.hid (And.intro (HR.out.st.go hl8 hf8) (And.intro hA8 hf8))
              clear k2 k3 hB hSS hDD hN7 hB1 hbge hbms hz6 hgb hl8 hf8 hB8 hnew hA8 hru
              have HA := Lib.hid (H8.out.1.alloc (.cells #[ptrV b] 66))
              have hEO : Hid (OpsAt (Two (w8.alloc (.cells #[ptrV b] 66)) (w.heap.size + 1) (Value.slice ao sl sc).ownBlock (Value.slice af fl fc).ownBlock) acc.ops xo) := Lib.hid (OpsAt.mono (fun b' cs t k => Two.alloc _ b' cs t (HR.out.st.old H8.out.2.2 _ _ _ b' cs t k)) _ _ HR.out.eo)
              have hEF : Hid (FragsAt (Two (w8.alloc (.cells #[ptrV b] 66)) (w.heap.size + 1) (Value.slice ao sl sc).ownBlock (Value.slice af fl fc).ownBlock) (acc.frags ++ [p.1]) (xf ++ [ptrV b])) := Lib.hid (FragsAt.snoc (FragAt.mono (Two.alloc _) _ _ H8.out.2.1) _ _ (FragsAt.mono (fun b' cs t k => Two.alloc _ b' cs t (HR.out.st.old H8.out.2.2 _ _ _ b' cs t k)) _ _ HR.out.ef))
              have hcell : (w8.alloc (.cells #[ptrV b] 66)).cell? ⟨w8.heap.size, 0, none⟩ = some (ptrV b) := (Bl.new w8 _ _).cell 0
              have HCe := Lib.hid hcell
              have hz8 : w8.heap.size = w7.heap.size := by rw [hw8]; simp [World.setCell]
              have hc0 := H8.out.1.own.box.cell 1
              have hlen : acc.frags.length + 1 ≤ FMax := by have := HR.out.lef; have := H.out.2.2.2.1; omega
              rw [hz8] at HCe
              rw [hw8] at HA hEO hEF HCe hc0
              clear hcell hz8
              go_wp2_with (
                at_builtin
                refine wpList_append_more _ rfl (.tmp 136) (.tmp 138) 41 rfl (w.heap.size + 1) 66 j0 (.pointer none) 8 Tryz.underlying41 ji jz0 jz1 jz2 rfl (.slice af fl fc) acc.frags.length xf rfl HA.out.rf.own ⟨w7.heap.size, 0, none⟩ 1 (ptrV b) rfl HCe.out rfl (by unfold FMax at hlen; unfold maxLen; omega) (by unfold FMax at hlen; omega) HA.out.rf.le ?_
                intro v' w9 ho hg hfr
                have hS9 := HA.out.addf ho hg
                obtain ⟨ao9, sl9, sc9, rfl⟩ := hS9.rf.shape
                have h5 := hS9.own.box.cell 1
                have f2 : ∀ o, w9.frozen? ⟨w.heap.size, o, none⟩ = false := hS9.own.box.free
                have HG := Lib.hid (And.intro hS9 (And.intro hg hfr))
                clear ho hg hfr hS9)
              go_roundg k
              case measure => omega
              case rel =>
                obtain ⟨hS9, hg, hfr⟩ := HG.out
                have hS10 := hS9.put1 (.slice ao9 sl9 sc9)
                exact ⟨ms7, p.2, ⟨acc.ops, acc.frags ++ [p.1]⟩, .slice ao sl sc, xo, .slice ao9 sl9 sc9, xf ++ [ptrV b], (by have := HP.out; simpa only [Res.bind] using this), by simpa using hS10,
                  OpsAt.mono (fun b' cs t k => Two.put (Nat.lt_succ_self _) b' cs t (Two.step2 hg hfr b' cs t k)) _ _ hEO.out,
                  FragsAt.mono (fun b' cs t k => Two.put (Nat.lt_succ_self _) b' cs t (Two.step2 hg hfr b' cs t k)) _ _ hEF.out,
                  by have := HR.out.leo; simp; omega, by have := HR.out.lef; simp; omega⟩
            have hpu := HC.out.2
            rw [if_neg n1, if_neg n2, if_neg n3, if_neg hq] at hpu
            have HP := Lib.hid hpu
            clear hpu
            have m1 : ((cur ts').text == [113, 117, 101, 114, 121]) = false := beq_eq_false_iff_ne.2 n1
            have m2 : ((cur ts').text == [109, 117, 116, 97, 116, 105, 111, 110]) = false := beq_eq_false_iff_ne.2 n2
            have m3 : ((cur ts').text == [115, 117, 98, 115, 99, 114, 105, 112, 116, 105, 111, 110]) = false := beq_eq_false_iff_ne.2 n3
            have m4 : ((cur ts').text == [102, 114, 97, 103, 109, 101, 110, 116]) = false := beq_eq_false_iff_ne.2 hq
            go_wp2_with fail
            refine (lex_err L _ _).mono ?_
            rintro e w7 ⟨rfl, rfl⟩
            refine ⟨rfl, ?_⟩
            show DocRes _ _ _ _ _ _ _ _
            rw [HP.out]
            exact ⟨_, ms6, _, _, rfl, H6.out.1.own.lex, H6.out.1.own.fr⟩
          · have hid : ident ts' = .err := if_neg hi1
            have hpu := HC.out
            rw [hid] at hpu
            have HC := Lib.hid (And.intro hi1 hpu)
            clear hi1 hid hpu
            refine (lex_ident_err ad g L ms' _ ts' _ (H5.out.1.own.lex.alloc _) HC.out.1).mono ?_
            rintro e w6 ⟨m, ms6, d6, ts6, rfl, k1, k2⟩
            refine ⟨rfl, ?_⟩
            show DocRes _ _ _ _ _ _ _ _
            rw [HC.out.2]
            exact ⟨m, ms6, _, ts6, rfl, k1, (H5.out.1.own.fr.alloc _).trans k2⟩

end Go.Proofs.YtobiaaabikfglaaGreatDoor
