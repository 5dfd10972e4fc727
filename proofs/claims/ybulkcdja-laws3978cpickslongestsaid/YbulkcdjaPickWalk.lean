/-
  The walk of 'LawS3978CPicksLongest' (5).
-/
import Derived.Test.YbulkcdjaPickParts
import Derived.Deep.CutRange
namespace Go.Proofs.Ybulkcdja
open Go.RowKit

theorem pick_index (p : Int) (k : Nat) (h0 : 0 ≤ p) (hk : 0 < k) : ∃ q : Nat, (wrap64 (IntKind.u16.wrap (p.tdiv 2))).tmod (k : Int) = (q : Int) ∧ q < k := by
  have e1 : wrap64 (IntKind.u16.wrap (p.tdiv 2)) = (p / 2) % 65536 := by
    rw [Int.tdiv_eq_ediv_of_nonneg h0]
    simp [wrap64, IntKind.wrap, IntKind.bits, IntKind.signed]
    omega
  rw [e1]
  have h1 : 0 ≤ (p / 2) % 65536 := Int.emod_nonneg _ (by omega)
  rw [Int.tmod_eq_emod_of_nonneg h1]
  have h2 := Int.emod_nonneg ((p / 2) % 65536) (show (k : Int) ≠ 0 by omega)
  have h3 := Int.emod_lt_of_pos ((p / 2) % 65536) (show (0 : Int) < (k : Int) by omega)
  exact ⟨(p / 2 % 65536 % (k : Int)).toNat, by omega, by omega⟩

theorem hidE {p : Prop} (h : p) : Hid p := h

set_option maxHeartbeats 2000000 in
set_option maxRecDepth 100000 in
theorem pick_walk (aw : Option Addr) (n cw : Nat) (l : List UInt8) (ar : Option Addr) (m cr : Nat) (rs : List Rl) (p : Int) (w : World) (hp0 : 0 ≤ p) (hp1 : p < 65536)
    (hw : WAt w aw n l) (hr : RsAt w ar m rs) (hsz : ∀ i, i < m → (rs.getD i nilRl).1.size ≤ 140737488351232) :
    Calls Yba.prog 5 #[.slice aw n cw, .slice ar m cr, .int .u16 p] w fun e w' => e = .returned (.bool true) ∧ Below w.heap.size w w' := by
  by_cases h0 : 1024 < n
  · have hd : decide ((1024 : Int) < (n : Int)) = true := decide_eq_true (by omega)
    go_enter Yba.func5, Yba.ntmps5
    go_wp2
    go_ret
    exact ⟨rfl, Below.refl _ _⟩
  have hd : decide ((1024 : Int) < (n : Int)) = false := decide_eq_false (by omega)
  by_cases h1 : 1024 < m
  · have hd1 : decide ((1024 : Int) < (m : Int)) = true := decide_eq_true (by omega)
    go_enter Yba.func5, Yba.ntmps5
    go_wp2
    go_ret
    exact ⟨rfl, Below.refl _ _⟩
  have hd1 : decide ((1024 : Int) < (m : Int)) = false := decide_eq_false (by omega)
  obtain ⟨i36, hi, hz0, hz1, hz2⟩ := info_parts Yba.info36
  obtain ⟨i5, hj, hj0, hj1, hj2⟩ := info_parts Yba.info5
  go_enter Yba.func5, Yba.ntmps5
  go_wp2_with (at_make; refine wpList_make_full _ rfl _ _ 32 rfl w.heap.size 36 i36 _ 2 Yba.underlying32 hi hz0 hz1 .i64 .i64 _ _ m rfl rfl rfl rfl ?qa ?qb (Nat.le_refl _) ?_)
  case qa => rw [hz2]; omega
  case qb => unfold maxLen; omega
  intro wa howna hga
  have hBa : Below w.heap.size w wa := (Below.refl _ _).grown hga (Nat.le_refl _) (fun k hk => by cases hk)
  have hRa : RulesBlk wa w.heap.size m rs 0 := by
    obtain ⟨_, ⟨he, _⟩ | ⟨g', cap, cur, he, hb, hg, hn, hm, hs, ht⟩⟩ := howna
    · simp at he
    · simp only [Value.slice.injEq, Option.some.injEq, Addr.mk.injEq, true_and, and_true] at he
      obtain ⟨rfl, rfl⟩ := he
      exact ⟨cur, hg, hs, fun i hi => absurd hi (Nat.not_lt_zero _)⟩
  clear howna hga
  go_wp2
  go_loopw [8] (fun i wr => ∃ k : Nat, k ≤ m ∧ i = .int .i64 k ∧ Below w.heap.size w wr ∧ RulesBlk wr w.heap.size m rs k) (fun i _ => m - (intOf i).toNat)
  case atStart => exact ⟨0, Nat.zero_le _, rfl, hBa, hRa⟩
  case round =>
    obtain ⟨k, hk, rfl, hB, hR⟩ := hrel
    by_cases hlt : k < m
    · obtain ⟨br, offr, rfl, hbr, hc0, hc1⟩ := hr.pos hB hlt
      obtain ⟨⟨v0, hv0⟩, ⟨v1, hv1⟩, hf0, hf1⟩ := hR.room hlt
      have HS := hidE (hR.step hlt)
      have hilt : (k : Int) < (m : Int) := by omega
      clear hR hRa hBa hr hw hsz
      generalize rs.getD k nilRl = r at *
      obtain ⟨r1, r2⟩ := r
      simp only at hc0 hc1
      go_wp2
      go_region
      all_goals go_wp2
      go_roundw
      case rel => exact ⟨k + 1, by omega, by go_num, ((hB.setCell (by simp) _).setCell (by simp) _).drew, HS.out.stay rfl⟩
      case measure => simp [intOf]; omega
    · have he : k = m := by omega
      subst he
      clear hRa hBa hlt hk
      have hBs := hB.size
      have hRlt := hR.lt
      have hsrc := hw.src (c := cw) (hB.alloc hB.size (.cells #[] 5))
      have hnl := hw.1
      go_wp2_with (at_builtin; refine wpList_append_src_own _ rfl _ _ 29 29 rfl (w.heap.size + 1) 5 i5 _ 1 1 Yba.underlying29 hj hj0 hj1 hj2 rfl _ _ 0 [] rfl (World.ownsRow_made wr #[] 0 hRlt (Nat.zero_le _) rfl) _ n (bcells l) rfl hsrc ?qc ?qd ?qe ?_)
      case qc => unfold maxLen; omega
      case qd => omega
      case qe => simp; omega
      intro g cg wb hown hgr
      have hBb : Below w.heap.size w wb := (hB.alloc hB.size _).grown hgr (by simp; omega) (by intro q hq; cases hq; exact hBs)
      have hRb : RulesBlk wb w.heap.size k rs k := hR.stay (by rw [hgr.block _ (by simp; omega) (by intro he; simp at he; omega)]; exact Below.heap_alloc _ _ _ hRlt)
      have hown : wb.ownsRow (w.heap.size + 1) 5 1 (.slice (some ⟨g, 0, none⟩) n cg) n (bcells l) := by simpa using hown
      clear hgr hsrc hB hR hBs hRlt
      go_upto_region 9 with fail
      go_cut [58] from 17 (fun v wc => v = .bool (decide (p % 2 = 1 ∧ 0 < k)) ∧ wc = wb)
      case first =>
        by_cases hpp : p % 2 = 1
        · have hb : (p % 2 == 1) = true := by simp [hpp]
          go_wp2
          go_meet
          case rel => simp [hpp]
        · have hb : (p % 2 == 1) = false := by simp [hpp]
          go_wp2
          go_meet
          case rel => simp [hpp]
      case rest =>
        obtain ⟨rfl, rfl⟩ := hcut
        go_upto_if 58 with fail
        go_cut [9] from 17 (fun v wc => ∃ g' cg' l', v = .slice (some ⟨g', 0, none⟩) l'.length cg' ∧ l'.length ≤ 140737488352256 ∧ Below w.heap.size w wc ∧ RulesBlk wc w.heap.size k rs k ∧
            wc.ownsRow (w.heap.size + 1) 5 1 (.slice (some ⟨g', 0, none⟩) l'.length cg') l'.length (bcells l'))
        case first =>
          by_cases hpp : p % 2 = 1 ∧ 0 < k
          · rw [decide_eq_true hpp]
            obtain ⟨hp2, hk0⟩ := hpp
            have hk0' : (0 : Int) < (k : Int) := by omega
            obtain ⟨q, hq, hqk⟩ := pick_index p k hp0 hk0
            have hqk' : (q : Int) < (k : Int) := by omega
            obtain ⟨br, offr, rfl, hbr, hc0, _⟩ := hr.pos hBb hqk
            have hsq := hsz q hqk
            clear hr hw hsz
            have HX := hidE (And.intro hRb (And.intro hBb hown))
            clear hRb hBb hown
            generalize rs.getD q nilRl = r at *
            obtain ⟨r1, r2⟩ := r
            simp only at hc0 hsq
            have hsr := Src.ofString (P := Yba.prog) wc Yba.underlying9 r1
            have hbs := HX.out.2.1.size
            have hRlt := HX.out.1.lt
            go_wp2_with (at_builtin; refine wpList_append_src_own _ rfl _ _ 29 9 rfl (w.heap.size + 1) 5 i5 _ 1 1 Yba.underlying29 hj hj0 hj1 hj2 rfl _ _ n (bcells l) rfl HX.out.2.2 _ r1.size (byteCells r1) rfl hsr ?qc ?qd ?qe ?_)
            case qc => unfold maxLen; omega
            case qd => omega
            case qe => omega
            intro g' cg' wd hownd hgrd
            have hgb := (own_bytes HX.out.2.2).2.1
            have hlen : (l ++ r1.data.toList).length = n + r1.size := by simp [hnl]
            go_wp2
            go_meet
            case rel =>
              refine ⟨g', cg', l ++ r1.data.toList, ?_, ?_, HX.out.2.1.grown hgrd hbs (by intro q' hq'; cases hq'; omega), HX.out.1.stay (hgrd.block _ hRlt (by intro he; simp at he; omega)), ?_⟩
              · rw [hlen]
              · rw [hlen]; omega
              · rw [hlen, bcells_append]; exact hownd
          · rw [decide_eq_false hpp]
            go_wp2
            go_meet
            case rel => exact ⟨g, cg, l, by rw [hnl], by omega, hBb, hRb, by rw [hnl]; exact hown⟩
        case rest =>
          obtain ⟨g', cg', l', rfl, hl', hBc, hRc, hownc⟩ := hcut
          clear hBb hRb hown hnl
          have hbs := hBc.size
          have hRlt := hRc.lt
          have hsrc := own_src (hownc.alloc (.cells #[] 5))
          go_wp2_with (at_builtin; refine wpList_append_src_own _ rfl _ _ 29 29 rfl (w.heap.size + 1) 5 i5 _ 1 1 Yba.underlying29 hj hj0 hj1 hj2 rfl _ _ 0 [] rfl (World.ownsRow_made _ #[] 0 hRlt (Nat.zero_le _) rfl) _ l'.length (bcells l') rfl hsrc ?qc ?qd ?qe ?_)
          case qc => unfold maxLen; omega
          case qd => omega
          case qe => simp; omega
          intro gk ck wk hownk hgrk
          have hownk : wk.ownsRow (w.heap.size + 1) 5 1 (.slice (some ⟨gk, 0, none⟩) l'.length ck) l'.length (bcells l') := by simpa using hownk
          have hBk : Below w.heap.size w wk := (hBc.alloc hbs _).grown hgrk (by simp; omega) (by intro q hq; cases hq; exact hbs)
          have hRk : RulesBlk wk w.heap.size k rs k := hRc.stay (by rw [hgrk.block _ (by simp; omega) (by intro he; simp at he; omega)]; exact Below.heap_alloc _ _ _ hRlt)
          have hgc := own_bytes hownc
          have hown' : wk.ownsRow (w.heap.size + 1) 5 1 (.slice (some ⟨g', 0, none⟩) l'.length cg') l'.length (bcells l') :=
            (hownc.alloc (.cells #[] 5)).kept hgrk (.inr (by intro he; simp [Value.ownBlock] at he; omega))
          obtain ⟨hby, hbg, hgl, hgcap, _⟩ := own_bytes hown'
          obtain ⟨hbyk, hbgk, hgkl, _, _⟩ := own_bytes hownk
          have hRat := hRk.at hr.1
          have hRlt' := hRk.lt
          clear hown' hownk hownc hgrk hgc hsrc hRc hBc hRlt hbs hRk
          go_wp2_with fail
          refine (longest9 g' 0 l'.length cg' w.heap.size 0 k k l' rs _ rfl hr.1 hgcap (by omega) (by omega) hby hgl hRat hRlt' (fun i hi => Nat.le_trans (hsz i hi) (by omega))).mono ?_
          rintro e wl ⟨rfl, hBl⟩
          have hBw : Below w.heap.size w wl := hBk.trans (hBl.mono hBk.size)
          have hby' := hby.old hBl hgl
          have hbyk' := hbyk.old hBl hgkl
          have hRl : RulesAt wl w.heap.size 0 rs := fun i hi => ⟨(hBl.cell (p := ⟨w.heap.size, 0 + i * 2, none⟩) hRlt').trans (hRat i hi).1, (hBl.cell (p := ⟨w.heap.size, 0 + i * 2 + 1, none⟩) hRlt').trans (hRat i hi).2⟩
          have hsl := hBl.size
          have hgl' : g' < wl.heap.size := by omega
          have hgkl' : gk < wl.heap.size := by omega
          have hRlt'' : w.heap.size < wl.heap.size := by omega
          clear hBk hBl hby hbyk hRat hRlt' hgl hgkl hsl
          go_upto_region 13 with fail
          obtain ⟨W5, hW5, hB5, hc50, hc51⟩ : ∃ W5, W5 = wl.alloc (.cells #[.string (best l' rs k).1.1, .string (best l' rs k).1.2] 36) ∧ Below wl.heap.size wl W5 ∧ W5.cell? ⟨wl.heap.size, 0, none⟩ = some (.string (best l' rs k).1.1) ∧ W5.cell? ⟨wl.heap.size, 1, none⟩ = some (.string (best l' rs k).1.2) := by
            refine ⟨_, rfl, (Below.refl _ _).alloc (Nat.le_refl _) _, ?_, ?_⟩
            · rw [World.cell?_alloc_at _ _ _ _ rfl]; rfl
            · rw [World.cell?_alloc_at _ _ _ _ rfl]; rfl
          rw [← hW5]
          clear hW5
          have hBw5 : Below w.heap.size w W5 := hBw.trans (hB5.mono hBw.size)
          have hb5 := hby'.old hB5 hgl'
          have hbk5 := hbyk'.old hB5 hgkl'
          have hR5 : RulesAt W5 w.heap.size 0 rs := fun i hi => ⟨(hB5.cell (p := ⟨w.heap.size, 0 + i * 2, none⟩) hRlt'').trans (hRl i hi).1, (hB5.cell (p := ⟨w.heap.size, 0 + i * 2 + 1, none⟩) hRlt'').trans (hRl i hi).2⟩
          have hs5 := hB5.size
          have hcv := hb5.conv cg'
          have hcvk := hbk5.conv ck
          have hgk5 : gk < W5.heap.size := by omega
          have hR5lt : w.heap.size < W5.heap.size := by omega
          have hgot5 : wl.heap.size < W5.heap.size := World.block_lt_of_cell? _ _ hc50
          clear hBw hby' hbyk' hRl hgl' hgkl' hRlt'' hb5 hs5 hB5
          generalize wl.heap.size = bg at *
          generalize hbest : best l' rs k = bf at *
          obtain ⟨⟨f1, f2⟩, fb⟩ := bf
          have HB := hidE hbest
          clear hbest
          simp only at hc50 hc51
          simp only
          have hrl := hr.1
          go_wp2
          go_loopw [13] (fun i wr => ∃ j : Nat, j ≤ k ∧ i = .int .i64 j ∧ Below W5.heap.size W5 wr) (fun i _ => k - (intOf i).toNat)
          case atStart => exact ⟨0, Nat.zero_le _, rfl, Below.refl _ _⟩
          case round =>
            obtain ⟨j, hjk, rfl, hB6⟩ := hrel
            have hBw6 : Below w.heap.size w wr := hBw5.trans (hB6.mono hBw5.size)
            by_cases hlt : j < k
            · obtain ⟨br, offr, rfl, hbr, hc0, hc1⟩ := hr.pos hBw6 hlt
              have hq0 : wr.cell? ⟨w.heap.size, j * 2, none⟩ = some (.string (rs.getD j nilRl).1) := by
                rw [hB6.cell (p := ⟨w.heap.size, j * 2, none⟩) hR5lt]; simpa using (hR5 j (by omega)).1
              have hq1 : wr.cell? ⟨w.heap.size, j * 2 + 1, none⟩ = some (.string (rs.getD j nilRl).2) := by
                rw [hB6.cell (p := ⟨w.heap.size, j * 2 + 1, none⟩) hR5lt]; simpa using (hR5 j (by omega)).2
              clear hr hw hsz hR5 hcv hcvk hbk5 hBw5 hBw6 HB
              generalize rs.getD j nilRl = r at *
              obtain ⟨r1, r2⟩ := r
              simp only at hc0 hc1 hq0 hq1
              have hilt : (j : Int) < (k : Int) := by omega
              go_wp2
              go_quiet (fail)
              go_wp2
              go_roundw
              case rel => exact ⟨j + 1, by omega, by go_num, below_drewN hB6 _⟩
              case measure => simp [intOf]; omega
            · have hle : k = j := by omega
              subst hle
              have hdk : decide (k < k) = false := by simp
              clear hR5 hcv hcvk hBw6 hlt hjk
              go_wp2
              go_loopw [14, 15] (fun mm i wr => ∃ j : Nat, j ≤ k ∧ i = .int .i64 j ∧ mm = .int .i64 (mlen l' rs j) ∧ Below W5.heap.size W5 wr) (fun _ i _ => k - (intOf i).toNat)
              case atStart => exact ⟨0, Nat.zero_le _, rfl, rfl, hB6⟩
              case round =>
                clear hB6
                obtain ⟨j, hjk, rfl, rfl, hB6⟩ := hrel
                have hBw6 : Below w.heap.size w wr := hBw5.trans (hB6.mono hBw5.size)
                by_cases hlt : j < k
                · obtain ⟨br, offr, rfl, hbr, hc0, _⟩ := hr.pos hBw6 hlt
                  have hb6 := hbk5.old hB6 hgk5
                  have hsj := hsz j hlt
                  have hilt : (j : Int) < (k : Int) := by omega
                  have HY := hidE (mlen_yes l' rs j (by omega))
                  have HN := hidE (mlen_no l' rs j (by omega))
                  clear hr hw hsz hbk5 hBw5 hBw6 HB
                  generalize rs.getD j nilRl = r at *
                  obtain ⟨r1, r2⟩ := r
                  simp only at hc0 hsj HY HN
                  by_cases hgt : mlen l' rs j < r1.size
                  · have hdg : decide (mlen l' rs j < r1.size) = true := decide_eq_true hgt
                    by_cases hen : endsB l' r1.data.toList = true
                    · have HM := hidE (HY.out hgt hen)
                      have Hen := hidE hen
                      clear HY HN hen
                      go_wp2_with fail
                      refine (ends10 gk 0 l'.length ck l' r1 _ rfl (by omega) (by omega) hb6).mono ?_
                      rintro e w7 ⟨rfl, hB7⟩
                      rw [Hen.out]
                      have hc7 : w7.cell? ⟨br, offr + j * 2, none⟩ = some (.string r1) := (hB7.cell (p := ⟨br, offr + j * 2, none⟩) (World.block_lt_of_cell? _ _ hc0)).trans hc0
                      go_wp2
                      go_roundw
                      case rel => exact ⟨j + 1, by omega, by go_num, by rw [HM.out], hB6.trans (hB7.mono hB6.size)⟩
                      case measure => simp [intOf]; omega
                    · have hen : endsB l' r1.data.toList = false := by simpa using hen
                      have HM := hidE (HN.out (fun h => by rw [hen] at h; exact absurd h.2 (by decide)))
                      have Hen := hidE hen
                      clear HY HN hen
                      go_wp2_with fail
                      refine (ends10 gk 0 l'.length ck l' r1 _ rfl (by omega) (by omega) hb6).mono ?_
                      rintro e w7 ⟨rfl, hB7⟩
                      rw [Hen.out]
                      go_wp2
                      go_roundw
                      case rel => exact ⟨j + 1, by omega, by go_num, by rw [HM.out], hB6.trans (hB7.mono hB6.size)⟩
                      case measure => simp [intOf]; omega
                  · have hdg : decide (mlen l' rs j < r1.size) = false := decide_eq_false hgt
                    have HM := hidE (HN.out (fun h => hgt h.1))
                    clear HY HN
                    go_wp2
                    go_roundw
                    case rel => exact ⟨j + 1, by omega, by go_num, by rw [HM.out], hB6⟩
                    case measure => simp [intOf]; omega
                · have hle : k = j := by omega
                  subst hle
                  by_cases hm0 : mlen l' rs k = 0
                  · have hbn := best_none l' rs (by rw [hrl]; exact hm0)
                    rw [hrl, HB.out] at hbn
                    simp only [nilRl, Prod.mk.injEq] at hbn
                    obtain ⟨⟨rfl, rfl⟩, rfl⟩ := hbn
                    rw [hm0]
                    have hg0 : wr.cell? ⟨bg, 0, none⟩ = some (.string ⟨#[]⟩) := (hB6.cell (p := ⟨bg, 0, none⟩) hgot5).trans hc50
                    have hg1 : wr.cell? ⟨bg, 1, none⟩ = some (.string ⟨#[]⟩) := (hB6.cell (p := ⟨bg, 1, none⟩) hgot5).trans hc51
                    clear HB hm0 hc50 hc51 hbk5
                    go_wp2
                    go_ret
                    exact ⟨rfl, hBw6⟩
                  · have HF := hidE (best_first l' rs (by rw [hrl]; exact hm0))
                    have HG := hidE (best_some l' rs (by rw [hrl]; exact hm0))
                    rw [hrl, HB.out] at HF
                    rw [hrl] at HG
                    clear HB
                    have hm0' : ((mlen l' rs k : Int) == 0) = false := by rw [beq_eq_false_iff_ne]; omega
                    have hMle := mlen_le l' rs 140737488351232 (fun i hi => hsz i (by omega)) k (by omega)
                    clear hm0
                    generalize mlen l' rs k = M at *
                    clear hBw6 hlt hjk hdk
                    go_wp2
                    go_loopw [16] (fun i wr => ∃ j : Nat, j ≤ k ∧ i = .int .i64 j ∧ Below W5.heap.size W5 wr ∧ ∀ i, i < j → ¬ ((rs.getD i nilRl).1.size = M ∧ endsB l' (rs.getD i nilRl).1.data.toList = true)) (fun i _ => k - (intOf i).toNat)
                    case atStart => exact ⟨0, Nat.zero_le _, rfl, hB6, fun i hi => absurd hi (Nat.not_lt_zero _)⟩
                    case round =>
                      clear hB6
                      obtain ⟨j, hjk, rfl, hB6, hall⟩ := hrel
                      have hBw6 : Below w.heap.size w wr := hBw5.trans (hB6.mono hBw5.size)
                      by_cases hlt : j < k
                      · obtain ⟨br, offr, rfl, hbr, hc0, hc1⟩ := hr.pos hBw6 hlt
                        have hb6 := hbk5.old hB6 hgk5
                        have hsj := hsz j hlt
                        have hilt : (j : Int) < (k : Int) := by omega
                        have Hall := hidE hall
                        have HFj := hidE (HF.out j hall)
                        have HX := hidE (And.intro hBw5 hBw6)
                        clear hr hw hsz hbk5 hBw5 HF HG hall hBw6
                        generalize hrj : rs.getD j nilRl = r at *
                        have Hrj := hidE hrj
                        clear hrj
                        obtain ⟨r1, r2⟩ := r
                        simp only at hc0 hc1 hsj HFj
                        by_cases hgt : r1.size = M
                        · have hdg : ((r1.size : Int) == (M : Int)) = true := by rw [beq_iff_eq]; omega
                          by_cases hen : endsB l' r1.data.toList = true
                          · have hbest := HFj.out hgt hen
                            simp only [Prod.mk.injEq] at hbest
                            obtain ⟨⟨rfl, rfl⟩, rfl⟩ := hbest
                            have Hen := hidE hen
                            have Hgt := hidE hgt
                            clear hen HFj hgt
                            go_wp2_with fail
                            refine (ends10 gk 0 l'.length ck l' f1 _ rfl (by omega) (by omega) hb6).mono ?_
                            rintro e w7 ⟨rfl, hB7⟩
                            rw [Hen.out]
                            have hc70 : w7.cell? ⟨br, offr + j * 2, none⟩ = some (.string f1) := (hB7.cell (p := ⟨br, offr + j * 2, none⟩) (World.block_lt_of_cell? _ _ hc0)).trans hc0
                            have hc71 : w7.cell? ⟨br, offr + j * 2 + 1, none⟩ = some (.string f2) := (hB7.cell (p := ⟨br, offr + j * 2 + 1, none⟩) (World.block_lt_of_cell? _ _ hc1)).trans hc1
                            have hB8 : Below W5.heap.size W5 w7 := hB6.trans (hB7.mono hB6.size)
                            have hg0 : w7.cell? ⟨bg, 0, none⟩ = some (.string f1) := (hB8.cell (p := ⟨bg, 0, none⟩) hgot5).trans hc50
                            have hg1 : w7.cell? ⟨bg, 1, none⟩ = some (.string f2) := (hB8.cell (p := ⟨bg, 1, none⟩) hgot5).trans hc51
                            clear hc50 hc51 hc0 hc1 hb6
                            go_wp2
                            go_quiet (fail)
                            go_wp2
                            go_ret
                            exact ⟨rfl, below_drewN (HX.out.1.trans (hB8.mono HX.out.1.size)) _⟩
                          · have hen : endsB l' r1.data.toList = false := by simpa using hen
                            have Hen := hidE hen
                            clear HFj hen
                            go_wp2_with fail
                            refine (ends10 gk 0 l'.length ck l' r1 _ rfl (by omega) (by omega) hb6).mono ?_
                            rintro e w7 ⟨rfl, hB7⟩
                            rw [Hen.out]
                            go_wp2
                            go_roundw
                            case rel =>
                              refine ⟨j + 1, by omega, by go_num, hB6.trans (hB7.mono hB6.size), fun i hi h => ?_⟩
                              by_cases hij : i = j
                              · subst hij; rw [Hrj.out, Hen.out] at h; exact absurd h.2 (by decide)
                              · exact Hall.out i (by omega) h
                            case measure => simp [intOf]; omega
                        · have hdg : ((r1.size : Int) == (M : Int)) = false := by rw [beq_eq_false_iff_ne]; omega
                          clear HFj
                          go_wp2
                          go_roundw
                          case rel =>
                            refine ⟨j + 1, by omega, by go_num, hB6, fun i hi h => ?_⟩
                            by_cases hij : i = j
                            · subst hij; rw [Hrj.out] at h; exact hgt h.1
                            · exact Hall.out i (by omega) h
                          case measure => simp [intOf]; omega
                      · exact absurd (HG.out (fun i hi => hall i (by omega))) id

end Go.Proofs.Ybulkcdja
