/-
  The contract of zzs3990cmodel (7).
-/
import Derived.Test.YbulkcdpmModelParts
namespace Go.Proofs.Ybulkcdpm
open Go.RowKit Go.MuLone

set_option maxHeartbeats 4000000 in
set_option maxRecDepth 100000 in
theorem model7 (ai : Option Addr) (ni ci : Nat) (its : List Item) (ad : Option Addr) (nd cd : Nat) (ds : List Int) (w : World)
    (hni : ni ≤ 4096) (hnd : nd ≤ 4096) (hI : ItemsAt w ai ni its) (hD : DelsAt w ad nd ds) :
    Calls Yba.prog 7 #[.slice ai ni ci, .slice ad nd cd] w (ModelPost w (stTo its ni) (expK its ni ds nd)) := by
  obtain ⟨i3, hi3, hz30, hz31, hz32⟩ := info_parts Yba.info3
  go_enter Yba.func7, Yba.ntmps7
  go_wp2
  go_loopw [17] (fun i wr => ∃ k : Nat, k ≤ ni ∧ i = .int .i64 k ∧ Below w.heap.size w wr ∧ StRow wr w.heap.size (stTo its 0) ∧ StRow wr (w.heap.size + 1) (stTo its k)) (fun i _ => ni - (intOf i).toNat)
  case atStart =>
    refine ⟨0, Nat.zero_le _, rfl, ((Below.refl _ _).alloc (Nat.le_refl _) _).alloc (by simp) _, ⟨st0, ?_, st0_is its⟩, ⟨st0, ?_, st0_is its⟩⟩
    · rw [Below.heap_alloc _ _ _ (by simp)]; exact heap_alloc_new _ _
    · have := heap_alloc_new (w.alloc (.cells st0 34)) (.cells st0 34)
      rw [World.size_alloc] at this
      exact this
  case round =>
    obtain ⟨k, hk, rfl, hB, h5, h6⟩ := hrel
    by_cases hlt : k < ni
    · obtain ⟨b, off, rfl, hb, hc0, hc1, hc2⟩ := hI.pos hB hlt
      obtain ⟨hr0, hr1⟩ := hI.2.1 k hlt
      have hlt6 := h6.lt
      obtain ⟨p0, p1, p2⟩ := h6.read (ix_lt (itemAt its k).1)
      have f0 := h6.thaw (ix (itemAt its k).1 * 3)
      have f1 := h6.thaw (ix (itemAt its k).1 * 3 + 1)
      have f2 := h6.thaw (ix (itemAt its k).1 * 3 + 2)
      have HS := hidE (show ∀ j, stTo its (k + 1) j = if ix (itemAt its k).1 = j then some (itemAt its k).2 else stTo its k j from fun _ => rfl)
      have HX := hidE (And.intro hB (And.intro h5 h6))
      have hBs := hB.size
      clear hI hD hB h5 h6
      generalize itemAt its k = it at *
      obtain ⟨K, S, Dl⟩ := it
      simp only [ix] at p0 p1 p2 f0 f1 f2
      simp only at hc0 hc1 hc2 hr0 hr1
      generalize Value.bool (stTo its k (K % 8).toNat).isSome = v0 at p0
      generalize Value.bool ((stTo its k (K % 8).toNat).getD (0, false)).2 = v1 at p1
      generalize Value.int IntKind.u64 (seqOf (stTo its k) (K % 8).toNat) = v2 at p2
      go_wp2
      go_roundw
      case rel =>
        obtain ⟨hB, h5, h6⟩ := HX.out
        refine ⟨k + 1, by omega, by go_num, (((hB.setCell (by simp) _).setCell (by simp) _).setCell (by simp) _).alloc (by simp only [size_setCell]; exact hBs) _, ?_, ?_⟩
        · refine h5.stay ?_
          rw [Below.heap_alloc _ _ _ (by simp only [size_setCell]; omega), Below.heap_setCell _ _ _ _ (by simp), Below.heap_setCell _ _ _ _ (by simp), Below.heap_setCell _ _ _ _ (by simp)]
        · refine StRow.stay (h6.set (j := ix K) (s := S) (d := Dl) (ix_lt K) ?_ ?_) (Below.heap_alloc _ _ _ (by simp only [size_setCell]; omega))
          · rw [HS.out]; simp
          · intro i hi; rw [HS.out]; simp [show ¬ ix K = i from fun e => hi e.symm]
      case measure => simp [intOf]; omega
    · have he : ni = k := by omega
      subst he
      have HX := hidE (And.intro hB (And.intro h5 h6))
      have hBs := hB.size
      have hlt6 := h6.lt
      clear hB h5 h6 hI hlt hk
      go_wp2
      have hI0 : MdInv w (wr.alloc (.cells #[.bool false, .bool false, .bool false, .bool false, .bool false, .bool false, .bool false, .bool false] 91)) wr.heap.size its ni ds 0 (.slice none 0 0) := by
        obtain ⟨hB, h5, h6⟩ := HX.out
        refine ⟨hB.alloc hBs _, h5.stay (Below.heap_alloc _ _ _ (by omega)), h6.stay (Below.heap_alloc _ _ _ (by omega)), ⟨_, heap_alloc_new _ _, rfl, ?_⟩, World.ownsRow_nil _ _ _ _⟩
        exact forall8 rfl rfl rfl rfl rfl rfl rfl rfl
      have hs6 : w.heap.size + 1 < wr.heap.size := hlt6
      generalize wr.heap.size = sb at *
      clear HX hBs hlt6
      go_loopw [11, 35] (fun ev i wr => ∃ k : Nat, k ≤ nd ∧ i = .int .i64 k ∧ MdInv w wr sb its ni ds k ev) (fun _ i _ => nd - (intOf i).toNat)
      case atStart => exact ⟨0, Nat.zero_le _, rfl, hI0⟩
      case round =>
        clear hI0
        obtain ⟨k, hk, rfl, hI⟩ := hrel
        have hEok := expTo_ok (isDel (stTo its ni)) ds k
        have hE8 : (expK its ni ds k).length ≤ 8 := hEok.le8
        clear hEok
        have h6lt := hI.h6.lt
        have hslt := hI.seen.lt
        by_cases hlt : k < nd
        · obtain ⟨b, off, rfl, hb, hc0⟩ := hD.pos hI.below hlt
          obtain ⟨hr0, hr1⟩ := hD.2.1 k hlt
          have hj := ix_lt (ds.getD k 0)
          obtain ⟨p0, p1, _⟩ := hI.h6.read hj
          have q0 := hI.seen.read hj
          have g0 := hI.seen.thaw (ix (ds.getD k 0))
          have HY := hidE (expTo_yes (D := isDel (stTo its ni)) (ds := ds) (k := k))
          have HN1 := hidE (expTo_no1 (D := isDel (stTo its ni)) (ds := ds) (k := k))
          have HN2 := hidE (expTo_no2 (D := isDel (stTo its ni)) (ds := ds) (k := k))
          have HI := hidE hI
          clear hI hD
          generalize ds.getD k 0 = d at *
          have Hj := hidE hj
          simp only [ix] at p0 p1 q0 g0
          cases hst : stTo its ni (ix d) with
          | none =>
            rw [show stTo its ni (d % 8).toNat = none from hst] at p0 p1
            simp only [Option.isSome_none, Option.getD_none] at p0 p1
            have HE := hidE (show expK its ni ds (k + 1) = expK its ni ds k from HN1.out (by simp [isDel, hst]))
            clear HY HN1 HN2 hst
            generalize (expK its ni ds k).contains (d % 8).toNat = ct at q0
            go_wp2
            go_roundw
            case rel => exact ⟨k + 1, by omega, by go_num, HI.out.skip HE.out⟩
            case measure => simp [intOf]; omega
          | some p =>
            obtain ⟨sq, dl⟩ := p
            rw [show stTo its ni (d % 8).toNat = some (sq, dl) from hst] at p0 p1
            simp only [Option.isSome_some, Option.getD_some] at p0 p1
            cases dl with
            | false =>
              have HE := hidE (show expK its ni ds (k + 1) = expK its ni ds k from HN1.out (by simp [isDel, hst]))
              clear HY HN1 HN2 hst
              generalize (expK its ni ds k).contains (d % 8).toNat = ct at q0
              go_wp2
              go_roundw
              case rel => exact ⟨k + 1, by omega, by go_num, HI.out.skip HE.out⟩
              case measure => simp [intOf]; omega
            | true =>
              cases hct : (expK its ni ds k).contains (ix d) with
              | true =>
                rw [show (expK its ni ds k).contains (d % 8).toNat = true from hct] at q0
                have HE := hidE (show expK its ni ds (k + 1) = expK its ni ds k from HN2.out hct)
                clear HY HN1 HN2 hst hct
                go_wp2
                go_roundw
                case rel => exact ⟨k + 1, by omega, by go_num, HI.out.skip HE.out⟩
                case measure => simp [intOf]; omega
              | false =>
                rw [show (expK its ni ds k).contains (d % 8).toNat = false from hct] at q0
                have HE := hidE (show expK its ni ds (k + 1) = expK its ni ds k ++ [ix d] from HY.out (by simp [isDel, hst]) hct)
                clear HY HN1 HN2 hst hct
                generalize hel : (expK its ni ds k).length = el at *
                have Hel := hidE hel
                clear hel
                go_wp2_with (at_builtin; refine wpList_append_own _ rfl _ _ 31 rfl (sb + 1) 3 i3 _ 1 8 Yba.underlying31 hi3 hz30 hz31 hz32 rfl (by decide) u11 el (expV (expK its ni ds k)) rfl ?ho ⟨wr.heap.size, 0, none⟩ 1 1 [.int .i64 (d % 8)] rfl rfl ?c1 ?c2 ?c3 ?c4 ?c5 ?_)
                case ho =>
                  have := HI.out.own
                  rw [Hel.out] at this
                  exact (ownsRow_setCell_below this (by show sb < sb + 1; omega) _).alloc _
                case c1 =>
                  have := cell_one_new (wr.setCell ⟨sb, (d % 8).toNat, none⟩ (.bool true)) (.int .i64 (d % 8)) 3
                  simp only [size_setCell] at this
                  exact this
                case c2 => intro u hu; rw [List.mem_singleton.1 hu]; rfl
                case c3 => unfold maxLen; omega
                case c4 => omega
                case c5 => simp only [World.size_alloc, size_setCell]; omega
                intro ev' we howne hge _
                go_wp2
                go_roundw
                case rel => exact ⟨k + 1, by omega, by go_num, HI.out.hit Hj.out HE.out hs6 (by rw [Hel.out]; exact howne) hge (ix_cast d).symm⟩
                case measure => simp [intOf]; omega
        · have he : nd = k := by omega
          subst he
          have HI := hidE hI
          obtain ⟨cur, hcur, his⟩ := hI.h6
          obtain ⟨old, hold, hiso⟩ := hI.h5
          have hone := his.one
          have hrow : (wr.drew.setRow w.heap.size cur).heap[w.heap.size]? = some (.cells cur 34 (0, 0)) := setRow_heap _ _ old cur 34 (0, 0) hold
          have hsz := his.size
          have hso := hiso.size
          have HS := hidE (And.intro his hrow)
          clear hI hiso his hrow hD
          go_upto_region 18 with fail
          refine wp_region_any (by kernel_rfl) ?_
          change wpAny _ _ _ _ _ _ _ (World.drew _)
          refine wpAny_take (i := 0) (v := u11) rfl (by kernel_rfl) (by kernel_rfl) (by kernel_rfl) (fun _ _ _ h => h) (Or.inl ⟨by rfl, ?_⟩) ?_
          · intro w; go_simp
          refine wpAny_take (i := 2) (v := u11) rfl (by kernel_rfl) (by kernel_rfl) (by kernel_rfl) (fun _ _ _ h => h) (Or.inl ⟨by rfl, ?_⟩) ?_
          · intro w; go_simp
          refine wpAny_ready (rs := [1]) (by kernel_rfl) (by simp) ?_
          refine AllReady.cons rfl (fun K hK => ?_) AllReady.nil
          refine Eq.mpr (if_pos (show Region.wanted _ _ = true from rfl)) ?_
          refine wp_load_row 34 _ rfl (w.heap.size + 1) rfl 34 cur (0, 0) _ hcur Yba.underlying34 rfl (by rw [hsz]; exact Yba.size34) ?_
          refine hK _ _ ?_
          clear hK K
          refine wpAny_ready (rs := [3]) (by kernel_rfl) (by simp) ?_
          refine AllReady.cons rfl (fun K hK => ?_) AllReady.nil
          refine Eq.mpr (if_pos (show Region.wanted _ _ = true from rfl)) ?_
          refine wp_store_row 34 _ _ rfl w.heap.size cur rfl rfl 34 old hold (by rw [hsz]; exact Yba.size34) (by rw [hsz, hso]) hone ?_
          refine hK _ _ ?_
          clear hK K
          refine wpAny_done (by kernel_rfl) ?_ _
          go_wp2
          refine bodyPost_ret (results_pair_cell Yba.results7 _ _ w.heap.size 34 cur (0, 0) _ rfl HS.out.2 Yba.underlying34 rfl (by rw [hsz]; exact Yba.size34)) rfl ?_
          have hmi := HI.out
          have hgr : wr.grownBy (wr.drew.setRow w.heap.size cur) (some w.heap.size) := ⟨rfl, rfl, rfl, Nat.le_of_eq (size_setRow _ _ _).symm, fun q _ hq => setRow_other _ _ _ _ (fun e => hq (by rw [e]))⟩
          refine ⟨u11, cur, rfl, HS.out.1, ?_, ?_⟩
          · refine ownsRow_base (b := sb + 1) (hmi.own.kept hgr ?_) (by omega)
            cases hob : u11.ownBlock with
            | none => exact .inl rfl
            | some q => exact .inr (by intro he; simp at he; have := (hmi.own.lt q hob).1; omega)
          · exact hmi.below.grown hgr hmi.below.size (fun q hq => by cases hq; exact Nat.le_refl _)

end Go.Proofs.Ybulkcdpm
