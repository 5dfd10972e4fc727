/-
  The contract of 'sweepable' (10), the replica not catching up.
-/
import Derived.Test.YbulkcdpmSweepHead
namespace Go.Proofs.Ybulkcdpm
open Go.RowKit Go.MuLone

set_option maxHeartbeats 4000000 in
set_option maxRecDepth 100000 in
theorem sweepable_free (cb B gd rb ni nd : Nat) (its : List Item) (ds : List Int) (ep pr : Int) (at_ : Option Addr) (nt ct : Nat) (ts : List Int) (w : World) (hnd : nd ≤ 4096)
    (h : Repl w cb B gd rb ni nd its ds false ep pr 0 0 0 at_ nt ct ts (.slice (some ⟨gd, 0, none⟩) nd nd)) (hrow : DlRow w gd nd ds nd) :
    Calls Yba.prog 10 #[.pointer (some ⟨rb, 0, none⟩)] w (SweptPost w cb B gd rb nd (stTo its ni) (expK its ni ds nd) ep pr at_ nt ct ts) := by
  obtain ⟨i52, hi52, hz520, hz521, hz522⟩ := info_parts Yba.info52
  obtain ⟨i9, hi9, hz90, hz91, hz92⟩ := info_parts Yba.info9
  have o0 := h.o0
  have o1 := h.o1
  have o2 := h.o2
  have hrep := h.rep
  have HC := hidE h.clk
  have HM := hidE h.regs
  have HW := hidE hrow
  have hrlt := hrep.lt
  clear h hrow
  have HH := hidE hrep
  have c12 := hrep.cell 12
  have g12 := hrep.frozen 12
  clear hrep
  go_enter_defers Yba.func10, Yba.ntmps10
  go_wp2_with fail
  refine (lock_free muLib ⟨rb, 12, none⟩ _ c12 g12).mono ?_
  rintro e w1 ⟨rfl, hw1⟩
  have h1 : RepBlk w1 rb (clockV B) 1 ep pr 0 0 (B + 2) false (.slice (some ⟨gd, 0, none⟩) nd nd) := by rw [hw1]; exact HH.out.setMu 1
  have hk1 : Keep (swS cb gd rb) w w1 := by rw [hw1]; exact (Keep.refl (swS cb gd rb) w).setCell (S := swS cb gd rb) (.inr (.inr rfl)) _
  have hne1 : ∀ q, q ≠ rb → w1.heap[q]? = w.heap[q]? := fun q hq => by rw [hw1]; exact Below.heap_setCell _ _ _ _ hq
  have HC1 := hidE (HC.out.stay (hne1 _ (by omega)) (hne1 _ (by omega)) (hne1 _ (by omega)) (fun q hq => hne1 q (by omega)))
  have HM1 := hidE (HM.out.stay (hne1 _ (by omega)))
  have HW1 := hidE (HW.out.stay (hne1 _ (by omega)))
  have H1 := hidE h1
  have c24 : w1.cell? ⟨rb, 24, none⟩ = some (.bool false) := h1.cell 24
  have c0 : w1.cell? ⟨rb, 0, none⟩ = some (clockV B) := h1.cell 0
  have c14 : w1.cell? ⟨rb, 14, none⟩ = some (.int .u64 ep) := h1.cell 14
  have hs1 := hk1.size
  clear hw1 c12 g12 HH h1 HC HM HW hne1
  go_upto_region 5 with fail
  go_cut [] from 12 (fun wc => ∃ x1 x4, RepBlk wc rb (clockV B) 1 ep pr x1 x4 (B + 2) false (.slice (some ⟨gd, 0, none⟩) nd nd) ∧ ClockAt wc cb (B + 1) B 1 at_ nt ct ts ∧ MapFn wc (B + 2) ni (regF its ni) ∧ DlRow wc gd nd ds nd ∧ Keep (swS cb gd rb) w wc)
  case first =>
    unfold clockV at c0
    have hE : ∀ v, RepBlk ((w1.setCell ⟨cb, 0, none⟩ v).drew) rb (clockV B) 1 ep pr 0 0 (B + 2) false (.slice (some ⟨gd, 0, none⟩) nd nd) := fun v => (Below.heap_setCell _ _ _ _ (by simp; omega)).trans H1.out
    have HE := hidE hE
    clear hE
    have hS0 : ∀ v, (w1.setCell ⟨cb, 0, none⟩ v).cell? ⟨rb, 0, none⟩ = some (.func (.func 9) #[] #[.pointer (some ⟨B + 1, 0, none⟩), .pointer (some ⟨B, 0, none⟩)]) := fun v => (World.cell?_setCell_other _ _ _ _ (by simp <;> omega)).trans c0
    have hS14 : ∀ v, (w1.setCell ⟨cb, 0, none⟩ v).cell? ⟨rb, 14, none⟩ = some (.int .u64 ep) := fun v => (World.cell?_setCell_other _ _ _ _ (by simp <;> omega)).trans c14
    go_region_held3 (fun w' => w'.cell? ⟨rb, 0, none⟩ = some (.func (.func 9) #[] #[.pointer (some ⟨B + 1, 0, none⟩), .pointer (some ⟨B, 0, none⟩)]) ∧ w'.cell? ⟨rb, 14, none⟩ = some (.int .u64 ep)) (go_keep)
      (first
        | (go_at_call 9; refine (clock9 cb (B + 1) B 0 at_ nt ct ts _ (by omega) HC1.out.drew).mono ?_; rintro e w' ⟨rfl, rfl⟩)
        | (go_at_call 15; refine (age15 rb (clockV B) 1 ep pr (B + 2) false (.slice (some ⟨gd, 0, none⟩) nd nd) _ _ _ (HE.out _)).mono ?_; rintro e w' ⟨rfl, ⟨x1, x4, h2⟩, hg2, hz2⟩; have hT0 : w'.cell? ⟨rb, 0, none⟩ = some (.func (.func 9) #[] #[.pointer (some ⟨B + 1, 0, none⟩), .pointer (some ⟨B, 0, none⟩)]) := h2.cell 0; have hT14 : w'.cell? ⟨rb, 14, none⟩ = some (.int .u64 ep) := h2.cell 14))
    all_goals
      go_wp2
      go_meet
      case rel =>
        have hne2 : ∀ q, q < w1.heap.size → q ≠ rb → q ≠ cb → w'.heap[q]? = w1.heap[q]? := fun q hq h1 h2 => (hg2.block q (by show q < (w1.setCell _ _).heap.size; rw [size_setCell]; exact hq) (by intro he; simp at he; exact h1 he)).trans (Below.heap_setCell _ _ _ _ h2)
        have hcb : w'.heap[cb]? = (w1.setCell ⟨cb, 0, none⟩ (.int .i64 ((0 : Nat) + 1 : Int))).heap[cb]? := by
          rw [hg2.block cb (by show cb < (w1.setCell _ _).heap.size; rw [size_setCell]; omega) (by intro he; simp at he; omega)]
          rfl
        refine ⟨x1, x4, h2, HC1.out.tick.stay hcb ?_ ?_ ?_, HM1.out.stay (hne2 _ HM1.out.lt (by omega) (by omega)), HW1.out.stay (hne2 _ HW1.out.lt (by omega) (by omega)), ?_⟩
        · rw [hne2 _ (by omega) (by omega) (by omega), Below.heap_setCell _ _ _ _ (by simp; omega)]
        · rw [hne2 _ (by omega) (by omega) (by omega), Below.heap_setCell _ _ _ _ (by simp; omega)]
        · intro q hq
          rw [hne2 _ (by omega) (by omega) (by omega), Below.heap_setCell _ _ _ _ (by simp; omega)]
        · exact ((hk1.setCell (S := swS cb gd rb) (.inl rfl) _).drew).grown hg2 (by intro q hq _; cases hq; exact .inr (.inr rfl))
  case rest =>
    obtain ⟨x1, x4, hrep, hclk, hregs, hrow, hkc⟩ := hcut
    clear HC1 HM1 HW1 H1 hk1 c24 c0 c14 hs1
    have c25 : wc.cell? ⟨rb, 25, none⟩ = some (.slice (some ⟨gd, 0, none⟩) nd nd) := hrep.cell 25
    have hrc := hrep.lt
    have HX := hidE (And.intro hrep (And.intro hclk (And.intro hregs (And.intro hrow hkc))))
    clear hrep hclk hregs hrow hkc
    have hmk : ∀ (n : Int) (w : World), (Instr.makeMap 93 (some (.int .i64 n))).run Yba.prog w = .ok (.map (some w.heap.size)) (w.alloc (.map #[] 0)) := fun n w => run_makeMap_n Yba.underlying93 .i64 n w
    go_wp2
    have hI0 : SwInv w (wc.alloc (.map #[] 0)) cb B gd rb wc.heap.size ni nd its ds ep pr x1 x4 at_ nt ct ts 0 (.slice none 0 0) := by
      obtain ⟨hrep, hclk, hregs, hrow, hkc⟩ := HX.out
      refine ⟨hrep.stay (Below.heap_alloc _ _ _ hrc), hclk.stay (Below.heap_alloc _ _ _ (by omega)) (Below.heap_alloc _ _ _ (by omega)) (Below.heap_alloc _ _ _ (by omega)) (fun q hq => Below.heap_alloc _ _ _ (by omega)), hregs.stay (Below.heap_alloc _ _ _ hregs.lt), ?_, ?_, World.ownsRow_nil _ _ _ _, fun _ => rfl, hkc.alloc _, by simp⟩
      · have e : listedF (expK its ni ds 0) = fun _ => none := listedF_nil
        rw [e]; exact MapFn.made wc
      · exact (KRow.start hrow).stay (Below.heap_alloc _ _ _ hrow.lt)
    have hwbl : w.heap.size ≤ wc.heap.size := HX.out.2.2.2.2.size
    generalize wc.heap.size = bl at *
    clear HX c25
    go_loopw [3, 4, 5, 53] (fun dv sv kv i wr => ∃ k : Nat, k ≤ nd ∧ i = .int .i64 k ∧ sv = .int .i64 (25 * ((expK its ni ds k).length : Int)) ∧ kv = .slice (some ⟨gd, 0, none⟩) (expK its ni ds k).length nd ∧ SwInv w wr cb B gd rb bl ni nd its ds ep pr x1 x4 at_ nt ct ts k dv) (fun _ _ _ i _ => nd - (intOf i).toNat)
    case atStart => exact ⟨0, Nat.zero_le _, rfl, rfl, rfl, hI0⟩
    case round =>
      clear hI0
      obtain ⟨k, hk, rfl, rfl, rfl, hI⟩ := hrel
      have hEok := expTo_ok (isDel (stTo its ni)) ds k
      have hE8 : (expK its ni ds k).length ≤ 8 := hEok.le8
      have hEk : (expK its ni ds k).length ≤ k := hEok.len
      clear hEok
      have hsz := hI.sz
      generalize hel : (expK its ni ds k).length = el at *
      have Hel := hidE hel
      clear hel
      obtain ⟨s0, hs0⟩ : ∃ s0 : Int, 25 * (el : Int) = s0 := ⟨_, rfl⟩
      have hs1 : 0 ≤ s0 := by omega
      have hs2 : s0 ≤ 200 := by omega
      rw [hs0]
      have Hs0 := hidE hs0
      clear hs0
      by_cases hlt : k < nd
      · have hcell := hI.row.read hlt
        have c21 : wr.cell? ⟨rb, 21, none⟩ = some (.map (some (B + 2))) := hI.rep.cell 21
        have hj := ix_lt (ds.getD k 0)
        have hl := hI.regs.look Yba.underlying79 (zero50 wr) (keyS_le (ix (ds.getD k 0)))
        rw [regF_key its ni hj] at hl
        have HY := hidE (expTo_yes (D := isDel (stTo its ni)) (ds := ds) (k := k))
        have HN1 := hidE (expTo_no1 (D := isDel (stTo its ni)) (ds := ds) (k := k))
        have HN2 := hidE (expTo_no2 (D := isDel (stTo its ni)) (ds := ds) (k := k))
        have HI := hidE hI
        have hrl := hI.rep.lt
        clear hI
        generalize hjx : ix (ds.getD k 0) = j at *
        have hks : (keyS j).size = 1 := rfl
        cases hst : stTo its ni j with
        | none =>
          rw [hst] at hl
          simp only [Option.map_none, Option.getD_none, Option.isSome_none, regV] at hl
          have HE := hidE (show expK its ni ds (k + 1) = expK its ni ds k from HN1.out (by simp [isDel, hst]))
          clear HY HN1 HN2 hst
          go_wp2
          go_roundw
          case rel => exact ⟨k + 1, by omega, by go_num, by rw [HE.out, Hel.out, Hs0.out], by rw [HE.out, Hel.out], HI.out.skip HE.out _⟩
          case measure => simp [intOf]; omega
        | some p =>
          obtain ⟨sq, dl⟩ := p
          rw [hst] at hl
          simp only [Option.map_some, Option.getD_some, Option.isSome_some, regV] at hl
          cases dl with
          | false =>
            have HE := hidE (show expK its ni ds (k + 1) = expK its ni ds k from HN1.out (by simp [isDel, hst]))
            clear HY HN1 HN2 hst
            go_wp2
            go_roundw
            case rel => exact ⟨k + 1, by omega, by go_num, by rw [HE.out, Hel.out, Hs0.out], by rw [HE.out, Hel.out], HI.out.skip HE.out _⟩
            case measure => simp [intOf]; omega
          | true =>
            have hl2 : ∀ O, (Instr.lookup 93 (.map (some bl)) (.string (keyS j)) false).run Yba.prog (wr.alloc O) = .ok (.bool ((expK its ni ds k).contains j)) (wr.alloc O) := fun O => by
              have := (HI.out.lst.stay (w' := wr.alloc O) (Below.heap_alloc _ _ _ HI.out.lst.lt)).look1 Yba.underlying93 (zero4 _) (keyS_le j)
              rwa [listedF_key _ hj] at this
            cases hct : (expK its ni ds k).contains j with
            | true =>
              rw [hct] at hl2
              have HE := hidE (show expK its ni ds (k + 1) = expK its ni ds k from HN2.out hct)
              clear HY HN1 HN2 hst hct
              go_wp2
              go_roundw
              case rel => exact ⟨k + 1, by omega, by go_num, by rw [HE.out, Hel.out, Hs0.out], by rw [HE.out, Hel.out], HI.out.skip HE.out _⟩
              case measure => simp [intOf]; omega
            | false =>
              rw [hct] at hl2
              have HE := hidE (show expK its ni ds (k + 1) = expK its ni ds k ++ [j] from by have := HY.out (by simp [isDel, hst]) hct; exact this)
              have Hst := hidE hst
              clear HY HN1 HN2 hst hct
              go_wp2_with (at_mapUpdate; refine wpList_mapUpdate_fn _ rfl _ _ _ 93 rfl 4 Yba.underlying93 bl k (listedF (expK its ni ds k)) rfl ?hm ?hn (keyS j) (.bool true) rfl rfl (keyS_le j) ?_)
              case hm => exact HI.out.lst.stay (Below.heap_alloc _ _ _ HI.out.lst.lt)
              case hn => unfold maxLen; omega
              intro wb hMb hgb
              have hbs : wr.heap.size + 1 ≤ wb.heap.size := by have := hgb.size; simpa using this
              have hreg : wb.heap[wr.heap.size]? = some (.cells #[.int .u64 sq, .int .u64 0, .int .u64 0, .slice none 0 0, .bool true] 50 (0, 0)) := by
                rw [hgb.block _ (by simp) (by intro he; simp at he; omega)]; exact heap_alloc_new _ _
              have hrowb : KRow wb gd nd ds (expK its ni ds k) k := HI.out.row.stay (by rw [hgb.block _ (by simp; omega) (by intro he; simp at he; omega)]; exact Below.heap_alloc _ _ _ (by omega))
              obtain ⟨hrc1, hrf1⟩ := hrowb.room (j := el) (by omega)
              have hrgd := hrowb.lt
              have q0 : wb.cell? ⟨wr.heap.size, 0, none⟩ = some (.int .u64 sq) := by simp [World.cell?, hreg]
              have q1 : wb.cell? ⟨wr.heap.size, 1, none⟩ = some (.int .u64 0) := by simp [World.cell?, hreg]
              have q2 : wb.cell? ⟨wr.heap.size, 2, none⟩ = some (.int .u64 0) := by simp [World.cell?, hreg]
              have q3 : wb.cell? ⟨wr.heap.size, 3, none⟩ = some (.slice none 0 0) := by simp [World.cell?, hreg]
              have q4 : wb.cell? ⟨wr.heap.size, 4, none⟩ = some (.bool true) := by simp [World.cell?, hreg]
              have hrgne : ¬ wr.heap.size = gd := by omega
              have hgrg : ¬ gd = wr.heap.size := by omega
              have hownb : wb.ownsRow (bl + 1) 52 6 u3 el (entCells (stTo its ni) (expK its ni ds k)) := by
                rw [← Hel.out]
                exact (HI.out.own.alloc _).kept hgb (by
                  cases hob : u3.ownBlock with
                  | none => exact .inl rfl
                  | some q => exact .inr (by intro he; simp at he; have := (HI.out.own.lt q hob).1; omega))
              have HO := hidE hownb
              have HB := hidE (And.intro hMb hgb)
              clear hreg hownb hMb hgb hrowb hl hl2
              go_wp2_with (at_builtin; refine wpList_append_room2 _ rfl _ _ 80 rfl 9 i9 Yba.underlying80 hi9 hz91 gd el nd rfl ⟨wb.heap.size, 0, none⟩ (.string (keyS j)) rfl ?qa ?qb ?qc ?qd ?qe ?_)
              case qa => rw [World.cell?_alloc_at _ _ _ _ rfl]; rfl
              case qb => rfl
              case qc => omega
              case qd => rw [World.cell?_alloc_past _ _ _ hrgd]; exact hrc1
              case qe => rw [World.frozen?_of_block (w := wb) (Below.heap_alloc _ _ _ hrgd)]; exact hrf1
              intro wc2 hwc2
              have hdec : decide (s0 + 25 ≤ 1048576) = true := decide_eq_true (by omega)
              have hcs : wc2.heap.size = wb.heap.size + 1 := by rw [show wc2 = _ from hwc2, World.size_alloc, size_setCell]
              have hcell2 : ∀ i u, wb.cell? ⟨wr.heap.size, i, none⟩ = some u → wc2.cell? ⟨wr.heap.size, i, none⟩ = some u := fun i u hu => by
                rw [show wc2 = _ from hwc2, World.cell?_alloc_past _ _ _ (by rw [size_setCell]; omega), World.cell?_setCell_other _ _ _ _ (by simp <;> omega)]
                exact hu
              have p0 := hcell2 0 _ q0
              have p1 := hcell2 1 _ q1
              have p2 := hcell2 2 _ q2
              have p3 := hcell2 3 _ q3
              have p4 := hcell2 4 _ q4
              have hown2 : wc2.ownsRow (bl + 1) 52 6 u3 el (entCells (stTo its ni) (expK its ni ds k)) := by
                rw [show wc2 = _ from hwc2]
                exact (ownsRow_setCell_below HO.out (by show gd < bl + 1; omega) _).alloc _
              have HO2 := hidE hown2
              have Hcs := hidE hcs
              clear hown2 hcell2 q0 q1 q2 q3 q4 hcs
              go_upto_region 19 with fail
              go_wp2_with (at_builtin; refine wpList_append_own _ rfl _ _ 38 rfl (bl + 1) 52 i52 _ 6 72 Yba.underlying38 hi52 hz520 hz521 hz522 rfl (by decide) u3 el (entCells (stTo its ni) (expK its ni ds k)) rfl ?ho ⟨wc2.heap.size, 0, none⟩ 1 1 (entV (stTo its ni) j) rfl rfl ?c1 ?c2 ?c3 ?c4 ?c5 ?_)
              case ho => exact HO2.out.alloc _
              case c1 =>
                intro q u hq
                rw [Addr.add_lit, Nat.zero_add, World.cell?_alloc_at _ _ _ _ rfl]
                simp only [entV, seqOf, Hst.out, Option.getD_some] at hq
                simpa using hq
              case c2 => exact entV_one _ _
              case c3 => unfold maxLen; omega
              case c4 => omega
              case c5 => have := Hcs.out; simp; omega
              intro dv' we howne hge _
              go_wp2
              go_roundw
              case rel =>
                refine ⟨k + 1, by omega, by go_num, ?_, ?_, ?_⟩
                · rw [HE.out, List.length_append, Hel.out, ← Hs0.out]; simp; omega
                · rw [HE.out, List.length_append, Hel.out]; rfl
                · exact HI.out.hit hj HE.out (by rw [Hel.out]; exact hEk) hlt o0 o1 o2 hrc hwbl HB.out.1 HB.out.2 (by rw [Hel.out]; exact hwc2) (by rw [Hel.out]; exact howne) hge
              case measure => simp [intOf]; omega
      · have hkn : nd = k := by omega
        subst hkn
        have c25 : wr.cell? ⟨rb, 25, none⟩ = some (.slice (some ⟨gd, 0, none⟩) nd nd) := hI.rep.cell 25
        have hrl := hI.rep.lt
        have HI := hidE hI
        have fin : ∀ (W2 : World), KeptRow W2 gd (expK its ni ds nd) → wr.grownBy W2 (some gd) → ∀ W4 : World, W4 = (W2.setCell ⟨rb, 25, none⟩ (.slice (some ⟨gd, 0, none⟩) el nd)).setCell ⟨rb, 12, none⟩ (.int .i32 0) →
            Swept w W4 cb B gd rb nd (stTo its ni) (expK its ni ds nd) ep pr at_ nt ct ts u3 := by
          intro W2 hkr hg2 W4 hW4
          have hI := HI.out
          have hne : ∀ q, q < wr.heap.size → q ≠ rb → q ≠ gd → W4.heap[q]? = wr.heap[q]? := fun q hq h1 h2 => by
            rw [hW4, Below.heap_setCell _ _ _ _ h1, Below.heap_setCell _ _ _ _ h1]
            exact hg2.block q hq (by intro he; simp at he; exact h2 he)
          have hcl := (Array.getElem?_eq_some_iff.1 hI.clk.hcb).1
          refine ⟨⟨x1, x4, ?_⟩, hI.clk.stay (hne _ (by omega) (by omega) (by omega)) (hne _ (by omega) (by omega) (by omega)) (hne _ (by omega) (by omega) (by omega)) (fun q hq => hne q (by omega) (by omega) (by omega)), ?_, ?_, hI.nil, ?_⟩
          · rw [hW4, Hel.out]
            have h2 : RepBlk W2 rb (clockV B) 1 ep pr x1 x4 (B + 2) false (.slice (some ⟨gd, 0, none⟩) nd nd) := hI.rep.stay (hg2.block _ hrl (by intro he; simp at he; omega))
            exact (h2.setDl _).setMu 0
          · refine hkr.stay ?_
            rw [hW4, Below.heap_setCell _ _ _ _ (by simp; omega), Below.heap_setCell _ _ _ _ (by simp; omega)]
          · refine ownsRow_base (b := bl + 1) ?_ (by omega)
            rw [hW4]
            refine ownsRow_setCell_below (ownsRow_setCell_below (hI.own.kept hg2 ?_) (by show rb < bl + 1; omega) _) (by show rb < bl + 1; omega) _
            cases hob : u3.ownBlock with
            | none => exact .inl rfl
            | some q => exact .inr (by intro he; simp at he; have := (hI.own.lt q hob).1; omega)
          · rw [hW4]
            exact ((hI.keep.grown hg2 (by intro q hq _; cases hq; exact .inr (.inl rfl))).setCell (S := swS cb gd rb) (.inr (.inr rfl)) _).setCell (S := swS cb gd rb) (.inr (.inr rfl)) _
        have FIN := hidE fin
        clear fin
        by_cases hfull : el = nd
        · have f25 : wr.frozen? ⟨rb, 25, none⟩ = false := hI.rep.frozen 25
          have hkr : KeptRow wr gd (expK its ni ds nd) := by
            obtain ⟨cur, h1, _, h3, _⟩ := hI.row
            exact ⟨cur, h1, h3⟩
          have hrep2 : RepBlk (wr.setCell ⟨rb, 25, none⟩ (.slice (some ⟨gd, 0, none⟩) nd nd)) rb (clockV B) 1 ep pr x1 x4 (B + 2) false (.slice (some ⟨gd, 0, none⟩) nd nd) := hI.rep.setDl _
          have HR := hidE (And.intro hkr hrep2)
          subst hfull
          clear hI hkr hrep2
          have hclr := clear0
          go_wp2
          refine leaves_cons (f := 14) (args := #[.pointer (some ⟨rb, 12, none⟩)]) (by simp) (by simp [go_sem]) ?_
          refine (unlock_deferred muLib ⟨rb, 12, none⟩ .returning _ (HR.out.2.cell 12) (HR.out.2.frozen 12)).mono ?_
          rintro e u' w3 ⟨rfl, rfl, hw3⟩
          exact ⟨_, results_tmp rfl _ _ _, u3, rfl, FIN.out wr HR.out.1 (grownBy_refl _ _) w3 hw3⟩
        · have hlt2 : el < nd := by omega
          have hrow := hI.row
          obtain ⟨W2, hclr, hkr, hg2⟩ := run_clear hrow (by rw [Hel.out]; exact hlt2)
          rw [Hel.out] at hclr
          have d25 : W2.cell? ⟨rb, 25, none⟩ = some (.slice (some ⟨gd, 0, none⟩) nd nd) := by
            rw [World.cell?_of_block (w := wr) (hg2.block _ hrl (by intro he; simp at he; omega))]; exact c25
          have f25 : W2.frozen? ⟨rb, 25, none⟩ = false := by
            rw [World.frozen?_of_block (w := wr) (hg2.block _ hrl (by intro he; simp at he; omega))]; exact hI.rep.frozen 25
          have hrep2 : RepBlk (W2.setCell ⟨rb, 25, none⟩ (.slice (some ⟨gd, 0, none⟩) el nd)) rb (clockV B) 1 ep pr x1 x4 (B + 2) false (.slice (some ⟨gd, 0, none⟩) el nd) := RepBlk.setDl (hI.rep.stay (hg2.block _ hrl (by intro he; simp at he; omega))) _
          have HR := hidE (And.intro hkr (And.intro hg2 hrep2))
          clear hI hrow hkr hg2 hrep2
          go_wp2
          refine leaves_cons (f := 14) (args := #[.pointer (some ⟨rb, 12, none⟩)]) (by simp) (by simp [go_sem]) ?_
          refine (unlock_deferred muLib ⟨rb, 12, none⟩ .returning _ (HR.out.2.2.cell 12) (HR.out.2.2.frozen 12)).mono ?_
          rintro e u' w3 ⟨rfl, rfl, hw3⟩
          exact ⟨_, results_tmp rfl _ _ _, u3, rfl, FIN.out W2 HR.out.1 HR.out.2.1 w3 hw3⟩

end Go.Proofs.Ybulkcdpm
