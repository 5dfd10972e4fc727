/-
  The contract of 'begin' (12) at round 1.
-/
import Derived.Test.YbulkcdpmBeginParts
namespace Go.Proofs.Ybulkcdpm
open Go.RowKit Go.MuLone

structure BgInv (w wr : World) (cb B rb g ab sb hb : Nat) (st : Nat → Option (Int × Bool)) (E : List Nat) (ep : Int) (an dl : Value) (nr : Nat) (at_ : Option Addr) (nt ct : Nat) (ts : List Int) (k : Nat) : Prop where
  swp : SwpBlk wr sb rb 1 ep 1 an dl (.map (some hb)) (tickAt ts nt 1)
  hold : HoldAt wr hb (E.take k)
  ans : AnsAt wr ab nr
  clk : ClockAt wr cb (B + 1) B 2 at_ nt ct ts
  ent : EntRow wr g st E
  keep : Keep (bgS cb ab sb) w wr
  hbs : sb < hb

theorem not_mem_take {E : List Nat} (h : E.Nodup) {k : Nat} (hk : k < E.length) : ¬ E[k] ∈ E.take k := by
  intro hm
  obtain ⟨i, hi, he⟩ := List.getElem_of_mem hm
  rw [List.getElem_take] at he
  rw [List.length_take] at hi
  exact List.pairwise_iff_getElem.1 h i k (by omega) hk (by omega) he

theorem BgInv.next {w wr : World} {cb B rb g ab sb hb : Nat} {st : Nat → Option (Int × Bool)} {E : List Nat} {ep : Int} {an dl : Value} {nr : Nat} {at_ : Option Addr} {nt ct : Nat} {ts : List Int} {k : Nat} (h : BgInv w wr cb B rb g ab sb hb st E ep an dl nr at_ nt ct ts k)
    (o0 : cb < B) (o1 : B + 2 < rb) (o2 : rb < g) (o3 : g < ab) (o4 : ab < sb) (hlt : k < E.length) (hhs : w.heap.size ≤ hb) {j : Nat} (hj : E[k] = j) {O : Obj} {w5 : World} (h5 : HoldAt w5 hb (E.take k ++ [j])) (hg : (wr.alloc O).drew.grownBy w5 (some hb)) :
    BgInv w w5 cb B rb g ab sb hb st E ep an dl nr at_ nt ct ts (k + 1) := by
  have hhl := h.hold.fn.lt
  have hbs := h.hbs
  have hne : ∀ q, q < hb → w5.heap[q]? = wr.heap[q]? := fun q hq => by
    rw [hg.block q (by show q < (wr.alloc O).heap.size; simp; omega) (by intro he; simp at he; omega)]
    exact Below.heap_alloc _ _ _ (by omega)
  refine ⟨h.swp.stay (hne _ (by omega)), ?_, h.ans.stay (hne _ (by omega)), h.clk.stay (hne _ (by omega)) (hne _ (by omega)) (hne _ (by omega)) (fun q hq => hne q (by omega)), h.ent.stay (hne _ (by omega)), ?_, hbs⟩
  · rw [List.take_succ_eq_append_getElem hlt, hj]; exact h5
  · exact ((h.keep.alloc O).drew).grown hg (by intro q hq hl; cases hq; omega)

set_option maxHeartbeats 4000000 in
set_option maxRecDepth 100000 in
theorem begin12 (cb B rb g ab sb : Nat) (st : Nat → Option (Int × Bool)) (E : List Nat) (ep ep' pr x1 x4 : Int) (m : Nat) (cat : Bool) (dr : Value) (cap nr : Nat) (at_ : Option Addr) (nt ct : Nat) (ts : List Int) (w : World)
    (hE8 : E.length ≤ 8) (hElt : ∀ j ∈ E, j < 8) (hEnd : E.Nodup) (o0 : cb < B) (o1 : B + 2 < rb) (o2 : rb < g) (o3 : g < ab) (o4 : ab < sb)
    (hrep : RepBlk w rb (clockV B) 0 ep' pr x1 x4 m cat dr) (hclk : ClockAt w cb (B + 1) B 1 at_ nt ct ts) (hans : AnsAt w ab nr) (hent : EntRow w g st E)
    (hsw : SwpBlk w sb rb 0 ep 0 (.slice (some ⟨ab, 0, none⟩) nr nr) (.slice (some ⟨g, 0, none⟩) E.length cap) (.map none) 0) :
    Calls Yba.prog 12 #[.pointer (some ⟨sb, 0, none⟩), .int .i64 1] w (BegunPost w cb B rb ab sb E ep (.slice (some ⟨ab, 0, none⟩) nr nr) (.slice (some ⟨g, 0, none⟩) E.length cap) nr at_ nt ct ts) := by
  have hslt := hsw.lt
  have c1 : w.cell? ⟨sb, 1, none⟩ = some (.int .i64 0) := hsw.cell 1
  have c4 : w.cell? ⟨sb, 4, none⟩ = some (.int .i64 0) := hsw.cell 4
  have c5 : w.cell? ⟨sb, 5, none⟩ = some (.slice (some ⟨ab, 0, none⟩) nr nr) := hsw.cell 5
  have g1 := hsw.thaw 1
  have g4 := hsw.thaw 4
  have HH := hidE (And.intro hrep (And.intro hclk (And.intro hans (And.intro hent hsw))))
  clear hrep hclk hans hent hsw
  go_enter Yba.func12, Yba.ntmps12
  go_upto_region 2 with fail
  have h1 : SwpBlk ((w.setCell ⟨sb, 1, none⟩ (.int .i64 1)).setCell ⟨sb, 4, none⟩ (.int .i64 1)) sb rb 1 ep 1 (.slice (some ⟨ab, 0, none⟩) nr nr) (.slice (some ⟨g, 0, none⟩) E.length cap) (.map none) 0 := (HH.out.2.2.2.2.setRnd 1).setSnd 1
  have hk1 : Keep (bgS cb ab sb) w ((w.setCell ⟨sb, 1, none⟩ (.int .i64 1)).setCell ⟨sb, 4, none⟩ (.int .i64 1)) := ((Keep.refl (bgS cb ab sb) w).setCell (S := bgS cb ab sb) (.inr (.inr rfl)) _).setCell (S := bgS cb ab sb) (.inr (.inr rfl)) _
  have hn1 : ∀ q, q < sb → ((w.setCell ⟨sb, 1, none⟩ (.int .i64 1)).setCell ⟨sb, 4, none⟩ (.int .i64 1)).heap[q]? = w.heap[q]? := fun q hq => by
    rw [Below.heap_setCell _ _ _ _ (by simp; omega), Below.heap_setCell _ _ _ _ (by simp; omega)]
  generalize ((w.setCell ⟨sb, 1, none⟩ (.int .i64 1)).setCell ⟨sb, 4, none⟩ (.int .i64 1)) = w1 at *
  obtain ⟨w2, hclr, hans2, hg2, hs2⟩ := (HH.out.2.2.1.stay (hn1 ab o4)).clear
  have h2 : SwpBlk w2 sb rb 1 ep 1 (.slice (some ⟨ab, 0, none⟩) nr nr) (.slice (some ⟨g, 0, none⟩) E.length cap) (.map none) 0 := h1.stay (hg2.block _ h1.lt (by intro he; simp at he; omega))
  have d5 : w1.cell? ⟨sb, 5, none⟩ = some (.slice (some ⟨ab, 0, none⟩) nr nr) := h1.cell 5
  have HX := hidE (And.intro hans2 (And.intro hg2 (And.intro h2 (And.intro hn1 hk1))))
  have HN := hidE hs2
  clear c1 c4 c5 g1 g4 h1 hk1 hn1 hans2 hg2 h2 hs2
  go_upto_region 3 with fail
  clear d5 hclr
  have e6 := HX.out.2.2.1.cell 6
  have e11 := HX.out.2.2.1.cell 11
  have e12 := HX.out.2.2.1.cell 12
  have g6 := HX.out.2.2.1.thaw 6
  have g11 := HX.out.2.2.1.thaw 11
  have g12 := HX.out.2.2.1.thaw 12
  simp only [swpArr] at e6 e11 e12
  go_upto_region 5 with fail
  have h3 : SwpBlk (((w2.setCell ⟨sb, 6, none⟩ (.int .i64 0)).setCell ⟨sb, 11, none⟩ (.int .u64 0)).setCell ⟨sb, 12, none⟩ (.int .i64 0)) sb rb 1 ep 1 (.slice (some ⟨ab, 0, none⟩) nr nr) (.slice (some ⟨g, 0, none⟩) E.length cap) (.map none) 0 := HX.out.2.2.1.set6.set11.set12
  have hk3 : Keep (bgS cb ab sb) w (((w2.setCell ⟨sb, 6, none⟩ (.int .i64 0)).setCell ⟨sb, 11, none⟩ (.int .u64 0)).setCell ⟨sb, 12, none⟩ (.int .i64 0)) :=
    (((HX.out.2.2.2.2.grown HX.out.2.1 (by intro q hq _; cases hq; exact .inr (.inl rfl))).setCell (S := bgS cb ab sb) (.inr (.inr rfl)) _).setCell (S := bgS cb ab sb) (.inr (.inr rfl)) _).setCell (S := bgS cb ab sb) (.inr (.inr rfl)) _
  have hn3 : ∀ q, q < sb → (((w2.setCell ⟨sb, 6, none⟩ (.int .i64 0)).setCell ⟨sb, 11, none⟩ (.int .u64 0)).setCell ⟨sb, 12, none⟩ (.int .i64 0)).heap[q]? = w2.heap[q]? := fun q hq => by
    rw [Below.heap_setCell _ _ _ _ (by simp; omega), Below.heap_setCell _ _ _ _ (by simp; omega), Below.heap_setCell _ _ _ _ (by simp; omega)]
  generalize (((w2.setCell ⟨sb, 6, none⟩ (.int .i64 0)).setCell ⟨sb, 11, none⟩ (.int .u64 0)).setCell ⟨sb, 12, none⟩ (.int .i64 0)) = w3 at *
  have hs1 : w.heap.size ≤ w1.heap.size := HX.out.2.2.2.2.size
  have hb3 : ∀ q, q < sb → q ≠ ab → w3.heap[q]? = w.heap[q]? := fun q hq hne => by
    rw [hn3 q hq, HX.out.2.1.block q (by omega) (by intro he; simp at he; exact hne he), HX.out.2.2.2.1 q hq]
  have hrep3 := HH.out.1.stay (hb3 rb (by omega) (by omega))
  have hclk3 := HH.out.2.1.stay (hb3 cb (by omega) (by omega)) (hb3 _ (by omega) (by omega)) (hb3 _ (by omega) (by omega)) (fun q hq => hb3 q (by omega) (by omega))
  have hent3 := HH.out.2.2.2.1.stay (hb3 g (by omega) (by omega))
  have hans3 := HX.out.1.stay (hn3 ab o4)
  have c0 : w3.cell? ⟨sb, 0, none⟩ = some (.pointer (some ⟨rb, 0, none⟩)) := h3.cell 0
  have r0 : w3.cell? ⟨rb, 0, none⟩ = some (.func (.func 9) #[] #[.pointer (some ⟨B + 1, 0, none⟩), .pointer (some ⟨B, 0, none⟩)]) := hrep3.cell 0
  have HY := hidE (And.intro h3 (And.intro hk3 (And.intro hclk3 (And.intro hent3 hans3))))
  have hw3 := h3.lt
  clear e6 e11 e12 g6 g11 g12 h3 hk3 hn3 hb3 hclk3 hent3 hans3 hrep3 HX HN hs1
  clear w1 w2
  go_wp2_with fail
  refine (clock9 cb (B + 1) B 1 at_ nt ct ts _ (by omega) HY.out.2.2.1).mono ?_
  rintro e w4 ⟨rfl, hw4⟩
  have hn4 : ∀ q, q ≠ cb → w4.heap[q]? = w3.heap[q]? := fun q hq => by rw [hw4]; exact Below.heap_setCell _ _ _ _ hq
  have h4 := HY.out.1.stay (hn4 sb (by omega))
  have hk4 : Keep (bgS cb ab sb) w w4 := by rw [hw4]; exact HY.out.2.1.setCell (S := bgS cb ab sb) (.inl rfl) _
  have hclk4 : ClockAt w4 cb (B + 1) B 2 at_ nt ct ts := by rw [hw4]; exact HY.out.2.2.1.tick
  have hent4 := HY.out.2.2.2.1.stay (hn4 g (by omega))
  have hans4 := HY.out.2.2.2.2.stay (hn4 ab (by omega))
  clear hw4 hn4 c0 r0
  have d7 : w4.cell? ⟨sb, 7, none⟩ = some (.slice (some ⟨g, 0, none⟩) E.length cap) := h4.cell 7
  have d8 : w4.cell? ⟨sb, 8, none⟩ = some (.map none) := h4.cell 8
  have d9 : w4.cell? ⟨sb, 9, none⟩ = some (.slice none 0 0) := h4.cell 9
  have d10 : w4.cell? ⟨sb, 10, none⟩ = some (.int .i64 0) := h4.cell 10
  have q8 := h4.thaw 8
  have q9 := h4.thaw 9
  have q10 := h4.thaw 10
  have hw4 := h4.lt
  have HZ := hidE (And.intro h4 (And.intro hk4 (And.intro hclk4 (And.intro hent4 hans4))))
  clear h4 hk4 hclk4 hent4 hans4 HY hw3
  have hmk : ∀ (n : Int) (w : World), (Instr.makeMap 39 (some (.int .i64 n))).run Yba.prog w = .ok (.map (some w.heap.size)) (w.alloc (.map #[] 0)) := fun n w => run_makeMap_n Yba.underlying39 .i64 n w
  go_wp2
  have hI0 : BgInv w ((((w4.setCell ⟨sb, 10, none⟩ (.int .i64 (tickAt ts nt 1))).setCell ⟨sb, 9, none⟩ (.slice none 0 0)).setCell ⟨sb, 8, none⟩ (.map (some w4.heap.size))).alloc (.map #[] 0)) cb B rb g ab sb w4.heap.size st E ep (.slice (some ⟨ab, 0, none⟩) nr nr) (.slice (some ⟨g, 0, none⟩) E.length cap) nr at_ nt ct ts 0 := by
    obtain ⟨h4, hk4, hclk4, hent4, hans4⟩ := HZ.out
    have hne : ∀ q, q < sb → ((((w4.setCell ⟨sb, 10, none⟩ (.int .i64 (tickAt ts nt 1))).setCell ⟨sb, 9, none⟩ (.slice none 0 0)).setCell ⟨sb, 8, none⟩ (.map (some w4.heap.size))).alloc (.map #[] 0)).heap[q]? = w4.heap[q]? := fun q hq => by
      rw [Below.heap_alloc _ _ _ (by simp only [size_setCell]; omega), Below.heap_setCell _ _ _ _ (by simp; omega), Below.heap_setCell _ _ _ _ (by simp; omega), Below.heap_setCell _ _ _ _ (by simp; omega)]
    refine ⟨?_, ?_, hans4.stay (hne ab o4), hclk4.stay (hne cb (by omega)) (hne _ (by omega)) (hne _ (by omega)) (fun q hq => hne q (by omega)), hent4.stay (hne g (by omega)), ?_, hw4⟩
    · exact (((h4.setHeld _).set9).setHold _).stay (Below.heap_alloc _ _ _ (by simp only [size_setCell]; omega))
    · have := HoldAt.made (((w4.setCell ⟨sb, 10, none⟩ (.int .i64 (tickAt ts nt 1))).setCell ⟨sb, 9, none⟩ (.slice none 0 0)).setCell ⟨sb, 8, none⟩ (.map (some w4.heap.size)))
      simp only [size_setCell] at this
      simpa using this
    · exact (((hk4.setCell (S := bgS cb ab sb) (.inr (.inr rfl)) _).setCell (S := bgS cb ab sb) (.inr (.inr rfl)) _).setCell (S := bgS cb ab sb) (.inr (.inr rfl)) _).alloc _
  have hhs : w.heap.size ≤ w4.heap.size := HZ.out.2.1.size
  clear d7 d8 d9 d10 q8 q9 q10 HZ HH hmk
  generalize w4.heap.size = hb at *
  go_loopw [60] (fun i wr => ∃ k : Nat, k ≤ E.length ∧ i = .int .i64 k ∧ BgInv w wr cb B rb g ab sb hb st E ep (.slice (some ⟨ab, 0, none⟩) nr nr) (.slice (some ⟨g, 0, none⟩) E.length cap) nr at_ nt ct ts k) (fun i _ => E.length - (intOf i).toNat)
  case atStart => exact ⟨0, Nat.zero_le _, rfl, hI0⟩
  case round =>
    clear hI0
    obtain ⟨k, hk, rfl, hI⟩ := hrel
    by_cases hlt : k < E.length
    · have p0 : wr.cell? ⟨g, k * 6, none⟩ = some (.string (keyS E[k])) := hI.ent.read hlt (o := 0) (by omega)
      have p1 : wr.cell? ⟨g, k * 6 + 1, none⟩ = some (.int .u64 (seqOf st E[k])) := hI.ent.read hlt (o := 1) (by omega)
      have p2 : wr.cell? ⟨g, k * 6 + 2, none⟩ = some (.int .u64 0) := hI.ent.read hlt (o := 2) (by omega)
      have p3 : wr.cell? ⟨g, k * 6 + 3, none⟩ = some (.int .u64 0) := hI.ent.read hlt (o := 3) (by omega)
      have p4 : wr.cell? ⟨g, k * 6 + 4, none⟩ = some (.slice none 0 0) := hI.ent.read hlt (o := 4) (by omega)
      have p5 : wr.cell? ⟨g, k * 6 + 5, none⟩ = some (.bool true) := hI.ent.read hlt (o := 5) (by omega)
      have s8 : wr.cell? ⟨sb, 8, none⟩ = some (.map (some hb)) := hI.swp.cell 8
      have hlt8 : E[k] < 8 := hElt _ (List.getElem_mem hlt)
      have hsl := hI.swp.lt
      have hgl := hI.ent.lt
      have hhl := hI.hold.fn.lt
      have hno : ¬ E[k] ∈ E.take k := not_mem_take hEnd hlt
      obtain ⟨w5, hrun, hh5, hg5, hs5⟩ := (hI.hold.stay (w' := (wr.alloc (.cells #[.string (keyS E[k]), .int .u64 (seqOf st E[k]), .int .u64 0, .int .u64 0, .slice none 0 0, .bool true] 52)).drew) (Below.heap_alloc _ _ _ hhl)).put hlt8 hno (by rw [List.length_take]; unfold maxLen; omega)
      have HI := hidE (And.intro hI (And.intro hh5 hg5))
      have HS := hidE hs5
      clear hI hh5 hg5 hs5 hno hlt8
      generalize hej : E[k] = j at *
      have Hej := hidE hej
      clear hej
      generalize seqOf st j = sq at *
      go_wp2
      go_region
      all_goals go_wp2
      all_goals
        go_roundw
        case rel => exact ⟨k + 1, by omega, by go_num, HI.out.1.next o0 o1 o2 o3 o4 hlt hhs Hej.out HI.out.2.1 HI.out.2.2⟩
        case measure => simp [intOf]; omega
    · have he : E.length = k := by omega
      have HI := hidE hI
      have He := hidE he
      clear hI
      have hnl : ¬ ((k : Int) < (E.length : Int)) := by omega
      clear he hlt
      go_wp2
      go_end0
      have h := HI.out
      refine ⟨rfl, hb, ⟨h.swp, ?_, h.ans, h.clk, h.keep⟩⟩
      have := h.hold
      rwa [← He.out, List.take_length] at this

end Go.Proofs.Ybulkcdpm
