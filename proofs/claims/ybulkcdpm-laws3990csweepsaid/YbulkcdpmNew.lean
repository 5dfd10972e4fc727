/-
  The contract of NewSweep (6).
-/
import Derived.Test.YbulkcdpmBegin
import Derived.Deep.OwnRows
namespace Go.Proofs.Ybulkcdpm
open Go.RowKit Go.MuLone

theorem Yba.info4 : (Yba.prog.info? 4).map (fun i => (i.zero, i.size, i.bytes)) = some (some (.bool false), 1, 1) := by kernel_rfl

theorem field57 (a b : Int) (W : World) : (Instr.field 57 (.agg #[.int .u64 a, .int .u64 b]) 0).run Yba.prog W = .ok (.int .u64 a) W := by kernel_rfl

theorem AnsAt.made (w : World) (n : Nat) : AnsAt (w.alloc (.cells (madeCells #[.bool false] n) 4)) w.heap.size n :=
  ⟨_, heap_alloc_new _ _, size_madeCells _ _, fun i hi => by simp [madeCells, hi, Nat.mod_one]⟩

set_option maxHeartbeats 1000000 in
theorem new_catching (cb B gd rb ni nd : Nat) (its : List Item) (ds : List Int) (ep pr x1 x4 : Int) (k : Nat) (at_ : Option Addr) (nt ct : Nat) (ts : List Int) (dl : Value) (nr : Int) (w : World) (h : Repl w cb B gd rb ni nd its ds true ep pr x1 x4 k at_ nt ct ts dl) :
    Calls Yba.prog 6 #[.pointer (some ⟨rb, 0, none⟩), .int .i64 nr] w fun e w' => e = .returned (.pointer none) ∧ RepBlk w' rb (clockV B) 0 ep pr x1 x4 (B + 2) true dl ∧ Keep (fun q => q = rb) w w' := by
  have H := hidE h
  clear h
  go_enter Yba.func6, Yba.ntmps6
  go_wp2_with fail
  refine (sweepable_catching cb B gd rb ni nd its ds ep pr x1 x4 k at_ nt ct ts dl _ H.out).mono ?_
  rintro e w1 ⟨rfl, h1, hk1⟩
  have H1 := hidE (And.intro h1 hk1)
  clear h1 hk1
  go_wp2
  go_ret
  exact ⟨rfl, H1.out.1, H1.out.2⟩

set_option maxHeartbeats 1000000 in
theorem new_empty (cb B gd rb ni nd : Nat) (its : List Item) (ds : List Int) (ep pr : Int) (at_ : Option Addr) (nt ct : Nat) (ts : List Int) (nr : Int) (w : World) (hnd : nd ≤ 4096)
    (h : Repl w cb B gd rb ni nd its ds false ep pr 0 0 0 at_ nt ct ts (.slice (some ⟨gd, 0, none⟩) nd nd)) (hrow : DlRow w gd nd ds nd) (hE : expK its ni ds nd = []) :
    Calls Yba.prog 6 #[.pointer (some ⟨rb, 0, none⟩), .int .i64 nr] w fun e w' => e = .returned (.pointer none) ∧ Swept w w' cb B gd rb nd (stTo its ni) [] ep pr at_ nt ct ts (.slice none 0 0) := by
  have H := hidE (And.intro h hrow)
  have HE := hidE hE
  clear h hrow hE
  go_enter Yba.func6, Yba.ntmps6
  go_wp2_with fail
  refine (sweepable_free cb B gd rb ni nd its ds ep pr at_ nt ct ts _ hnd H.out.1 H.out.2).mono ?_
  rintro e w1 ⟨dv, rfl, h1⟩
  rw [HE.out] at h1
  have hdv := h1.nil rfl
  subst hdv
  have H1 := hidE h1
  clear h1
  go_wp2
  go_ret
  exact ⟨rfl, H1.out⟩

/-- Between the making of the sweep and its beginning. -/
structure Mid (w1 wc : World) (B gd rb g ab sb nd n : Nat) (cap nr : Nat) (ep pr : Int) : Prop where
  o3 : g < ab
  o4 : ab < sb
  o5 : w1.heap.size ≤ ab
  swp : SwpBlk wc sb rb 0 ep 0 (.slice (some ⟨ab, 0, none⟩) nr nr) (.slice (some ⟨g, 0, none⟩) n cap) (.map none) 0
  ans : AnsAt wc ab nr
  rep : ∃ x1 x4, RepBlk wc rb (clockV B) 0 ep pr x1 x4 (B + 2) false (.slice (some ⟨gd, 0, none⟩) n nd)
  keep : Keep (fun q => q = rb) w1 wc

/-- What NewSweep leaves where there is something to sweep. -/
structure Newed (w w' : World) (cb B gd rb g ab sb hb nd : Nat) (st : Nat → Option (Int × Bool)) (E : List Nat) (cap nr : Nat) (ep pr : Int) (at_ : Option Addr) (nt ct : Nat) (ts : List Int) : Prop where
  swp : SwpBlk w' sb rb 1 ep 1 (.slice (some ⟨ab, 0, none⟩) nr nr) (.slice (some ⟨g, 0, none⟩) E.length cap) (.map (some hb)) (tickAt ts nt 1)
  hold : HoldAt w' hb E
  ans : AnsAt w' ab nr
  ent : EntRow w' g st E
  clk : ClockAt w' cb (B + 1) B 2 at_ nt ct ts
  rep : ∃ x1 x4, RepBlk w' rb (clockV B) 0 ep pr x1 x4 (B + 2) false (.slice (some ⟨gd, 0, none⟩) E.length nd)
  row : KeptRow w' gd E
  keep : Keep (swS cb gd rb) w w'
def NewedPost (w : World) (cb B gd rb nd : Nat) (st : Nat → Option (Int × Bool)) (E : List Nat) (nr : Nat) (ep pr : Int) (at_ : Option Addr) (nt ct : Nat) (ts : List Int) (e : Ending) (w' : World) : Prop :=
  ∃ g ab sb hb cap, e = .returned (.pointer (some ⟨sb, 0, none⟩)) ∧ Newed w w' cb B gd rb g ab sb hb nd st E cap nr ep pr at_ nt ct ts

set_option maxHeartbeats 4000000 in
set_option maxRecDepth 100000 in
theorem new_some (cb B gd rb ni nd : Nat) (its : List Item) (ds : List Int) (ep pr : Int) (at_ : Option Addr) (nt ct : Nat) (ts : List Int) (nr : Nat) (w : World) (hnd : nd ≤ 4096) (hnr : nr ≤ 255)
    (h : Repl w cb B gd rb ni nd its ds false ep pr 0 0 0 at_ nt ct ts (.slice (some ⟨gd, 0, none⟩) nd nd)) (hrow : DlRow w gd nd ds nd) (hE : expK its ni ds nd ≠ []) :
    Calls Yba.prog 6 #[.pointer (some ⟨rb, 0, none⟩), .int .i64 nr] w (NewedPost w cb B gd rb nd (stTo its ni) (expK its ni ds nd) nr ep pr at_ nt ct ts) := by
  have H := hidE (And.intro h hrow)
  have o0 := h.o0
  have o1 := h.o1
  have o2 := h.o2
  have hrw := h.rep.lt
  have hok : ExpOk (isDel (stTo its ni)) (expK its ni ds nd) nd := expTo_ok (isDel (stTo its ni)) ds nd
  have hpos : 0 < (expK its ni ds nd).length := List.length_pos_iff.2 hE
  clear h hrow hE
  go_enter Yba.func6, Yba.ntmps6
  go_wp2_with fail
  refine (sweepable_free cb B gd rb ni nd its ds ep pr at_ nt ct ts _ hnd H.out.1 H.out.2).mono ?_
  rintro e w1 ⟨dv, rfl, h1⟩
  obtain ⟨g, cap, rfl, hwg, hg1, hent⟩ := EntRow.of_own h1.own rfl hpos
  have he8 := hok.le8
  have HO := hidE hok
  have H1 := hidE (And.intro h1 hent)
  clear hok h1 hent H
  generalize hEE : expK its ni ds nd = E at *
  generalize stTo its ni = st at *
  clear hEE
  generalize hel : E.length = el at *
  have Hel := hidE hel
  clear hel
  have hcond : ((el : Int) == 0) = false := by simp; omega
  have hmk : ∀ W : World, (Instr.makeSlice 37 (.int .i64 (nr : Int)) (.int .i64 (nr : Int))).run Yba.prog W = .ok (.slice (some ⟨W.heap.size, 0, none⟩) nr nr) (W.alloc (.cells (madeCells #[.bool false] nr) 4)) :=
    fun W => run_make_row' 37 4 (.bool false) 1 Yba.underlying37 Yba.info4 rfl .i64 .i64 nr (by omega) (by omega) W
  have hf57 := field57
  go_upto_region 4 with fail
  have hr1 : rb < w1.heap.size := by omega
  go_cut [6] from 12 (fun v wc => ∃ ab sb, v = .pointer (some ⟨sb, 0, none⟩) ∧ Mid w1 wc B gd rb g ab sb nd el cap nr ep pr)
  case first =>
    obtain ⟨x1, x4, hrep⟩ := H1.out.1.rep
    rw [Hel.out] at hrep
    have HR := hidE hrep
    clear hrep
    go_region_with (go_at_call 11; refine (epochs11 rb (clockV B) ep pr x1 x4 (B + 2) false (.slice (some ⟨gd, 0, none⟩) el nd) _ (HR.out.stay (by first | rfl | exact Below.heap_alloc _ _ _ hr1))).mono ?_; rintro e w' ⟨rfl, h2, hg2⟩)
    all_goals go_wp2
    all_goals go_meet
    case rel =>
      have hgs : w1.heap.size ≤ w'.heap.size := hg2.size
      refine ⟨w'.heap.size, w'.heap.size + 1, rfl, ⟨by omega, by omega, by omega, ?_, ?_, ⟨x1, x4, ?_⟩, ?_⟩⟩
      · have := heap_alloc_new (w'.alloc (.cells (madeCells #[.bool false] nr) 4)) (.cells (swpArr rb 0 ep 0 (.slice (some ⟨w'.heap.size, 0, none⟩) nr nr) (.slice (some ⟨g, 0, none⟩) el cap) (.map none) 0) 44)
        rw [World.size_alloc] at this
        exact this
      · exact (AnsAt.made w' nr).stay (Below.heap_alloc _ _ _ (by simp))
      · exact h2.stay (by rw [Below.heap_alloc _ _ _ (by simp; omega), Below.heap_alloc _ _ _ (by omega)])
      · exact (((Keep.refl (fun q => q = rb) w1).drew.grown hg2 (by intro q hq _; cases hq; rfl)).alloc _).alloc _
    case rel =>
      have hgs : w1.heap.size + 1 ≤ w'.heap.size := by have := hg2.size; simpa using this
      refine ⟨w1.heap.size, w'.heap.size, rfl, ⟨by omega, by omega, by omega, ?_, ?_, ⟨x1, x4, ?_⟩, ?_⟩⟩
      · exact heap_alloc_new w' (.cells (swpArr rb 0 ep 0 (.slice (some ⟨w1.heap.size, 0, none⟩) nr nr) (.slice (some ⟨g, 0, none⟩) el cap) (.map none) 0) 44)
      · refine (AnsAt.made w1 nr).stay ?_
        rw [Below.heap_alloc _ _ _ (by omega)]
        exact hg2.block _ (by simp) (by intro he; simp at he; omega)
      · exact h2.stay (Below.heap_alloc _ _ _ (by omega))
      · exact ((((Keep.refl (fun q => q = rb) w1).drew.alloc _).grown hg2 (by intro q hq _; cases hq; rfl)).alloc _)
  case rest =>
    obtain ⟨ab, sb, rfl, hmid⟩ := hcut
    obtain ⟨hswp, hent⟩ := H1.out
    obtain ⟨m1, m2, m3, hsw, hans, ⟨x1, x4, hrep⟩, hkm⟩ := hmid
    have hne : ∀ q, q < w1.heap.size → q ≠ rb → wc.heap[q]? = w1.heap[q]? := fun q hq hr => hkm.block q hq hr
    have hclk := hswp.clk.stay (hne _ (by omega) (by omega)) (hne _ (by omega) (by omega)) (hne _ (by omega) (by omega)) (fun q hq => hne q (by omega) (by omega))
    have hentc := hent.stay (hne g hg1 (by omega))
    have hrow := hswp.row.stay (hne gd (by omega) (by omega))
    have HM := hidE (And.intro hsw (And.intro hans (And.intro hrep (And.intro hkm (And.intro hclk (And.intro hentc (And.intro hrow hswp.keep)))))))
    clear hsw hans hrep hkm hclk hentc hrow hswp hent hne H1 hmk hf57
    go_wp2_with fail
    subst_vars
    refine (begin12 cb B rb g ab sb st E ep ep pr x1 x4 (B + 2) false (.slice (some ⟨gd, 0, none⟩) E.length nd) cap nr at_ nt ct ts _ he8 HO.out.lt HO.out.nodup o0 (by omega) (by omega) m1 m2 HM.out.2.2.1 HM.out.2.2.2.2.1 HM.out.2.1 HM.out.2.2.2.2.2.1 HM.out.1).mono ?_
    rintro e w6 ⟨rfl, hb, hbeg⟩
    have HB := hidE hbeg
    clear hbeg
    go_wp2
    go_ret
    obtain ⟨hsw, hans, hrep, hkm, hclk, hent, hrow, hk0⟩ := HM.out
    obtain ⟨b1, b2, b3, b4, b5⟩ := HB.out
    have hsl := hsw.lt
    have hne : ∀ q, q < wc.heap.size → q ≠ cb → q ≠ ab → q ≠ sb → w6.heap[q]? = wc.heap[q]? := fun q hq h1 h2 h3 => b5.block q hq (by rintro (h | h | h) <;> contradiction)
    refine ⟨g, ab, sb, hb, cap, rfl, ⟨b1, b2, b3, hent.stay (hne g (by omega) (by omega) (by omega) (by omega)), b4, ⟨x1, x4, ?_⟩, hrow.stay (hne gd (by omega) (by omega) (by omega) (by omega)), ?_⟩⟩
    · exact hrep.stay (hne rb (by omega) (by omega) (by omega) (by omega))
    · have hs1 := hk0.size
      have hkc : Keep (swS cb gd rb) w wc := hk0.trans (hkm.mono (fun k hk => .inr (.inr hk)))
      have hs2 := hkc.size
      refine ⟨b5.os.trans hkc.os, b5.tape.trans hkc.tape, b5.output.trans hkc.output, Nat.le_trans hkc.size b5.size, fun q hq hs => ?_⟩
      rw [hne q (by omega) (fun h => hs (.inl h)) (by omega) (by omega)]
      exact hkc.block q hq hs

end Go.Proofs.Ybulkcdpm
