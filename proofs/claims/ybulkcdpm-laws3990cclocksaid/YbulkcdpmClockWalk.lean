/-
  The walk of LawS3990CClock (4).
-/
import Derived.Test.YbulkcdpmLawParts
import Derived.Test.YbulkcdpmModel
import Derived.Deep.WholeRow
namespace Go.Proofs.Ybulkcdpm
open Go.RowKit Go.MuLone

def ClockPost (w : World) (e : Ending) (w' : World) : Prop := e = .returned (.bool true) ∧ Below w.heap.size w w'

theorem new_free (w : World) {gd rb ni nd : Nat} {its : List Item} {ds : List Int} {ep pr : Int} {at_ : Option Addr} {nt ct : Nat} {ts : List Int} {w2 : World} {nr : Nat} (h : Built (w.alloc cell0) w2 w.heap.size gd rb ni nd its ds false ep pr (.slice at_ nt ct)) (ht : TicksAt w at_ nt ts) (hnd : nd ≤ 4096) (hnr : nr ≤ 255) :
    Calls Yba.prog 6 #[.pointer (some ⟨rb, 0, none⟩), .int .i64 nr] w2 fun e w3 => ∃ pv k x1 x4, e = .returned pv ∧ FreeSt w w3 gd rb nd (expK its ni ds nd) k ep pr x1 x4 ∧ k = if (expK its ni ds nd).length = 0 then 1 else 2 := by
  have hrow := h.row
  by_cases hE : expK its ni ds nd = []
  · refine (new_empty w.heap.size (w.heap.size + 1) gd rb ni nd its ds ep pr at_ nt ct ts _ _ hnd (h.repl ht) hrow hE).mono ?_
    rintro e w3 ⟨rfl, hs⟩
    obtain ⟨x1, x4, hf⟩ := FreeSt.of_swept h hs
    exact ⟨_, 1, x1, x4, rfl, by rw [hE]; exact hf, by rw [hE]; rfl⟩
  · refine (new_some w.heap.size (w.heap.size + 1) gd rb ni nd its ds ep pr at_ nt ct ts _ _ hnd hnr (h.repl ht) hrow hE).mono ?_
    rintro e w3 ⟨g, ab, sb, hb, cap, rfl, hs⟩
    obtain ⟨x1, x4, hf⟩ := FreeSt.of_newed h hs
    exact ⟨_, 2, x1, x4, rfl, hf, by rw [if_neg (fun h0 => hE (List.length_eq_zero_iff.1 h0))]⟩

set_option maxHeartbeats 4000000 in
set_option maxRecDepth 100000 in
theorem clock4 (ai : Option Addr) (ni ci : Nat) (its : List Item) (ad : Option Addr) (nd cd : Nat) (ds : List Int) (cat : Bool) (ep : Int) (at_ : Option Addr) (nt ct : Nat) (ts : List Int) (nr : Nat) (w : World)
    (hnr : nr ≤ 255) (hI : ItemsAt w ai ni its) (hD : DelsAt w ad nd ds) (hT : TicksAt w at_ nt ts) :
    Calls Yba.prog 4 #[.slice ai ni ci, .slice ad nd cd, .bool cat, .int .u64 ep, .slice at_ nt ct, .int .u8 nr] w (ClockPost w) := by
  by_cases h1 : ni ≤ 4096
  case neg =>
    clear hI hD hT
    go_enter Yba.func4, Yba.ntmps4
    go_wp2
    go_ret
    exact ⟨rfl, Below.refl _ _⟩
  by_cases h2 : nd ≤ 4096
  case neg =>
    clear hI hD hT
    go_enter Yba.func4, Yba.ntmps4
    go_wp2
    go_ret
    exact ⟨rfl, Below.refl _ _⟩
  by_cases h3 : nt ≤ 4096
  case neg =>
    clear hI hD hT
    go_enter Yba.func4, Yba.ntmps4
    go_wp2
    go_ret
    exact ⟨rfl, Below.refl _ _⟩
  have hIa := hI.below (W := w.alloc cell0) ((Below.refl _ _).alloc (Nat.le_refl _) _)
  have hDa := hD.below (W := w.alloc cell0) ((Below.refl _ _).alloc (Nat.le_refl _) _)
  have HH := hidE (And.intro hI (And.intro hD (And.intro hT (And.intro hIa hDa))))
  clear hI hD hT hIa hDa
  have HS24 := hidE (@Yba.size34)
  go_enter Yba.func4, Yba.ntmps4
  go_wp2_with fail
  refine (build5 ai ni ci its ad nd cd ds cat ep ep at_ nt ct w.heap.size _ h1 h2 HH.out.2.2.2.1 HH.out.2.2.2.2).mono ?_
  rintro e w2 ⟨gd, rb, rfl, hB⟩
  have HB := hidE hB
  clear hB
  go_wp2_with fail
  cases cat with
  | true =>
    refine (new_catching w.heap.size (w.heap.size + 1) gd rb ni nd its ds ep ep 0 0 0 at_ nt ct ts _ _ _ (HB.out.repl HH.out.2.2.1)).mono ?_
    rintro e w3 ⟨rfl, h3', hk3⟩
    have hC := CatchSt.mk' HB.out h3' hk3
    have HC := hidE hC
    clear hC h3' hk3
    go_wp2_with fail
    refine (model7 ai ni ci its ad nd cd ds _ h1 h2 (HH.out.1.below HC.out.below) (HH.out.2.1.below HC.out.below)).mono ?_
    rintro e w4 ⟨ev, cur, rfl, hst, hown, hb4⟩
    have hC4 := HC.out.step hb4
    have hsz := hst.size
    have hsc : (storeCells ⟨w4.heap.size, 0, none⟩ cur.toList 0).run Yba.prog (w4.alloc (.cells st0 34)) = .ok () (w4.alloc (.cells cur 34)) := run_storeCells_new w4 34 st0 cur (by rw [hsz]; exact HS24.out) (by rw [hsz]; rfl) hst.one
    unfold st0 at hsc
    have c14 : w4.cell? ⟨rb, 14, none⟩ = some (.int .u64 ep) := hC4.rep.cell 14
    have c15 : w4.cell? ⟨rb, 15, none⟩ = some (.int .u64 ep) := hC4.rep.cell 15
    have c25 : w4.cell? ⟨rb, 25, none⟩ = some (.slice (some ⟨gd, 0, none⟩) nd nd) := hC4.rep.cell 25
    have cc : w4.cell? ⟨w.heap.size, 0, none⟩ = some (.int .i64 0) := by simp [World.cell?, hC4.cb]
    have hrl := hC4.rep.lt
    have hwl := hC4.below.size
    have hbl : w.heap.size < w4.heap.size := (Array.getElem?_eq_some_iff.1 hC4.cb).1
    have H4 := hidE (And.intro hC4 hown)
    clear hC4 hown hb4 hst
    go_wp2
    go_loopw [83] (fun i wr => ∃ k : Nat, k ≤ nd ∧ i = .int .i64 k ∧ CatchSt w wr gd rb nd ds ep ep) (fun i _ => nd - (intOf i).toNat)
    case atStart => exact ⟨0, Nat.zero_le _, rfl, H4.out.1.alloc _⟩
    case round =>
      obtain ⟨k, hk, rfl, hC⟩ := hrel
      by_cases hlt : k < nd
      · obtain ⟨b, off, rfl, hb, hc0⟩ := HH.out.2.1.pos hC.below hlt
        obtain ⟨hr0, hr1⟩ := HH.out.2.1.2.1 k hlt
        have d25 : wr.cell? ⟨rb, 25, none⟩ = some (.slice (some ⟨gd, 0, none⟩) nd nd) := hC.rep.cell 25
        have hcell := hC.row.read hlt
        have HC := hidE hC
        clear hC hsc c14 c15 c25 cc HH HB H4
        generalize ds.getD k 0 = d at *
        go_wp2
        go_quiet ((go_at_call 8; exact Calls.quiet_of_same (key8 d _ hr0 hr1)))
        go_wp2
        go_roundw
        case rel => exact ⟨k + 1, by omega, by go_num, HC.out.step (below_drewN (Below.refl _ _) _)⟩
        case measure => simp [intOf]; omega
      · have he : nd = k := by omega
        subst he
        have HC := hidE hC
        clear hC hsc c14 c15 c25 cc HB H4
        go_wp2
        go_ret
        exact ⟨rfl, HC.out.below⟩
  | false =>
    refine (new_free w HB.out HH.out.2.2.1 h2 hnr).mono ?_
    rintro e w3 ⟨pv, k, x1, x4, rfl, hF, hk⟩
    have HF := hidE hF
    clear hF
    go_wp2_with fail
    refine (model7 ai ni ci its ad nd cd ds _ h1 h2 (HH.out.1.below HF.out.below) (HH.out.2.1.below HF.out.below)).mono ?_
    rintro e w4 ⟨ev, cur, rfl, hst, hown, hb4⟩
    have hF4 := HF.out.step hb4
    obtain ⟨a, c, rfl, hev⟩ := ExpIn.of_own hown
    have hsz := hst.size
    have hsc : (storeCells ⟨w4.heap.size, 0, none⟩ cur.toList 0).run Yba.prog (w4.alloc (.cells st0 34)) = .ok () (w4.alloc (.cells cur 34)) := run_storeCells_new w4 34 st0 cur (by rw [hsz]; exact HS24.out) (by rw [hsz]; rfl) hst.one
    unfold st0 at hsc
    have c14 : w4.cell? ⟨rb, 14, none⟩ = some (.int .u64 ep) := hF4.rep.cell 14
    have c15 : w4.cell? ⟨rb, 15, none⟩ = some (.int .u64 ep) := hF4.rep.cell 15
    have c25 : w4.cell? ⟨rb, 25, none⟩ = some (.slice (some ⟨gd, 0, none⟩) (expK its ni ds nd).length nd) := hF4.rep.cell 25
    have cc : w4.cell? ⟨w.heap.size, 0, none⟩ = some (.int .i64 (k : Int)) := by simp [World.cell?, hF4.cb]
    have hrl := hF4.rep.lt
    have hwl := hF4.below.size
    have hbl : w.heap.size < w4.heap.size := (Array.getElem?_eq_some_iff.1 hF4.cb).1
    have H4 := hidE (And.intro hF4 hev)
    have hok : ExpOk (isDel (stTo its ni)) (expK its ni ds nd) nd := expTo_ok (isDel (stTo its ni)) ds nd
    have hE8 := hok.le8
    have Hlt := hidE hok.lt
    clear hF4 hown hb4 hst hev hok
    generalize expK its ni ds nd = E at *
    generalize hel : E.length = el at *
    have Hel := hidE hel
    clear hel
    by_cases he0 : el = 0
    · subst he0
      have hk1 : k = 1 := by simpa using hk
      subst hk1
      clear hk
      go_wp2
      go_loopw [117] (fun i wr => i = .int .i64 0 ∧ FreeSt w wr gd rb nd E 1 ep ep x1 x4) (fun _ _ => 0)
      case atStart => exact ⟨rfl, H4.out.1.alloc _⟩
      case round =>
        obtain ⟨rfl, hF⟩ := hrel
        have HF := hidE hF
        clear hF hsc c14 c15 c25 cc H4 HB HH
        go_wp2
        go_ret
        exact ⟨rfl, HF.out.below⟩
    · have hk2 : k = 2 := by simpa [he0] using hk
      subst hk2
      clear hk
      have hne : ((el : Int) == 0) = false := by simp; omega
      go_wp2
      go_loopw [117] (fun i wr => ∃ k : Nat, k ≤ el ∧ i = .int .i64 k ∧ FreeSt w wr gd rb nd E 2 ep ep x1 x4 ∧ ExpIn wr a E) (fun i _ => el - (intOf i).toNat)
      case atStart => exact ⟨0, Nat.zero_le _, rfl, H4.out.1.alloc _, H4.out.2.step ((Below.refl _ _).alloc (Nat.le_refl _) _)⟩
      case round =>
        obtain ⟨k, hk, rfl, hF, hX⟩ := hrel
        by_cases hlt : k < el
        · have hlt' : k < E.length := by rw [Hel.out]; exact hlt
          obtain ⟨g, rfl, hc0⟩ := hX.pos hlt'
          have d25 : wr.cell? ⟨rb, 25, none⟩ = some (.slice (some ⟨gd, 0, none⟩) el nd) := by rw [← Hel.out]; exact hF.rep.cell 25
          have hcell := hF.read hlt'
          have hj8 : E[k] < 8 := Hlt.out _ (List.getElem_mem hlt')
          have hix := ix_small hj8
          have HF := hidE (And.intro hF hX)
          clear hF hX hsc c14 c15 c25 cc HH HB H4
          generalize E[k] = j at *
          have hj0 : (0 : Int) ≤ (j : Int) := by omega
          have hj1 : (j : Int) ≤ 255 := by omega
          go_wp2
          go_quiet ((go_at_call 8; exact Calls.quiet_of_same (key8 _ _ (by omega) (by omega))))
          go_wp2
          go_roundw
          case rel => exact ⟨k + 1, by omega, by go_num, HF.out.1.step (below_drewN (Below.refl _ _) _), HF.out.2.step (below_drewN (Below.refl _ _) _)⟩
          case measure => simp [intOf]; omega
        · have he : el = k := by omega
          subst he
          have HF := hidE hF
          clear hF hX hsc c14 c15 c25 cc HB H4
          go_wp2
          go_ret
          exact ⟨rfl, HF.out.below⟩

end Go.Proofs.Ybulkcdpm
