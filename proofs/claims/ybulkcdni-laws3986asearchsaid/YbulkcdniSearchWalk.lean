/-
  The walk of 'LawS3986ASearch' (3).
-/
import Derived.Test.YbulkcdniNames
import Derived.Test.YbulkcdniLazy
namespace Go.Proofs.Ybulkcdni
open Go.RowKit

theorem Yba.info26 : (Yba.prog.info? 26).map (fun i => (i.zero, i.size, i.bytes)) = some (some (.agg #[.string ⟨#[]⟩, .string ⟨#[]⟩]), 2, 32) := by kernel_rfl

set_option maxHeartbeats 1000000 in
set_option maxRecDepth 100000 in
theorem search_walk (a : Option Addr) (n c : Nat) (ns : List ByteArray) (key : ByteArray) (p : Int) (use : Bool) (w : World) (hp0 : 0 ≤ p) (hp1 : p ≤ 255) (hr : NamesAt w a n ns) :
    Calls Yba.prog 3 #[.slice a n c, .string key, .int .u8 p, .bool use] w fun e w' => e = .returned (.bool true) ∧ Below w.heap.size w w' := by
  by_cases h0 : 1024 < n
  · go_enter Yba.func3, Yba.ntmps3
    go_wp2
    go_ret
    exact ⟨rfl, Below.refl _ _⟩
  have hd0 : decide (1024 < n) = false := decide_eq_false h0
  obtain ⟨i26, hi, hz0, hz1, hz2⟩ := info_parts Yba.info26
  go_enter Yba.func3, Yba.ntmps3
  go_wp2_with fail
  refine (pick8 a n c ns key p use _ hp0 hp1 hr).mono ?_
  rintro e w' ⟨k', rfl, hw'⟩
  subst hw'
  go_wp2_with (at_make; refine wpList_make_full _ rfl _ _ 24 rfl w'.heap.size 26 i26 _ 2 Yba.underlying24 hi hz0 hz1 .i64 .i64 _ _ n rfl rfl rfl rfl ?qa ?qb (Nat.le_refl _) ?_)
  case qa => rw [hz2]; omega
  case qb => unfold maxLen; omega
  intro wa howna hga
  have hBa : Below w'.heap.size w' wa := (Below.refl _ _).grown hga (Nat.le_refl _) (fun k hk => by cases hk)
  have hRa := EntsBlk.made (ns := ns) (u := .string k') howna
  clear howna hga
  go_wp2
  go_loopw [10] (fun i wr => ∃ k : Nat, k ≤ n ∧ i = .int .i64 k ∧ Below w'.heap.size w' wr ∧ EntsBlk wr 26 w'.heap.size n ns (.string k') k) (fun i _ => n - (intOf i).toNat)
  case atStart => exact ⟨0, Nat.zero_le _, rfl, hBa, hRa⟩
  case round =>
    obtain ⟨k, hk, rfl, hB, hR⟩ := hrel
    by_cases hlt : k < n
    · obtain ⟨b, off, rfl, hb, hc0⟩ := hr.pos hB hlt
      obtain ⟨⟨v0, hv0⟩, ⟨v1, hv1⟩, hf0, hf1⟩ := hR.room hlt
      have HS := hidE (hR.step hlt)
      clear hR hRa hBa hr
      generalize nameAt ns k = s at *
      go_wp2
      go_roundw
      case rel => exact ⟨k + 1, by omega, by go_num, (hB.setCell (by simp) _).setCell (by simp) _, HS.out⟩
      case measure => simp [intOf]; omega
    · have he : n = k := by omega
      subst he
      clear hRa hBa hlt hk
      have hRat := hR.at
      have hRlt := hR.lt
      have hdn : decide (n < n) = false := by simp
      go_wp2_with fail
      refine (place9_nil w'.heap.size 0 n n ns (.string k') k' _ (by omega) hRlt hRat).mono ?_
      rintro e wb ⟨rfl, hBb⟩
      have hRb : EntsAt wb w'.heap.size 0 n ns (.string k') := hRat.below hBb hRlt
      have hBw : Below w'.heap.size w' wb := hB.trans (hBb.mono hB.size)
      have hrb := hr.below hBw
      have hRltb : w'.heap.size < wb.heap.size := Nat.lt_of_lt_of_le hRlt hBb.size
      clear hR hRat hRlt hBb hB
      go_wp2_with fail
      refine (first10 a n c ns k' _ (by omega) hrb).mono ?_
      rintro e wc ⟨rfl, hwc⟩
      subst hwc
      have hne : (firstTo ns k' n != firstTo ns k' n) = false := by simp
      go_wp2
      go_loopw [12] (fun i wr => ∃ j : Nat, j ≤ n ∧ i = .int .i64 j ∧ Below wc.heap.size wc wr) (fun i _ => n - (intOf i).toNat)
      case atStart => exact ⟨0, Nat.zero_le _, rfl, Below.refl _ _⟩
      case round =>
        obtain ⟨j, hjk, rfl, hB6⟩ := hrel
        have hBw6 : Below w'.heap.size w' wr := hBw.trans (hB6.mono hBw.size)
        by_cases hlt : j < n
        · obtain ⟨b, off, rfl, hb, hc0⟩ := hr.pos hBw6 hlt
          have hq0 : wr.cell? ⟨w'.heap.size, j * 2, none⟩ = some (.string (nameAt ns j)) := by
            rw [hB6.cell (p := ⟨w'.heap.size, j * 2, none⟩) hRltb]; simpa using (hRb j hlt).1
          have hq1 : wr.cell? ⟨w'.heap.size, j * 2 + 1, none⟩ = some (.string k') := by
            rw [hB6.cell (p := ⟨w'.heap.size, j * 2 + 1, none⟩) hRltb]; simpa using (hRb j hlt).2
          clear hr hRb hrb hBw hBw6
          generalize nameAt ns j = s at *
          have hilt : (j : Int) < (n : Int) := by omega
          go_wp2
          go_quiet (fail)
          go_wp2
          go_roundw
          case rel => exact ⟨j + 1, by omega, by go_num, below_drewN hB6 _⟩
          case measure => simp [intOf]; omega
        · have hle : n = j := by omega
          subst hle
          go_wp2
          go_ret
          exact ⟨rfl, hBw6⟩

end Go.Proofs.Ybulkcdni
