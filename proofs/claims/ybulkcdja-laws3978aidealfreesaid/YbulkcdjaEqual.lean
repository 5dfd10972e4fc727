/-
  slices.Equal (function 8) at two slices that hold the same numbers.
-/
import Derived.Test.YbulkcdjaRank
import Derived.Deep.LoopGhost
namespace Go.Proofs.Ybulkcdja
open Go.RowKit

set_option maxHeartbeats 1000000 in
set_option maxRecDepth 100000 in
theorem equal_any (a a' : Option Addr) (n c c' : Nat) (zs : List Int) (w : World) (hn : n ≤ 4096) (hr : Reads w a n zs) (hr' : Reads w a' n zs) :
    Calls Yba.prog 8 #[.slice a n c, .slice a' n c'] w fun e w' => e = .returned (.bool true) ∧ Below w.heap.size w w' := by
  have hne : ((n : Int) != (n : Int)) = false := by simp
  go_enter Yba.func8, Yba.ntmps8
  go_wp2
  go_loopw [13] (fun i wr => ∃ k : Nat, k ≤ n ∧ i = .int .i64 k ∧ Below w.heap.size w wr) (fun i _ => n - (intOf i).toNat)
  case atStart => exact ⟨0, Nat.zero_le _, rfl, Below.refl _ _⟩
  case round =>
    obtain ⟨k, hk, rfl, hB⟩ := hrel
    have hrr := hr.below hB
    have hrr' := hr'.below hB
    by_cases hlt : k < n
    · obtain ⟨b, off, rfl, hb, hc⟩ : ∃ b off, a = some ⟨b, off, none⟩ ∧ b < wr.heap.size ∧ ∀ j, j < n → wr.cell? ⟨b, off + j, none⟩ = some (.int .i64 (zs.getD j 0)) := by
        rcases hrr.2 with h | h
        · omega
        · exact h
      obtain ⟨b', off', rfl, hb', hc'⟩ : ∃ b off, a' = some ⟨b, off, none⟩ ∧ b < wr.heap.size ∧ ∀ j, j < n → wr.cell? ⟨b, off + j, none⟩ = some (.int .i64 (zs.getD j 0)) := by
        rcases hrr'.2 with h | h
        · omega
        · exact h
      have hck := hc k hlt
      have hck' := hc' k hlt
      clear hc hc' hrr hrr' hr hr'
      generalize zs.getD k 0 = z at *
      have hz : (z != z) = false := by simp
      have hlt' : (k : Int) < (n : Int) := by omega
      go_wp2
      go_quiet (fail)
      go_wp2
      go_roundw
      case rel => exact ⟨k + 1, by omega, by go_num, below_drewN hB _⟩
      case measure => simp [intOf]; omega
    · go_wp2
      go_ret
      exact ⟨rfl, hB⟩

end Go.Proofs.Ybulkcdja
