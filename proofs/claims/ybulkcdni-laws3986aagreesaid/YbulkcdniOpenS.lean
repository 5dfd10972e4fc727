/-
  Opening the names that came in, with the bound on each.
-/
import Derived.Test.YbulkcdniOpen
namespace Go.Proofs.Ybulkcdni
open Go.ChangeShapes Go.WideShapes Go.ChangeAt Go.RowKit

theorem names_open_s {H : Type} {enc : TypeId × Value → H} {W : World} {a0 : Option Addr} {len0 cap0 : Nat} {d0 : DataW H} {p0 : List MemPlace} (h0 : DataW.Trod enc Yba.prog W 0 (fun _ => true) true 22 (.slice a0 len0 cap0) d0 p0) : ∃ ns, NamesAt W a0 len0 ns ∧ ∀ i, i < len0 → (nameAt ns i).size ≤ maxLen := by
  obtain ⟨fuel, hf⟩ := h0
  rcases open_strings Yba.underlying22 Yba.underlying9 (by kernel_rfl) hf with ⟨hcs, _⟩ | ⟨x, ln, c, ss, hcs, _, hl, hm, hz, _, hcell, hws⟩
  · simp [Value.cells] at hcs
    obtain ⟨rfl, rfl, rfl⟩ := hcs
    exact ⟨[], ⟨rfl, .inl rfl⟩, fun i hi => absurd hi (Nat.not_lt_zero _)⟩
  · simp [Value.cells] at hcs
    obtain ⟨rfl, rfl, rfl⟩ := hcs
    have hz' : ss.length = cap0 := by simpa using hz
    refine ⟨ss.take len0, ⟨by simp; omega, ?_⟩, fun i hi => ?_⟩
    rotate_left
    · have hi' : i < ss.length := by omega
      have : nameAt (ss.take len0) i = ss[i] := by simp [nameAt, List.getD, hi, List.getElem?_eq_getElem hi']
      rw [this]
      exact hws _ (List.getElem_mem hi')
    by_cases hl0 : len0 = 0
    · exact .inl hl0
    · have hs := World.cell?_spot (hcell 0 (by omega))
      have hlt := World.block_lt_of_cell? W _ (hcell 0 (by omega))
      obtain ⟨b, off, spot⟩ := x
      have hs : spot = none := by simpa [Addr.add] using hs
      subst hs
      refine .inr ⟨b, off, rfl, by simpa [Addr.add_lit] using hlt, fun i hi => ?_⟩
      have := hcell i (by omega)
      rw [Addr.add_lit] at this
      rw [this]
      simp [nameAt, List.getD, hi]
      rfl

end Go.Proofs.Ybulkcdni
