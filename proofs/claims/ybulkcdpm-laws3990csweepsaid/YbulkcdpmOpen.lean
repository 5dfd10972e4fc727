/-
  Opening the items, the deletions and the ticks that came in.
-/
import Derived.Test.YbulkcdpmBuild
import Derived.ProofKit
import Derived.OpenShut
import Derived.ShutString
import Derived.ChangeOld
import Derived.Below
import Derived.ChangeSlices
import Derived.Deep.Slices
import Derived.Deep.Strs
namespace Go.Proofs.Ybulkcdpm
open Go.ChangeShapes Go.WideShapes Go.ChangeAt Go.RowKit

theorem own : ownKnob Yba.prog.godebug = none := by kernel_rfl
theorem laidOut : laidOutB Yba.prog = true := by kernel_rfl

theorem getD_take {zs : List Int} {n i : Nat} (hi : i < n) : (zs.take n).getD i 0 = zs.getD i 0 := by simp [List.getD, hi]

section
variable {H : Type} {enc : TypeId × Value → H} {W : World}

theorem ints_open {t e : TypeId} {k : IntKind} (ht : Yba.prog.underlying t = some (.slice e)) (he : Yba.prog.underlying e = some (.int k)) (hc : Yba.prog.cellsOf e = 1) {a0 : Option Addr} {len0 cap0 : Nat} {d0 : DataW H} {p0 : List MemPlace} (h0 : DataW.Trod enc Yba.prog W 0 (fun _ => true) true t (.slice a0 len0 cap0) d0 p0) :
    ∃ zs : List Int, zs.length = len0 ∧ (∀ i, i < len0 → (Lit.int k (zs.getD i 0)).wf = true) ∧ (len0 = 0 ∨ ∃ b off, a0 = some ⟨b, off, none⟩ ∧ b < W.heap.size ∧ ∀ i, i < len0 → W.cell? ⟨b, off + i, none⟩ = some (.int k (zs.getD i 0))) := by
  obtain ⟨fuel, hf⟩ := h0
  rcases open_ints ht he hc hf with ⟨hcs, _⟩ | ⟨x, ln, c, zs, hcs, _, hl, hm, hz, _, hcell, hws⟩
  · simp [Value.cells] at hcs
    obtain ⟨rfl, rfl, rfl⟩ := hcs
    exact ⟨[], rfl, fun i hi => absurd hi (Nat.not_lt_zero _), .inl rfl⟩
  · simp [Value.cells] at hcs
    obtain ⟨rfl, rfl, rfl⟩ := hcs
    have hz' : zs.length = cap0 := by simpa using hz
    refine ⟨zs.take len0, by simp; omega, fun i hi => ?_, ?_⟩
    · rw [getD_take hi]
      have hi' : i < zs.length := by omega
      have : zs.getD i 0 = zs[i] := by simp [List.getD, List.getElem?_eq_getElem hi']
      rw [this]
      exact hws _ (List.getElem_mem hi')
    · by_cases hl0 : len0 = 0
      · exact .inl hl0
      · have hs := World.cell?_spot (hcell 0 (by omega))
        have hlt := World.block_lt_of_cell? W _ (hcell 0 (by omega))
        obtain ⟨b, off, spot⟩ := x
        have hs : spot = none := by simpa [Addr.add] using hs
        subst hs
        refine .inr ⟨b, off, rfl, by simpa [Addr.add_lit] using hlt, fun i hi => ?_⟩
        have := hcell i (by omega)
        rw [Addr.add_lit] at this
        rw [this, getD_take hi]

theorem u8_wf {n : Int} (h : (Lit.int .u8 n).wf = true) : 0 ≤ n ∧ n ≤ 255 := by simpa [Lit.wf, IntKind.min, IntKind.max, IntKind.bits, IntKind.signed] using h

theorem dels_open {a0 : Option Addr} {len0 cap0 : Nat} {d0 : DataW H} {p0 : List MemPlace} (h0 : DataW.Trod enc Yba.prog W 0 (fun _ => true) true 23 (.slice a0 len0 cap0) d0 p0) : ∃ ds, DelsAt W a0 len0 ds := by
  obtain ⟨zs, h1, h2, h3⟩ := ints_open Yba.underlying23 Yba.underlying5 (by kernel_rfl) h0
  exact ⟨zs, h1, fun i hi => u8_wf (h2 i hi), h3⟩

theorem ticks_open {a0 : Option Addr} {len0 cap0 : Nat} {d0 : DataW H} {p0 : List MemPlace} (h0 : DataW.Trod enc Yba.prog W 0 (fun _ => true) true 25 (.slice a0 len0 cap0) d0 p0) : ∃ ts, TicksAt W a0 len0 ts := by
  obtain ⟨zs, h1, h2, h3⟩ := ints_open Yba.underlying25 Yba.underlying2 (by kernel_rfl) h0
  exact ⟨zs, h1, h3⟩

theorem itemAt_ofFn {n : Nat} (f : Nat → Item) {i : Nat} (hi : i < n) : itemAt ((List.range n).map f) i = f i := by simp [itemAt, List.getD, hi]

theorem three_of {α : Type} : ∀ {l : List α}, l.length = 3 → ∃ a b c, l = [a, b, c]
  | [a, b, c], _ => ⟨a, b, c, rfl⟩

theorem items_open {a0 : Option Addr} {len0 cap0 : Nat} {d0 : DataW H} {p0 : List MemPlace} (h0 : DataW.Trod enc Yba.prog W 0 (fun _ => true) true 22 (.slice a0 len0 cap0) d0 p0) : ∃ its, ItemsAt W a0 len0 its := by
  obtain ⟨fuel, hf⟩ := h0
  have hce : Yba.prog.cellsOf 87 = 3 := by kernel_rfl
  rcases Deep.open_slice Yba.underlying22 hf with ⟨hcs, _⟩ | ⟨x, ln, c, m, n, D, Pl, hcs, _, hl, hm, hmm, _, hx⟩
  · simp [Value.cells] at hcs
    obtain ⟨rfl, rfl, rfl⟩ := hcs
    exact ⟨[], rfl, fun i hi => absurd hi (Nat.not_lt_zero _), .inl rfl⟩
  · simp [Value.cells] at hcs
    obtain ⟨rfl, rfl, rfl⟩ := hcs
    have hmc : m = cap0 := by simpa using hmm
    have each : ∀ i, i < len0 → ∃ q : Item, (0 ≤ q.1 ∧ q.1 ≤ 255) ∧ W.cell? (x.add (i * 3)) = some (.int .u8 q.1) ∧ W.cell? (x.add (i * 3 + 1)) = some (.int .u64 q.2.1) ∧ W.cell? (x.add (i * 3 + 2)) = some (.bool q.2.2) := by
      intro i hi
      obtain ⟨cs', h1, h2⟩ := hx i (by omega)
      rw [hce] at h1
      obtain ⟨_, hlen, hcell⟩ := World.cells?_some h1
      obtain ⟨y0, y1, y2, k, hxy, _, g0, g1, g2⟩ := Deep.trod_struct3 Yba.underlying87 h2
      obtain ⟨v0, v1, v2, rfl⟩ := three_of hlen
      have k5 : Yba.prog.cellsOf 5 = 1 := by kernel_rfl
      have k24 : Yba.prog.cellsOf 24 = 1 := by kernel_rfl
      have k4 : Yba.prog.cellsOf 4 = 1 := by kernel_rfl
      simp only [k5, k24, k4, List.drop_zero, List.drop_succ_cons, List.take_succ_cons, List.take_zero] at g0 g1 g2
      have e0 := hcell 0 (by omega)
      have e1 := hcell 1 (by omega)
      have e2 := hcell 2 (by omega)
      rw [Deep.add_add] at e0 e1 e2
      obtain ⟨n0, q0, _, w0⟩ := DataW.trod_int Yba.underlying5 g0
      obtain ⟨n1, q1, _, w1⟩ := DataW.trod_int Yba.underlying24 g1
      obtain ⟨n2, q2, _⟩ := DataW.trod_bool Yba.underlying4 g2
      simp only [List.cons.injEq, and_true] at q0 q1 q2
      subst q0 q1 q2
      refine ⟨(n0, n1, n2), u8_wf w0, by simpa using e0, by simpa using e1, by simpa using e2⟩
    obtain ⟨f, hfi⟩ := @Deep.choose_lt Item ⟨noItem⟩ _ _ each
    refine ⟨(List.range len0).map f, by simp, fun i hi => ?_, ?_⟩
    · rw [itemAt_ofFn f hi]; exact (hfi i hi).1
    · by_cases hl0 : len0 = 0
      · exact .inl hl0
      · have h00 := (hfi 0 (by omega)).2.1
        have hs := World.cell?_spot h00
        have hlt := World.block_lt_of_cell? W _ h00
        obtain ⟨b, off, spot⟩ := x
        have hs : spot = none := by simpa [Addr.add] using hs
        subst hs
        refine .inr ⟨b, off, rfl, by simpa [Addr.add_lit] using hlt, fun i hi => ?_⟩
        rw [itemAt_ofFn f hi]
        obtain ⟨_, a0, a1, a2⟩ := hfi i hi
        rw [Addr.add_lit] at a0 a1 a2
        exact ⟨a0, a1, a2⟩
end
end Go.Proofs.Ybulkcdpm
