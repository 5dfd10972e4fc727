/-
  What the walk of 'LawS3978CPicksLongest' carries: the rules' own block; the arguments' cells; owned rows of bytes.
-/
import Derived.Test.YbulkcdjaLongest
import Derived.Test.YbulkcdjaApp
namespace Go.Proofs.Ybulkcdja
open Go.RowKit

/-- Block B holds a row of m rules, the first k of which are rs's. -/
def RulesBlk (W : World) (B m : Nat) (rs : List Rl) (k : Nat) : Prop :=
  ∃ cur : Array Value, W.heap[B]? = some (.cells cur 36 (0, 0)) ∧ cur.size = m * 2 ∧ ∀ i, i < k → cur[i * 2]? = some (.string (rs.getD i nilRl).1) ∧ cur[i * 2 + 1]? = some (.string (rs.getD i nilRl).2)

theorem RulesBlk.stay {W W' : World} {B m : Nat} {rs : List Rl} {k : Nat} (h : RulesBlk W B m rs k) (he : W'.heap[B]? = W.heap[B]?) : RulesBlk W' B m rs k := by
  obtain ⟨cur, h1, h2⟩ := h
  exact ⟨cur, he.trans h1, h2⟩

theorem RulesBlk.lt {W : World} {B m : Nat} {rs : List Rl} {k : Nat} (h : RulesBlk W B m rs k) : B < W.heap.size := by
  obtain ⟨cur, h1, _⟩ := h
  exact (Array.getElem?_eq_some_iff.1 h1).1

theorem RulesBlk.at {W : World} {B m : Nat} {rs : List Rl} (h : RulesBlk W B m rs m) (hm : rs.length = m) : RulesAt W B 0 rs := by
  obtain ⟨cur, h1, h2, h3⟩ := h
  intro i hi
  have := h3 i (by omega)
  simp [World.cell?, h1, this]

theorem RulesBlk.room {W : World} {B m : Nat} {rs : List Rl} {k : Nat} (h : RulesBlk W B m rs k) (hk : k < m) :
    (∃ v, W.cell? ⟨B, k * 2, none⟩ = some v) ∧ (∃ v, W.cell? ⟨B, k * 2 + 1, none⟩ = some v) ∧ W.frozen? ⟨B, k * 2, none⟩ = false ∧ W.frozen? ⟨B, k * 2 + 1, none⟩ = false := by
  obtain ⟨cur, h1, h2, _⟩ := h
  refine ⟨⟨cur[k * 2]'(by omega), ?_⟩, ⟨cur[k * 2 + 1]'(by omega), ?_⟩, ?_, ?_⟩
  · simp [World.cell?, h1]
  · simp [World.cell?, h1]
  · simp [World.frozen?, h1]
  · simp [World.frozen?, h1]

theorem RulesBlk.step {W : World} {B m : Nat} {rs : List Rl} {k : Nat} (h : RulesBlk W B m rs k) (hk : k < m) :
    RulesBlk ((W.setCell ⟨B, k * 2, none⟩ (.string (rs.getD k nilRl).1)).setCell ⟨B, k * 2 + 1, none⟩ (.string (rs.getD k nilRl).2)) B m rs (k + 1) := by
  obtain ⟨cur, h1, h2, h3⟩ := h
  refine ⟨(cur.setIfInBounds (k * 2) (.string (rs.getD k nilRl).1)).setIfInBounds (k * 2 + 1) (.string (rs.getD k nilRl).2), ?_, by simpa using h2, fun i hi => ?_⟩
  · simp [World.setCell, Array.getElem?_modify, h1]
  · by_cases hik : i = k
    · subst hik
      constructor
      · rw [Array.getElem?_setIfInBounds_ne (by omega), Array.getElem?_setIfInBounds_self_of_lt (by omega)]
      · rw [Array.getElem?_setIfInBounds_self_of_lt (by simp; omega)]
    · have := h3 i (by omega)
      rw [Array.getElem?_setIfInBounds_ne (by omega), Array.getElem?_setIfInBounds_ne (by omega), Array.getElem?_setIfInBounds_ne (by omega), Array.getElem?_setIfInBounds_ne (by omega)]
      exact this

/-- The rules that came in. -/
def RsAt (w : World) (ar : Option Addr) (m : Nat) (rs : List Rl) : Prop := rs.length = m ∧ (m = 0 ∨ ∃ br offr, ar = some ⟨br, offr, none⟩ ∧ br < w.heap.size ∧ RulesAt w br offr rs)

theorem RsAt.pos {w W : World} {ar : Option Addr} {m : Nat} {rs : List Rl} (h : RsAt w ar m rs) (hB : Below w.heap.size w W) {k : Nat} (hk : k < m) :
    ∃ br offr, ar = some ⟨br, offr, none⟩ ∧ br < w.heap.size ∧ W.cell? ⟨br, offr + k * 2, none⟩ = some (.string (rs.getD k nilRl).1) ∧ W.cell? ⟨br, offr + k * 2 + 1, none⟩ = some (.string (rs.getD k nilRl).2) := by
  obtain ⟨hl, h | ⟨br, offr, rfl, hlt, hc⟩⟩ := h
  · omega
  · exact ⟨br, offr, rfl, hlt, (hB.cell (p := ⟨br, offr + k * 2, none⟩) hlt).trans (hc k (by omega)).1, (hB.cell (p := ⟨br, offr + k * 2 + 1, none⟩) hlt).trans (hc k (by omega)).2⟩

/-- Bytes as cells. -/
def bcells (l : List UInt8) : List Value := l.map fun x => Value.int .u8 (x.toNat : Int)
theorem bcells_length (l : List UInt8) : (bcells l).length = l.length := by simp [bcells]
theorem bcells_one (l : List UInt8) : ∀ u ∈ bcells l, u.oneCell' = true := by
  intro u hu
  obtain ⟨x, _, rfl⟩ := List.mem_map.1 hu
  rfl
theorem bcells_append (l s : List UInt8) : bcells (l ++ s) = bcells l ++ bcells s := by simp [bcells]
theorem byteCells_eq (s : ByteArray) : byteCells s = bcells s.data.toList := rfl

/-- The text that came in. -/
def WAt (w : World) (aw : Option Addr) (n : Nat) (l : List UInt8) : Prop :=
  l.length = n ∧ ((aw = none ∧ n = 0) ∨ ∃ ad, aw = some ad ∧ ∀ j, j < n → w.cell? (ad.add j) = some (.int .u8 ((l.getD j 0).toNat : Int)))

theorem WAt.src {w W : World} {aw : Option Addr} {n c : Nat} {l : List UInt8} (h : WAt w aw n l) (hB : Below w.heap.size w W) : Src Yba.prog 1 29 (.slice aw n c) n (bcells l) W := by
  obtain ⟨hl, ⟨rfl, rfl⟩ | ⟨ad, rfl, hc⟩⟩ := h
  · have : l = [] := List.eq_nil_of_length_eq_zero hl
    subst this
    exact Src.ofNil W Yba.underlying29 c
  · refine Src.ofSlice W Yba.underlying29 ad n c (bcells l) (by rw [bcells_length]; omega) (fun j u hj => ?_) (bcells_one l)
    have hjl : j < l.length := by have := (List.getElem?_eq_some_iff.1 hj).1; rwa [bcells_length] at this
    have hcj := hc j (by omega)
    have hlt := World.block_lt_of_cell? w _ hcj
    rw [hB.cell hlt, hcj]
    simpa [bcells, List.getD, List.getElem?_eq_getElem hjl] using hj

/-- An owned row of bytes, told plainly. -/
theorem own_bytes {W : World} {base g n c : Nat} {l : List UInt8} (h : W.ownsRow base 5 1 (.slice (some ⟨g, 0, none⟩) n c) n (bcells l)) : BytesAt W g 0 l ∧ base ≤ g ∧ g < W.heap.size ∧ n ≤ c ∧ l.length = n := by
  obtain ⟨hl, ⟨he, _⟩ | ⟨g', cap, cur, he, hb, hg, hn, hm, hs, ht⟩⟩ := h
  · simp at he
  simp only [Value.slice.injEq, Option.some.injEq, Addr.mk.injEq, true_and, and_true] at he
  obtain ⟨rfl, rfl⟩ := he
  rw [bcells_length] at hl
  refine ⟨fun j hj => ?_, hb, (Array.getElem?_eq_some_iff.1 hg).1, hn, by omega⟩
  have e : (cur.toList.take (n * 1))[j]? = (bcells l)[j]? := by rw [ht]
  rw [List.getElem?_take, if_pos (by omega)] at e
  simp only [World.cell?, hg]
  simpa [bcells, List.getD, List.getElem?_eq_getElem hj] using e

theorem own_src {W : World} {base g n c : Nat} {l : List UInt8} (h : W.ownsRow base 5 1 (.slice (some ⟨g, 0, none⟩) n c) n (bcells l)) : Src Yba.prog 1 29 (.slice (some ⟨g, 0, none⟩) n c) n (bcells l) W :=
  Src.ofSlice W Yba.underlying29 _ n c (bcells l) (by rw [h.1]) (h.cells (g := g) rfl) (bcells_one l)

theorem Yba.info5 : (Yba.prog.info? 5).map (fun i => (i.zero, i.size, i.bytes)) = some (some (.int .u8 0), 1, 1) := by kernel_rfl
theorem Yba.info36 : (Yba.prog.info? 36).map (fun i => (i.zero, i.size, i.bytes)) = some (some (.agg #[.string ⟨#[]⟩, .string ⟨#[]⟩]), 2, 32) := by kernel_rfl

end Go.Proofs.Ybulkcdja
