/-
  Plain facts on 'float64(n)' and '1 / float64(n)' for 1 ≤ n ≤ 4096, and on where the first positive number of a list stands. No Go text here.
-/
import Derived.Laws.FloatArith
namespace Go.Proofs.Ybulkcdja
open Go

/-- The bits of float64 1. -/
def oneBits : Nat := 4607182418800017408
/-- The bits of '1 / float64(n)'. -/
def recip (n : Nat) : Nat := (FloatKind.f64.format.div oneBits (FloatKind.f64.nearest (n : Int))).getD 0

def recipOk (n : Nat) : Bool :=
  (FloatKind.f64.format.div oneBits (FloatKind.f64.nearest (n : Int))).isSome &&
  FloatKind.f64.format.order (recip n) (recip n) == some .eq &&
  FloatKind.f64.format.order (recip n) 0 == some .gt &&
  (if n = 1 then FloatKind.f64.format.order (recip n) oneBits == some .eq else FloatKind.f64.format.order (recip n) oneBits == some .lt)

theorem recipOk_all : (List.range 4096).all (fun k => recipOk (k + 1)) = true := by decide +kernel

theorem recipOk_of {n : Nat} (h1 : 1 ≤ n) (h2 : n ≤ 4096) : recipOk n = true := by
  have h := List.all_eq_true.1 recipOk_all (n - 1) (List.mem_range.2 (by omega))
  rwa [show n - 1 + 1 = n by omega] at h

theorem recip_bits {n : Nat} (h1 : 1 ≤ n) (h2 : n ≤ 4096) : floatBits .quo .f64 oneBits (floatOfInt .f64 (n : Int)) = some (recip n) := by
  have h := recipOk_of h1 h2
  simp only [recipOk, Bool.and_eq_true] at h
  show FloatKind.f64.format.div oneBits (FloatKind.f64.nearest (n : Int)) = some (recip n)
  unfold recip
  cases hd : FloatKind.f64.format.div oneBits (FloatKind.f64.nearest (n : Int)) with
  | none => rw [hd] at h; simp at h
  | some x => rfl
theorem recip_self {n : Nat} (h1 : 1 ≤ n) (h2 : n ≤ 4096) : FloatKind.f64.format.order (recip n) (recip n) = some .eq := by
  have h := recipOk_of h1 h2
  simp only [recipOk, Bool.and_eq_true, beq_iff_eq] at h
  exact h.1.1.2
theorem recip_pos {n : Nat} (h1 : 1 ≤ n) (h2 : n ≤ 4096) : FloatKind.f64.format.order (recip n) 0 = some .gt := by
  have h := recipOk_of h1 h2
  simp only [recipOk, Bool.and_eq_true, beq_iff_eq] at h
  exact h.1.2
theorem recip_one : FloatKind.f64.format.order (recip 1) oneBits = some .eq := by
  have h := recipOk_of (n := 1) (by omega) (by omega)
  simp only [recipOk, Bool.and_eq_true, beq_iff_eq, if_true] at h
  exact h.2
theorem recip_lt {n : Nat} (h1 : 2 ≤ n) (h2 : n ≤ 4096) : FloatKind.f64.format.order (recip n) oneBits = some .lt := by
  have h := recipOk_of (n := n) (by omega) h2
  simp only [recipOk, Bool.and_eq_true, beq_iff_eq, if_neg (show ¬ n = 1 by omega)] at h
  exact h.2
theorem zero_self : FloatKind.f64.format.order 0 0 = some .eq := by decide +kernel
theorem zero_one : FloatKind.f64.format.order 0 oneBits = some .lt := by decide +kernel

/-- The place (from 1) of the first positive number among the first k of zs; 0: there is none. -/
def posTo (zs : List Int) : Nat → Nat
  | 0 => 0
  | k + 1 => if posTo zs k = 0 then (if 0 < zs.getD k 0 then k + 1 else 0) else posTo zs k

theorem posTo_le (zs : List Int) (k : Nat) : posTo zs k ≤ k := by
  induction k with
  | zero => simp [posTo]
  | succ k ih => simp only [posTo]; split <;> (try split) <;> omega

/-- Once a positive number has been met the place stays. -/
theorem posTo_stay (zs : List Int) (k m : Nat) (h : posTo zs k ≠ 0) : posTo zs (k + m) = posTo zs k := by
  induction m with
  | zero => rfl
  | succ m ih => rw [show k + (m + 1) = (k + m) + 1 by omega]; simp only [posTo]; rw [ih, if_neg h]

theorem posTo_hit (zs : List Int) (k n : Nat) (hk : k < n) (h0 : posTo zs k = 0) (h : 0 < zs.getD k 0) : posTo zs n = k + 1 := by
  have e : posTo zs (k + 1) = k + 1 := by simp only [posTo, if_pos h0, if_pos h]
  obtain ⟨m, rfl⟩ : ∃ m, n = (k + 1) + m := ⟨n - (k + 1), by omega⟩
  rw [posTo_stay zs (k + 1) m (by omega), e]

theorem posTo_miss (zs : List Int) (k : Nat) (h0 : posTo zs k = 0) (h : ¬ 0 < zs.getD k 0) : posTo zs (k + 1) = 0 := by simp only [posTo, if_pos h0, if_neg h]

/-- What 'reciprocalRank' hands back, by its bits. -/
def rrBits (p : Nat) : Nat := if p = 0 then 0 else recip p
theorem rrBits_zero : rrBits 0 = 0 := rfl
theorem rrBits_pos {p : Nat} (h : p ≠ 0) : rrBits p = recip p := if_neg h

end Go.Proofs.Ybulkcdja
