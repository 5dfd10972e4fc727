/-
  Plain laws: does a text end in another; the longest rule whose suffix ends a text. No Go text here.
-/
import Derived.WalkKit
namespace Go.Proofs.Ybulkcdja

/-- 'l ends in s' -/
def endsB (l s : List UInt8) : Bool := decide (s.length ≤ l.length) && (l.drop (l.length - s.length) == s)

theorem endsB_long {l s : List UInt8} (h : l.length < s.length) : endsB l s = false := by simp [endsB]; omega

theorem endsB_eq {l s : List UInt8} (h : s.length ≤ l.length) : endsB l s = (l.drop (l.length - s.length) == s) := by simp [endsB, h]

theorem endsB_true {l s : List UInt8} (h : s.length ≤ l.length) (hj : ∀ j, j < s.length → l.getD (l.length - s.length + j) 0 = s.getD j 0) : endsB l s = true := by
  rw [endsB_eq h, beq_iff_eq]
  apply List.ext_getElem
  · simp; omega
  · intro j h1 h2
    have := hj j h2
    simp only [List.getElem_drop]
    have hb : l.length - s.length + j < l.length := by omega
    simpa [List.getD, List.getElem?_eq_getElem hb, List.getElem?_eq_getElem h2] using this

theorem endsB_false {l s : List UInt8} (h : s.length ≤ l.length) {j : Nat} (hne : l.getD (l.length - s.length + j) 0 ≠ s.getD j 0) : endsB l s = false := by
  rw [endsB_eq h, beq_eq_false_iff_ne]
  intro he
  apply hne
  have e : (l.drop (l.length - s.length))[j]? = s[j]? := by rw [he]
  rw [List.getElem?_drop] at e
  simp [List.getD, e]

/-- A rule: its suffix, its replacement. -/
abbrev Rl := ByteArray × ByteArray
def nilRl : Rl := (⟨#[]⟩, ⟨#[]⟩)

/-- One round of 'longest'. -/
def upd (l : List UInt8) (f : Rl × Bool) (r : Rl) : Rl × Bool := if f.1.1.size < r.1.size ∧ endsB l r.1.data.toList = true then (r, true) else f

/-- What 'longest' holds behind the first k rules. -/
def best (l : List UInt8) (rs : List Rl) (k : Nat) : Rl × Bool := (rs.take k).foldl (upd l) (nilRl, false)

theorem best_zero (l : List UInt8) (rs : List Rl) : best l rs 0 = (nilRl, false) := rfl
theorem best_succ (l : List UInt8) (rs : List Rl) (k : Nat) (h : k < rs.length) : best l rs (k + 1) = upd l (best l rs k) (rs.getD k nilRl) := by
  unfold best
  rw [List.take_succ_eq_append_getElem h, List.foldl_append]
  simp [List.getD, h]

theorem best_yes (l : List UInt8) (rs : List Rl) (k : Nat) (h : k < rs.length) (h1 : (best l rs k).1.1.size < (rs.getD k nilRl).1.size) (h2 : endsB l (rs.getD k nilRl).1.data.toList = true) : best l rs (k + 1) = (rs.getD k nilRl, true) := by
  rw [best_succ l rs k h]; exact if_pos ⟨h1, h2⟩
theorem best_no (l : List UInt8) (rs : List Rl) (k : Nat) (h : k < rs.length) (h1 : ¬ ((best l rs k).1.1.size < (rs.getD k nilRl).1.size ∧ endsB l (rs.getD k nilRl).1.data.toList = true)) : best l rs (k + 1) = best l rs k := by
  rw [best_succ l rs k h]; exact if_neg h1

/-- Either nothing has been found (no rule with a suffix that is not empty ends l), or the first of the longest has. -/
def BestIs (l : List UInt8) (rs : List Rl) (k : Nat) (f : Rl × Bool) : Prop :=
  (f = (nilRl, false) ∧ ∀ i, i < k → endsB l (rs.getD i nilRl).1.data.toList = true → (rs.getD i nilRl).1.size = 0) ∨
  ∃ j, j < k ∧ f = (rs.getD j nilRl, true) ∧ 0 < (rs.getD j nilRl).1.size ∧ endsB l (rs.getD j nilRl).1.data.toList = true ∧
    (∀ i, i < k → endsB l (rs.getD i nilRl).1.data.toList = true → (rs.getD i nilRl).1.size ≤ (rs.getD j nilRl).1.size) ∧
    (∀ i, i < j → endsB l (rs.getD i nilRl).1.data.toList = true → (rs.getD i nilRl).1.size < (rs.getD j nilRl).1.size)

theorem best_is (l : List UInt8) (rs : List Rl) : ∀ k, k ≤ rs.length → BestIs l rs k (best l rs k)
  | 0, _ => .inl ⟨rfl, fun i hi => absurd hi (Nat.not_lt_zero _)⟩
  | k + 1, hk => by
    have ih := best_is l rs k (by omega)
    by_cases hc : (best l rs k).1.1.size < (rs.getD k nilRl).1.size ∧ endsB l (rs.getD k nilRl).1.data.toList = true
    · rw [best_yes l rs k (by omega) hc.1 hc.2]
      refine .inr ⟨k, by omega, rfl, by omega, hc.2, fun i hi he => ?_, fun i hi he => ?_⟩
      · by_cases hik : i = k
        · subst hik; omega
        · rcases ih with ⟨hf, h0⟩ | ⟨j, hj, hf, h1, h2, h3, h4⟩
          · have := h0 i (by omega) he; omega
          · have := h3 i (by omega) he; rw [hf] at hc; simp only at hc; omega
      · rcases ih with ⟨hf, h0⟩ | ⟨j, hj, hf, h1, h2, h3, h4⟩
        · have := h0 i (by omega) he; omega
        · have := h3 i (by omega) he; rw [hf] at hc; simp only at hc; omega
    · rw [best_no l rs k (by omega) hc]
      rcases ih with ⟨hf, h0⟩ | ⟨j, hj, hf, h1, h2, h3, h4⟩
      · refine .inl ⟨hf, fun i hi he => ?_⟩
        by_cases hik : i = k
        · subst hik
          rw [hf] at hc
          have : ¬ (nilRl.1.size < (rs.getD i nilRl).1.size) := fun h => hc ⟨h, he⟩
          have hz : nilRl.1.size = 0 := rfl
          omega
        · exact h0 i (by omega) he
      · refine .inr ⟨j, by omega, hf, h1, h2, fun i hi he => ?_, h4⟩
        by_cases hik : i = k
        · subst hik
          rw [hf] at hc
          have : ¬ ((rs.getD j nilRl).1.size < (rs.getD i nilRl).1.size) := fun h => hc ⟨h, he⟩
          omega
        · exact h3 i (by omega) he

/-- How long the longest suffix is that ends l, behind the first k rules. -/
def mlen (l : List UInt8) (rs : List Rl) (k : Nat) : Nat := (best l rs k).1.1.size
theorem mlen_zero (l : List UInt8) (rs : List Rl) : mlen l rs 0 = 0 := rfl
theorem mlen_yes (l : List UInt8) (rs : List Rl) (k : Nat) (h : k < rs.length) (h1 : mlen l rs k < (rs.getD k nilRl).1.size) (h2 : endsB l (rs.getD k nilRl).1.data.toList = true) : mlen l rs (k + 1) = (rs.getD k nilRl).1.size := by
  unfold mlen; rw [best_yes l rs k h h1 h2]
theorem mlen_no (l : List UInt8) (rs : List Rl) (k : Nat) (h : k < rs.length) (h1 : ¬ (mlen l rs k < (rs.getD k nilRl).1.size ∧ endsB l (rs.getD k nilRl).1.data.toList = true)) : mlen l rs (k + 1) = mlen l rs k := by
  unfold mlen; rw [best_no l rs k h h1]
theorem mlen_le (l : List UInt8) (rs : List Rl) (M : Nat) (hM : ∀ i, i < rs.length → (rs.getD i nilRl).1.size ≤ M) (k : Nat) (hk : k ≤ rs.length) : mlen l rs k ≤ M := by
  unfold mlen
  rcases best_is l rs k hk with ⟨hf, _⟩ | ⟨j, hj, hf, _⟩
  · rw [hf]; exact Nat.zero_le _
  · rw [hf]; exact hM j (by omega)

/-- Nothing was found where the longest is of length 0. -/
theorem best_none (l : List UInt8) (rs : List Rl) (h : mlen l rs rs.length = 0) : best l rs rs.length = (nilRl, false) := by
  unfold mlen at h
  rcases best_is l rs rs.length (Nat.le_refl _) with ⟨hf, _⟩ | ⟨j, hj, hf, h1, _⟩
  · exact hf
  · rw [hf] at h; simp only at h; omega

/-- The first rule of that length that ends l is the one that was found. -/
theorem best_first (l : List UInt8) (rs : List Rl) (h : mlen l rs rs.length ≠ 0) (k : Nat) (hb : ∀ i, i < k → ¬ ((rs.getD i nilRl).1.size = mlen l rs rs.length ∧ endsB l (rs.getD i nilRl).1.data.toList = true))
    (h1 : (rs.getD k nilRl).1.size = mlen l rs rs.length) (h2 : endsB l (rs.getD k nilRl).1.data.toList = true) : best l rs rs.length = (rs.getD k nilRl, true) := by
  unfold mlen at *
  rcases best_is l rs rs.length (Nat.le_refl _) with ⟨hf, _⟩ | ⟨j, hj, hf, g1, g2, g3, g4⟩
  · rw [hf] at h; exact absurd rfl h
  · rw [hf] at hb h1 ⊢
    simp only at hb h1
    have hkj : ¬ j < k := fun hlt => hb j hlt ⟨rfl, g2⟩
    have hkj' : ¬ k < j := fun hlt => by have := g4 k hlt h2; omega
    have : k = j := by omega
    subst this
    rfl

/-- And there is one. -/
theorem best_some (l : List UInt8) (rs : List Rl) (h : mlen l rs rs.length ≠ 0) (hb : ∀ i, i < rs.length → ¬ ((rs.getD i nilRl).1.size = mlen l rs rs.length ∧ endsB l (rs.getD i nilRl).1.data.toList = true)) : False := by
  unfold mlen at *
  rcases best_is l rs rs.length (Nat.le_refl _) with ⟨hf, _⟩ | ⟨j, hj, hf, g1, g2, g3, g4⟩
  · rw [hf] at h; exact absurd rfl h
  · rw [hf] at hb
    exact hb j hj ⟨rfl, g2⟩

end Go.Proofs.Ybulkcdja
