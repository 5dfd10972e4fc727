/-
  Plain laws: the first place of a key among names. No Go text here.
-/
import Derived.WalkKit
namespace Go.Proofs.Ybulkcdni

/-- Go's '==' on strings, as the walk writes it. -/
def eqS (a b : ByteArray) : Bool := a.toList == b.toList
theorem eqS_iff {a b : ByteArray} : eqS a b = true ↔ a = b := by
  unfold eqS
  rw [beq_iff_eq, ByteArray.toList_eq, ByteArray.toList_eq]
  constructor
  · intro h
    have : a.data = b.data := Array.toList_inj.1 h
    cases a; cases b; simp_all
  · intro h; rw [h]

def nameAt (ns : List ByteArray) (i : Nat) : ByteArray := ns.getD i ⟨#[]⟩

/-- None of the first k is the key. -/
def NoHit (ns : List ByteArray) (key : ByteArray) (k : Nat) : Prop := ∀ i, i < k → eqS (nameAt ns i) key = false

theorem NoHit.zero (ns : List ByteArray) (key : ByteArray) : NoHit ns key 0 := fun _ h => absurd h (Nat.not_lt_zero _)
theorem NoHit.succ {ns : List ByteArray} {key : ByteArray} {k : Nat} (h : NoHit ns key k) (hk : eqS (nameAt ns k) key = false) : NoHit ns key (k + 1) := fun i hi => by
  by_cases h' : i = k
  · subst h'; exact hk
  · exact h i (by omega)

/-- The first place of key among the first k, or -1. -/
def firstTo (ns : List ByteArray) (key : ByteArray) : Nat → Int
  | 0 => -1
  | k + 1 => if firstTo ns key k = -1 then (if eqS (nameAt ns k) key = true then (k : Int) else -1) else firstTo ns key k

theorem firstTo_none {ns : List ByteArray} {key : ByteArray} : ∀ {k : Nat}, NoHit ns key k → firstTo ns key k = -1
  | 0, _ => rfl
  | k + 1, h => by
    simp only [firstTo]
    rw [if_pos (firstTo_none (k := k) fun i hi => h i (by omega)), if_neg (by rw [h k (by omega)]; decide)]

theorem firstTo_range (ns : List ByteArray) (key : ByteArray) (k : Nat) : -1 ≤ firstTo ns key k ∧ firstTo ns key k < (k : Int) := by
  induction k with
  | zero => simp [firstTo]
  | succ k ih => simp only [firstTo]; split <;> (try split) <;> omega

theorem firstTo_stay (ns : List ByteArray) (key : ByteArray) (k m : Nat) (h : firstTo ns key k ≠ -1) : firstTo ns key (k + m) = firstTo ns key k := by
  induction m with
  | zero => rfl
  | succ m ih => rw [show k + (m + 1) = (k + m) + 1 by omega]; simp only [firstTo]; rw [ih, if_neg h]

theorem firstTo_hit {ns : List ByteArray} {key : ByteArray} {k n : Nat} (hk : k < n) (h : NoHit ns key k) (he : eqS (nameAt ns k) key = true) : firstTo ns key n = (k : Int) := by
  have e : firstTo ns key (k + 1) = (k : Int) := by simp only [firstTo]; rw [if_pos (firstTo_none h), if_pos he]
  obtain ⟨m, rfl⟩ : ∃ m, n = (k + 1) + m := ⟨n - (k + 1), by omega⟩
  rw [firstTo_stay ns key (k + 1) m (by omega), e]

end Go.Proofs.Ybulkcdni
