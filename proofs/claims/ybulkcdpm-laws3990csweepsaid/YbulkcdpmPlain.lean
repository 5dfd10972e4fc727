/-
  The plain model of a sweep: keys, the last state of each key, which keys a sweep is of. No Go text here.
-/
import Derived.WalkKit
namespace Go.Proofs.Ybulkcdpm

/-- The key of place j. -/
def keyS (j : Nat) : ByteArray := ⟨#[UInt8.ofNat (97 + j)]⟩
theorem keyS_inj {i j : Nat} (hi : i < 8) (hj : j < 8) (h : keyS i = keyS j) : i = j := by
  simp only [keyS, ByteArray.mk.injEq, Array.mk.injEq, List.cons.injEq, and_true] at h
  have := congrArg UInt8.toNat h
  simp at this
  omega
theorem keyS_size (j : Nat) : (keyS j).size = 1 := rfl
theorem keyS_toList (j : Nat) : (keyS j).data.toList = [UInt8.ofNat (97 + j)] := rfl

/-- The place of a byte. -/
def ix (n : Int) : Nat := (n % 8).toNat
theorem ix_lt (n : Int) : ix n < 8 := by unfold ix; omega
theorem ix_cast (n : Int) : ((ix n : Nat) : Int) = n % 8 := by unfold ix; omega

/-- Which place's key a string is. -/
def ixOf (s : ByteArray) : Option Nat := (List.range 8).find? fun j => decide (s = keyS j)
theorem ixOf_key {j : Nat} (hj : j < 8) : ixOf (keyS j) = some j := by
  unfold ixOf
  rw [List.find?_eq_some_iff_getElem]
  refine ⟨by simp, j, by simpa using hj, by simp, fun i hi => ?_⟩
  simp only [List.getElem_range, Bool.not_eq_true', decide_eq_false_iff_not]
  exact fun h => by have := keyS_inj hj (by omega) h; omega
theorem ixOf_some {s : ByteArray} {j : Nat} (h : ixOf s = some j) : j < 8 ∧ s = keyS j := by
  have h1 := List.mem_of_find?_eq_some h
  have h2 := List.find?_some h
  exact ⟨by simpa using h1, by simpa using h2⟩

/-- An item: its byte, its Seq, whether it is a deletion. -/
abbrev Item := Int × Int × Bool
def noItem : Item := (0, 0, false)
def itemAt (its : List Item) (k : Nat) : Item := its.getD k noItem

/-- The state of place j behind the first k items. -/
def stTo (its : List Item) : Nat → Nat → Option (Int × Bool)
  | 0, _ => none
  | k + 1, j => if ix (itemAt its k).1 = j then some (itemAt its k).2 else stTo its k j

/-- A function of places as a function of strings. -/
def onKeys {α : Type} (g : Nat → Option α) (s : ByteArray) : Option α := (ixOf s).bind g
theorem onKeys_key {α : Type} (g : Nat → Option α) {j : Nat} (hj : j < 8) : onKeys g (keyS j) = g j := by simp [onKeys, ixOf_key hj]
theorem onKeys_set {α : Type} {g g' : Nat → Option α} {j : Nat} (hj : j < 8) {v : α} (hg : g' j = some v) (ho : ∀ i, i ≠ j → g' i = g i) : onKeys g' = fun s => if s = keyS j then some v else onKeys g s := by
  funext s
  by_cases hs : s = keyS j
  · subst hs
    rw [onKeys_key _ hj, hg, if_pos rfl]
  · rw [if_neg hs]
    unfold onKeys
    cases hi : ixOf s with
    | none => rfl
    | some i =>
      obtain ⟨h1, h2⟩ := ixOf_some hi
      have hne : i ≠ j := fun e => hs (by rw [h2, e])
      simp [ho i hne]
theorem onKeys_none {α : Type} : onKeys (fun _ => (none : Option α)) = fun _ => none := by
  funext s
  unfold onKeys
  cases ixOf s <;> rfl

/-- Is place j's last state a deletion? -/
def isDel (st : Nat → Option (Int × Bool)) (j : Nat) : Bool := match st j with
  | some (_, true) => true
  | _ => false

/-- The places that a sweep is of, behind the first k deletions. -/
def expTo (D : Nat → Bool) (ds : List Int) : Nat → List Nat
  | 0 => []
  | k + 1 => if D (ix (ds.getD k 0)) && !(expTo D ds k).contains (ix (ds.getD k 0)) then expTo D ds k ++ [ix (ds.getD k 0)] else expTo D ds k

theorem expTo_yes {D : Nat → Bool} {ds : List Int} {k : Nat} (h1 : D (ix (ds.getD k 0)) = true) (h2 : (expTo D ds k).contains (ix (ds.getD k 0)) = false) : expTo D ds (k + 1) = expTo D ds k ++ [ix (ds.getD k 0)] := by
  simp only [expTo]; rw [if_pos (by rw [h1, h2]; rfl)]
theorem expTo_no1 {D : Nat → Bool} {ds : List Int} {k : Nat} (h1 : D (ix (ds.getD k 0)) = false) : expTo D ds (k + 1) = expTo D ds k := by
  simp only [expTo]; rw [if_neg (by rw [h1]; simp)]
theorem expTo_no2 {D : Nat → Bool} {ds : List Int} {k : Nat} (h2 : (expTo D ds k).contains (ix (ds.getD k 0)) = true) : expTo D ds (k + 1) = expTo D ds k := by
  simp only [expTo]; rw [if_neg (by rw [h2]; simp)]

structure ExpOk (D : Nat → Bool) (E : List Nat) (k : Nat) : Prop where
  len : E.length ≤ k
  lt : ∀ j ∈ E, j < 8
  del : ∀ j ∈ E, D j = true
  nodup : E.Nodup

theorem expTo_ok (D : Nat → Bool) (ds : List Int) : ∀ k, ExpOk D (expTo D ds k) k
  | 0 => ⟨Nat.le_refl _, fun _ h => (by cases h), fun _ h => (by cases h), List.nodup_nil⟩
  | k + 1 => by
    have ih := expTo_ok D ds k
    by_cases h1 : D (ix (ds.getD k 0)) = true
    · by_cases h2 : (expTo D ds k).contains (ix (ds.getD k 0)) = true
      · rw [expTo_no2 h2]; exact ⟨Nat.le_succ_of_le ih.len, ih.lt, ih.del, ih.nodup⟩
      · have h2 : (expTo D ds k).contains (ix (ds.getD k 0)) = false := by simpa using h2
        rw [expTo_yes h1 h2]
        refine ⟨by simpa using ih.len, fun j hj => ?_, fun j hj => ?_, ?_⟩
        · rcases List.mem_append.1 hj with h | h
          · exact ih.lt j h
          · rw [List.mem_singleton.1 h]; exact ix_lt _
        · rcases List.mem_append.1 hj with h | h
          · exact ih.del j h
          · rw [List.mem_singleton.1 h]; exact h1
        · rw [List.nodup_append]
          refine ⟨ih.nodup, by simp, fun a ha b hb => ?_⟩
          rw [List.mem_singleton.1 hb]
          intro e
          subst e
          have : (expTo D ds k).contains (ix (ds.getD k 0)) = true := List.contains_iff_mem.2 ha
          rw [h2] at this
          cases this
    · rw [expTo_no1 (by simpa using h1)]; exact ⟨Nat.le_succ_of_le ih.len, ih.lt, ih.del, ih.nodup⟩

theorem nodup_le : ∀ (n : Nat) (E : List Nat), E.Nodup → (∀ j ∈ E, j < n) → E.length ≤ n
  | 0, E, _, h => by
    cases E with
    | nil => simp
    | cons a r => exact absurd (h a (by simp)) (Nat.not_lt_zero _)
  | n + 1, E, hd, h => by
    have h1 := nodup_le n (E.erase n) (hd.erase n) (fun j hj => by
      have hm := (List.Nodup.mem_erase_iff hd).1 hj
      have := h j hm.2
      have := hm.1
      omega)
    have h2 := List.length_erase (a := n) (l := E)
    split at h2 <;> omega

/-- At most eight places. -/
theorem ExpOk.le8 {D : Nat → Bool} {E : List Nat} {k : Nat} (h : ExpOk D E k) : E.length ≤ 8 := nodup_le 8 E h.nodup h.lt

end Go.Proofs.Ybulkcdpm
