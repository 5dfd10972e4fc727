/-
  What the contracts of this seat share: the name of the method that a closure calls; entries in memory; a nil map.
-/
import Derived.Test.YbulkcdniRows
import Derived.Test.YbulkcdniPlain
import Derived.WalkKit
import Derived.WalkSpells
import Derived.WalkLawsBesides
import Derived.Deep.QuietTactic
import Derived.BigQuiet
import Derived.Deep.LoopGhost
import Derived.Deep.RegionWith
namespace Go.Proofs.Ybulkcdni
open Go.RowKit

theorem hidE {p : Prop} (h : p) : Hid p := h

/-- The name of the method that a closure of this shape calls (its second region's third operation): read off the loaded program. -/
def opNm : Op → String
  | .call c => match c.callee with
    | .invoke _ nm => nm
    | _ => default
  | _ => default
def listNm : List Oper → String
  | _ :: _ :: o :: _ => opNm o.op
  | _ => default
def codeNm : Option Code → String
  | some (.seq _ (.seq (.region _ ops _) _)) => listNm ops.toList
  | _ => default

/-- n entries of two cells each: a name and u. -/
def EntsAt (w : World) (b off n : Nat) (ns : List ByteArray) (u : Value) : Prop := ∀ i, i < n → w.cell? ⟨b, off + i * 2, none⟩ = some (.string (nameAt ns i)) ∧ w.cell? ⟨b, off + i * 2 + 1, none⟩ = some u

theorem EntsAt.below {w w' : World} {B b off n : Nat} {ns : List ByteArray} {u : Value} (h : EntsAt w b off n ns u) (hB : Below B w w') (hb : b < B) : EntsAt w' b off n ns u :=
  fun i hi => ⟨(hB.cell (p := ⟨b, off + i * 2, none⟩) hb).trans (h i hi).1, (hB.cell (p := ⟨b, off + i * 2 + 1, none⟩) hb).trans (h i hi).2⟩

theorem EntsAt.alloc {w : World} {b off n : Nat} {ns : List ByteArray} {u : Value} (h : EntsAt w b off n ns u) (hb : b < w.heap.size) (o : Obj) : EntsAt (w.alloc o) b off n ns u :=
  h.below ((Below.refl _ _).alloc (Nat.le_refl _) o) hb

/-- Block B holds a row of n entries (of element type T), the first k of which are made: a name and u. -/
def EntsBlk (W : World) (T B n : Nat) (ns : List ByteArray) (u : Value) (k : Nat) : Prop :=
  ∃ cur : Array Value, W.heap[B]? = some (.cells cur T (0, 0)) ∧ cur.size = n * 2 ∧ ∀ i, i < k → cur[i * 2]? = some (.string (nameAt ns i)) ∧ cur[i * 2 + 1]? = some u

theorem EntsBlk.stay {W W' : World} {T B n : Nat} {ns : List ByteArray} {u : Value} {k : Nat} (h : EntsBlk W T B n ns u k) (he : W'.heap[B]? = W.heap[B]?) : EntsBlk W' T B n ns u k := by
  obtain ⟨cur, h1, h2⟩ := h
  exact ⟨cur, he.trans h1, h2⟩

theorem EntsBlk.lt {W : World} {T B n : Nat} {ns : List ByteArray} {u : Value} {k : Nat} (h : EntsBlk W T B n ns u k) : B < W.heap.size := by
  obtain ⟨cur, h1, _⟩ := h
  exact (Array.getElem?_eq_some_iff.1 h1).1

theorem EntsBlk.at {W : World} {T B n : Nat} {ns : List ByteArray} {u : Value} (h : EntsBlk W T B n ns u n) : EntsAt W B 0 n ns u := by
  obtain ⟨cur, h1, h2, h3⟩ := h
  intro i hi
  have := h3 i hi
  simp [World.cell?, h1, this]

theorem EntsBlk.room {W : World} {T B n : Nat} {ns : List ByteArray} {u : Value} {k : Nat} (h : EntsBlk W T B n ns u k) (hk : k < n) :
    (∃ v, W.cell? ⟨B, k * 2, none⟩ = some v) ∧ (∃ v, W.cell? ⟨B, k * 2 + 1, none⟩ = some v) ∧ W.frozen? ⟨B, k * 2, none⟩ = false ∧ W.frozen? ⟨B, k * 2 + 1, none⟩ = false := by
  obtain ⟨cur, h1, h2, _⟩ := h
  refine ⟨⟨cur[k * 2]'(by omega), ?_⟩, ⟨cur[k * 2 + 1]'(by omega), ?_⟩, ?_, ?_⟩
  · simp [World.cell?, h1]
  · simp [World.cell?, h1]
  · simp [World.frozen?, h1]
  · simp [World.frozen?, h1]

theorem EntsBlk.step {W : World} {T B n : Nat} {ns : List ByteArray} {u : Value} {k : Nat} (h : EntsBlk W T B n ns u k) (hk : k < n) :
    EntsBlk ((W.setCell ⟨B, k * 2, none⟩ (.string (nameAt ns k))).setCell ⟨B, k * 2 + 1, none⟩ u) T B n ns u (k + 1) := by
  obtain ⟨cur, h1, h2, h3⟩ := h
  refine ⟨(cur.setIfInBounds (k * 2) (.string (nameAt ns k))).setIfInBounds (k * 2 + 1) u, ?_, by simpa using h2, fun i hi => ?_⟩
  · simp [World.setCell, Array.getElem?_modify, h1]
  · by_cases hik : i = k
    · subst hik
      constructor
      · rw [Array.getElem?_setIfInBounds_ne (by omega), Array.getElem?_setIfInBounds_self_of_lt (by omega)]
      · rw [Array.getElem?_setIfInBounds_self_of_lt (by simp; omega)]
    · have := h3 i (by omega)
      rw [Array.getElem?_setIfInBounds_ne (by omega), Array.getElem?_setIfInBounds_ne (by omega), Array.getElem?_setIfInBounds_ne (by omega), Array.getElem?_setIfInBounds_ne (by omega)]
      exact this

/-- What 'make' leaves. -/
theorem EntsBlk.made {w W : World} {T n : Nat} {ns : List ByteArray} {u : Value} {xs : List Value} (h : W.ownsRow w.heap.size T 2 (.slice (some ⟨w.heap.size, 0, none⟩) n n) n xs) : EntsBlk W T w.heap.size n ns u 0 := by
  obtain ⟨_, ⟨he, _⟩ | ⟨g', cap, cur, he, hb, hg, hn, hm, hs, ht⟩⟩ := h
  · simp at he
  · simp only [Value.slice.injEq, Option.some.injEq, Addr.mk.injEq, true_and, and_true] at he
    obtain ⟨rfl, rfl⟩ := he
    exact ⟨cur, hg, hs, fun i hi => absurd hi (Nat.not_lt_zero _)⟩

theorem map_nil (w : World) : (binOp .eql 30 (.map none) (.map none)).run Yba.prog w = .ok (.bool true) w := by kernel_rfl

end Go.Proofs.Ybulkcdni
