/-
  THE CALLEES OF THE TWO LAWS ON 'reciprocalRank': slices.Clone (function 6), reciprocalRank (7), slices.Equal (8), each by a contract of its own.
-/
import Derived.Test.YbulkcdjaRows
import Derived.Test.YbulkcdjaFl
import Derived.WalkKit
import Derived.WalkSpells
import Derived.WalkLawsBesides
import Derived.Deep.QuietTactic
import Derived.BigQuiet
namespace Go.Proofs.Ybulkcdja
open Go.RowKit

theorem Yba.info3 : (Yba.prog.info? 3).map (fun i => (i.zero, i.size, i.bytes)) = some (some (.int .i64 0), 1, 8) := by kernel_rfl

/-- A slice of ints, as far as its elements go: it has none; or it leads to a row of cells that hold zs. -/
def Reads (w : World) (a : Option Addr) (n : Nat) (zs : List Int) : Prop :=
  zs.length = n ∧ (n = 0 ∨ ∃ b off, a = some ⟨b, off, none⟩ ∧ b < w.heap.size ∧ ∀ j, j < n → w.cell? ⟨b, off + j, none⟩ = some (.int .i64 (zs.getD j 0)))

theorem Reads.below {w w' : World} {a : Option Addr} {n : Nat} {zs : List Int} (h : Reads w a n zs) (hb : Below w.heap.size w w') : Reads w' a n zs := by
  refine ⟨h.1, ?_⟩
  rcases h.2 with h0 | ⟨b, off, rfl, hlt, hc⟩
  · exact .inl h0
  · exact .inr ⟨b, off, rfl, Nat.lt_of_lt_of_le hlt hb.size, fun j hj => (hb.cell (p := ⟨b, off + j, none⟩) hlt).trans (hc j hj)⟩

theorem reads_of_own {w : World} {B : Nat} {v : Value} {n : Nat} {zs : List Int} (h : w.ownsRow B 3 1 v n (zs.map (Value.int .i64))) : ∃ a c, v = .slice a n c ∧ Reads w a n zs := by
  obtain ⟨hl, h⟩ := h
  simp at hl
  rcases h with ⟨rfl, rfl⟩ | ⟨g, cap, cur, rfl, hb, hg, hn, hm, hs, ht⟩
  · exact ⟨none, 0, rfl, hl, .inl rfl⟩
  · refine ⟨_, _, rfl, hl, .inr ⟨g, 0, rfl, (Array.getElem?_eq_some_iff.1 hg).1, fun j hj => ?_⟩⟩
    have hj' : j < zs.length := by omega
    have e : (cur.toList.take (n * 1))[j]? = (zs.map (Value.int .i64))[j]? := by rw [ht]
    rw [List.getElem?_take, if_pos (by omega)] at e
    simp [World.cell?, hg]
    simpa [List.getD, hj'] using e

/-- What slices.Clone leaves. -/
def Cloned (w : World) (n : Nat) (zs : List Int) (e : Ending) (w' : World) : Prop := ∃ a' c', e = .returned (.slice a' n c') ∧ Reads w' a' n zs ∧ Below w.heap.size w w'

set_option maxHeartbeats 1000000 in
set_option maxRecDepth 100000 in
theorem clone_any (a : Option Addr) (n c : Nat) (zs : List Int) (w : World) (hn : n ≤ 4096) (hr : Reads w a n zs) :
    Calls Yba.prog 6 #[.slice a n c] w (Cloned w n zs) := by
  have q22 : ∀ (w : World) (a : Option Addr) (n c n' c' : Nat), (binOp .eql 22 (.slice a n c) (.slice none n' c')).run Yba.prog w = .ok (.bool a.isNone) w := fun w a n c n' c' => Lib.run_eql_slice_nil w _ _ a n c n' c' Yba.underlying22
  obtain ⟨i0, hi, hz0, hz1, hz2⟩ := info_parts Yba.info3
  obtain ⟨hl, hr⟩ := hr
  cases a with
  | none =>
    have hn0 : n = 0 := by rcases hr with h | ⟨b, off, h, _⟩; exact h; cases h
    subst hn0
    go_enter Yba.func6, Yba.ntmps6
    go_wp2
    go_ret
    exact ⟨none, 0, rfl, ⟨hl, .inl rfl⟩, Below.refl _ _⟩
  | some ad =>
    have A : Hid (∀ j u, (zs.map (Value.int .i64))[j]? = some u → w.cell? (ad.add j) = some u) := by
      intro j u hj
      have hjn : j < zs.length := by have := (List.getElem?_eq_some_iff.1 hj).1; simpa using this
      rcases hr with h0 | ⟨b, off, he, hlt, hc⟩
      · omega
      · cases he
        rw [Addr.add_lit]
        rw [hc j (by omega)]
        simpa [List.getD, hjn] using hj
    clear hr
    go_enter Yba.func6, Yba.ntmps6
    go_wp2_with (at_builtin; refine wpList_append_own _ rfl _ _ 22 rfl w.heap.size 3 i0 (.int .i64 0) 1 8 Yba.underlying22 hi hz0 hz1 hz2 rfl (by decide) _ _ _ rfl (World.ownsRow_made w #[] 0 (Nat.le_refl _) (Nat.zero_le _) rfl) ad n c (zs.map (Value.int .i64)) rfl ?qc1 ?qc2 ?qc3 ?qc4 ?qc5 ?qc6 ?_)
    case qc1 => simp; omega
    case qc2 => intro j u hj; exact Lib.cell?_alloc_some _ (A.out j u hj)
    case qc3 => intro u hu; obtain ⟨x, _, rfl⟩ := List.mem_map.1 hu; rfl
    case qc4 => unfold maxLen; omega
    case qc5 => omega
    case qc6 => simp
    intro v' w1 hown hgrow hnil
    go_wp2
    go_ret
    obtain ⟨a', c', rfl, hR⟩ := reads_of_own hown
    exact ⟨a', c', rfl, hR, ((Below.refl _ w).alloc (Nat.le_refl _) _).grown hgrow (by simp) (by intro k hk; simp [Value.ownBlock] at hk; omega)⟩


set_option maxHeartbeats 1000000 in
set_option maxRecDepth 100000 in
theorem rank_any (a : Option Addr) (n c : Nat) (v2 : Value) (zs : List Int) (w : World) (hn : n ≤ 4096) (hr : Reads w a n zs) :
    Calls Yba.prog 7 #[.agg #[.slice a n c, v2]] w fun e w' => e = .returned (.float .f64 (rrBits (posTo zs n))) ∧ Below w.heap.size w w' := by
  obtain ⟨hl, hr⟩ := hr
  go_enter Yba.func7, Yba.ntmps7
  go_wp2
  have hbits : ∀ (p : Nat), 1 ≤ p → p ≤ 4096 → ∀ w : World, (binOp .quo 24 (.float .f64 4607182418800017408) (.float .f64 (floatOfInt .f64 (p : Int)))).run Yba.prog w = .ok (.float .f64 (recip p)) w := fun p h1 h2 w => run_float_arith w .quo 24 .f64 _ _ _ (recip_bits h1 h2)
  go_loop [8] (fun i => ∃ k : Nat, k ≤ n ∧ i = .int .i64 k ∧ posTo zs k = 0) (fun i => n - (intOf i).toNat)
  case atStart => exact ⟨0, Nat.zero_le _, rfl, rfl⟩
  case round =>
    obtain ⟨k, hk, rfl, hp⟩ := hrel
    by_cases hlt : k < n
    · obtain ⟨b, off, rfl, hb, hc⟩ : ∃ b off, a = some ⟨b, off, none⟩ ∧ b < w.heap.size ∧ ∀ j, j < n → w.cell? ⟨b, off + j, none⟩ = some (.int .i64 (zs.getD j 0)) := by
        rcases hr with h | h
        · omega
        · exact h
      have hck : (w.alloc (.cells #[.slice (some ⟨b, off, none⟩) n c, v2] 27)).cell? ⟨b, off + k, none⟩ = some (.int .i64 (zs.getD k 0)) := by
        rw [World.cell?_alloc_past _ _ _ hb]; exact hc k hlt
      clear hc
      have hbk : ∀ w : World, (binOp .quo 24 (.float .f64 4607182418800017408) (.float .f64 (floatOfInt .f64 ((k : Int) + 1)))).run Yba.prog w = .ok (.float .f64 (recip (k + 1))) w := fun w => by
        have := hbits (k + 1) (by omega) (by omega) w
        rwa [show ((k + 1 : Nat) : Int) = (k : Int) + 1 by omega] at this
      clear hbits
      by_cases hpos : 0 < zs.getD k 0
      · have H : Hid (posTo zs n = k + 1) := posTo_hit zs k n hlt hp hpos
        clear hp
        generalize zs.getD k 0 = z at *
        go_wp2
        go_ret
        rw [H.out, rrBits_pos (by omega)]
        exact ⟨rfl, (Below.refl _ w).alloc (Nat.le_refl _) _⟩
      · have H : Hid (posTo zs (k + 1) = 0) := posTo_miss zs k hp hpos
        clear hp
        generalize zs.getD k 0 = z at *
        go_wp2
        go_round
        case rel => exact ⟨k + 1, by omega, by go_num, H.out⟩
        case measure => simp [intOf]; omega
    · have he : k = n := by omega
      subst he
      have H : Hid (posTo zs k = 0) := hp
      clear hp
      go_wp2
      go_ret
      rw [H.out]
      exact ⟨rfl, (Below.refl _ w).alloc (Nat.le_refl _) _⟩

end Go.Proofs.Ybulkcdja
