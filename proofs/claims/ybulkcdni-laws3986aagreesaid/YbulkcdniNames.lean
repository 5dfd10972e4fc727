/-
  Contracts of zzs3986apick (8) and zzs3986afirst (10).
-/
import Derived.Test.YbulkcdniBase
namespace Go.Proofs.Ybulkcdni
open Go.RowKit

/-- The names that came in. -/
def NamesAt (w : World) (a : Option Addr) (n : Nat) (ns : List ByteArray) : Prop := ns.length = n ∧ (n = 0 ∨ ∃ b off, a = some ⟨b, off, none⟩ ∧ b < w.heap.size ∧ ∀ i, i < n → w.cell? ⟨b, off + i, none⟩ = some (.string (nameAt ns i)))

theorem NamesAt.pos {w W : World} {a : Option Addr} {n : Nat} {ns : List ByteArray} (h : NamesAt w a n ns) (hB : Below w.heap.size w W) {k : Nat} (hk : k < n) :
    ∃ b off, a = some ⟨b, off, none⟩ ∧ b < w.heap.size ∧ W.cell? ⟨b, off + k, none⟩ = some (.string (nameAt ns k)) := by
  obtain ⟨hl, h | ⟨b, off, rfl, hlt, hc⟩⟩ := h
  · omega
  · exact ⟨b, off, rfl, hlt, (hB.cell (p := ⟨b, off + k, none⟩) hlt).trans (hc k hk)⟩

theorem NamesAt.below {w W : World} {a : Option Addr} {n : Nat} {ns : List ByteArray} (h : NamesAt w a n ns) (hB : Below w.heap.size w W) : NamesAt W a n ns := by
  obtain ⟨hl, h | ⟨b, off, rfl, hlt, hc⟩⟩ := h
  · exact ⟨hl, .inl h⟩
  · exact ⟨hl, .inr ⟨b, off, rfl, Nat.lt_of_lt_of_le hlt hB.size, fun i hi => (hB.cell (p := ⟨b, off + i, none⟩) hlt).trans (hc i hi)⟩⟩

set_option maxHeartbeats 400000 in
theorem first10 (a : Option Addr) (n c : Nat) (ns : List ByteArray) (key : ByteArray) (w : World) (hn : n ≤ 1024) (hr : NamesAt w a n ns) :
    Calls Yba.prog 10 #[.slice a n c, .string key] w fun e w' => e = .returned (.int .i64 (firstTo ns key n)) ∧ w' = w := by
  go_enter Yba.func10, Yba.ntmps10
  go_wp2
  go_loop [5] (fun i => ∃ k : Nat, k ≤ n ∧ i = .int .i64 k ∧ NoHit ns key k) (fun i => n - (intOf i).toNat)
  case atStart => exact ⟨0, Nat.zero_le _, rfl, NoHit.zero _ _⟩
  case round =>
    obtain ⟨k, hkn, rfl, hno⟩ := hrel
    by_cases hlt : k < n
    · obtain ⟨b, off, rfl, hb, hc0⟩ := hr.pos (Below.refl _ _) hlt
      have HN := hidE (hno.succ (k := k))
      have HT := hidE (firstTo_hit hlt hno)
      clear hr hno
      generalize nameAt ns k = s at *
      by_cases he : eqS s key = true
      · have HF := hidE (HT.out he)
        have he' : (s.toList == key.toList) = true := he
        clear HT HN he
        go_wp2
        go_ret
        exact ⟨by rw [HF.out]; rfl, rfl⟩
      · have he : eqS s key = false := by simpa using he
        have HF := hidE (HN.out he)
        have he' : (s.toList == key.toList) = false := he
        clear HT HN he
        go_wp2
        go_round
        case rel => exact ⟨k + 1, by omega, by go_num, HF.out⟩
        case measure => simp [intOf]; omega
    · have hle : n = k := by omega
      subst hle
      have HF := hidE (firstTo_none hno)
      clear hno hr
      go_wp2
      go_ret
      exact ⟨by rw [HF.out]; rfl, rfl⟩

/-- Some string comes back; nothing turns. -/
def Picked (w : World) (e : Ending) (w' : World) : Prop := ∃ key : ByteArray, e = .returned (.string key) ∧ w' = w

theorem pick_index (p : Int) (k : Nat) (h0 : 0 ≤ p) (hk : 0 < k) : ∃ q : Nat, p.tmod (k : Int) = (q : Int) ∧ q < k := by
  rw [Int.tmod_eq_emod_of_nonneg h0]
  have h2 := Int.emod_nonneg p (show (k : Int) ≠ 0 by omega)
  have h3 := Int.emod_lt_of_pos p (show (0 : Int) < (k : Int) by omega)
  exact ⟨(p % (k : Int)).toNat, by omega, by omega⟩

set_option maxHeartbeats 400000 in
theorem pick8 (a : Option Addr) (n c : Nat) (ns : List ByteArray) (key : ByteArray) (p : Int) (use : Bool) (w : World) (h0 : 0 ≤ p) (h1 : p ≤ 255) (hr : NamesAt w a n ns) :
    Calls Yba.prog 8 #[.slice a n c, .string key, .int .u8 p, .bool use] w (Picked w) := by
  by_cases hu : use = true
  · subst hu
    by_cases hn : 0 < n
    · obtain ⟨q, hq, hqn⟩ := pick_index p n h0 hn
      have hqn' : (q : Int) < (n : Int) := by omega
      obtain ⟨b, off, rfl, hb, hc⟩ := hr.pos (Below.refl _ _) hqn
      have hd : decide ((0 : Int) < (n : Int)) = true := decide_eq_true (by omega)
      clear hr
      generalize nameAt ns q = s at *
      go_enter Yba.func8, Yba.ntmps8
      go_wp2
      go_ret
      exact ⟨s, rfl, rfl⟩
    · have hd : decide ((0 : Int) < (n : Int)) = false := decide_eq_false (by omega)
      clear hr
      go_enter Yba.func8, Yba.ntmps8
      go_wp2
      go_ret
      exact ⟨key, rfl, rfl⟩
  · have hu : use = false := by simpa using hu
    subst hu
    clear hr
    go_enter Yba.func8, Yba.ntmps8
    go_wp2
    go_ret
    exact ⟨key, rfl, rfl⟩

end Go.Proofs.Ybulkcdni
