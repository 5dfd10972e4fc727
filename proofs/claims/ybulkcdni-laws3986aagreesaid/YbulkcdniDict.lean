/-
  Contracts of what 'entryPlace' at element type 43 comes to: key (59), the closure (33), slices.IndexFunc (32), keyIndex (19), entryPlace (12).
-/
import Derived.Test.YbulkcdniRows
import Derived.Test.YbulkcdniBase
namespace Go.Proofs.Ybulkcdni
open Go.RowKit

set_option maxHeartbeats 400000 in
theorem key59 (s : ByteArray) (v : Value) (w : World) :
    Calls Yba.prog 59 #[.agg #[.string s, v]] w fun e w' => e = .returned (.string s) ∧ w' = w.alloc (.cells #[.string s, v] 43) := by
  go_enter Yba.func59, Yba.ntmps59
  go_wp2
  go_ret
  exact ⟨rfl, rfl⟩

theorem meth59 (s : ByteArray) (v : Value) (w : World) : (method 208 43 (.agg #[.string s, v]) (codeNm Yba.f33.body)).run Yba.prog w = .ok (59, .agg #[.string s, v]) w := by kernel_rfl

set_option maxHeartbeats 400000 in
theorem clos33 (s key : ByteArray) (v : Value) (b off : Nat) (w : World) (hb : b < w.heap.size) (hc : w.cell? ⟨b, off, none⟩ = some (.string key)) :
    Calls Yba.prog 33 #[.agg #[.string s, v], .pointer (some ⟨b, off, none⟩)] w fun e w' => e = .returned (.bool (eqS s key)) ∧ Below w.heap.size w w' := by
  have hm := meth59 s v
  simp only [codeNm, Yba.f33, listNm, opNm] at hm
  go_enter Yba.func33, Yba.ntmps33
  go_wp2
  go_region_with (go_at_call 59; refine (key59 s v _).mono ?_; rintro e w' ⟨rfl, rfl⟩)
  all_goals
    go_wp2
    go_ret
    exact ⟨rfl, (((Below.refl _ _).alloc (Nat.le_refl _) _).alloc (by simp) _).drew⟩

set_option maxHeartbeats 1000000 in
theorem index32 (b off n c pb po : Nat) (ns : List ByteArray) (u : Value) (key : ByteArray) (w : World) (hn : n ≤ 1024) (hb : b < w.heap.size) (hp : pb < w.heap.size) (hc : EntsAt w b off n ns u) (hk : w.cell? ⟨pb, po, none⟩ = some (.string key)) :
    Calls Yba.prog 32 #[.slice (some ⟨b, off, none⟩) n c, .func (.func 33) #[] #[.pointer (some ⟨pb, po, none⟩)]] w fun e w' => e = .returned (.int .i64 (firstTo ns key n)) ∧ Below w.heap.size w w' := by
  go_enter Yba.func32, Yba.ntmps32
  go_wp2
  go_loopw [8] (fun i wr => ∃ k : Nat, k ≤ n ∧ i = .int .i64 k ∧ Below w.heap.size w wr ∧ NoHit ns key k) (fun i _ => n - (intOf i).toNat)
  case atStart => exact ⟨0, Nat.zero_le _, rfl, Below.refl _ _, NoHit.zero _ _⟩
  case round =>
    obtain ⟨k, hkn, rfl, hB, hno⟩ := hrel
    by_cases hlt : k < n
    · have hc0 : wr.cell? ⟨b, off + k * 2, none⟩ = some (.string (nameAt ns k)) := (hB.cell (p := ⟨b, off + k * 2, none⟩) hb).trans (hc k hlt).1
      have hc1 : wr.cell? ⟨b, off + k * 2 + 1, none⟩ = some u := (hB.cell (p := ⟨b, off + k * 2 + 1, none⟩) hb).trans (hc k hlt).2
      have hkr : wr.cell? ⟨pb, po, none⟩ = some (.string key) := (hB.cell (p := ⟨pb, po, none⟩) hp).trans hk
      have HN := hidE (hno.succ (k := k))
      have HT := hidE (firstTo_hit hlt hno)
      clear hc hk hno
      generalize nameAt ns k = s at *
      have hsz := hB.size
      by_cases he : eqS s key = true
      · have HF := hidE (HT.out he)
        have He := hidE he
        clear HT HN he
        go_wp2_with fail
        refine (clos33 s key u pb po _ (by omega) hkr).mono ?_
        rintro e w' ⟨rfl, hB'⟩
        rw [He.out]
        go_wp2
        go_ret
        exact ⟨by rw [HF.out]; rfl, hB.trans (hB'.mono hsz)⟩
      · have he : eqS s key = false := by simpa using he
        have HF := hidE (HN.out he)
        have He := hidE he
        clear HT HN he
        go_wp2_with fail
        refine (clos33 s key u pb po _ (by omega) hkr).mono ?_
        rintro e w' ⟨rfl, hB'⟩
        rw [He.out]
        go_wp2
        go_roundw
        case rel => exact ⟨k + 1, by omega, by go_num, hB.trans (hB'.mono hsz), HF.out⟩
        case measure => simp [intOf]; omega
    · have hle : n = k := by omega
      subst hle
      have HF := hidE (firstTo_none hno)
      clear hno hc hk
      go_wp2
      go_ret
      exact ⟨by rw [HF.out]; rfl, hB⟩

set_option maxHeartbeats 400000 in
theorem keyIx19 (b off n c : Nat) (ns : List ByteArray) (u : Value) (key : ByteArray) (w : World) (hn : n ≤ 1024) (hb : b < w.heap.size) (hc : EntsAt w b off n ns u) :
    Calls Yba.prog 19 #[.slice (some ⟨b, off, none⟩) n c, .string key] w fun e w' => e = .returned (.int .i64 (firstTo ns key n)) ∧ Below w.heap.size w w' := by
  have hmf : ∀ (fn : Fn) (first cap : Array Value) (w : World), (Instr.makeFunc fn first cap).run Yba.prog w = .ok (.func fn first cap) w := fun _ _ _ _ => rfl
  go_enter Yba.func19, Yba.ntmps19
  go_wp2_with fail
  refine (index32 b off n c _ _ ns u key _ hn (by simp; omega) (by simp) (by exact hc.alloc hb _) (by simp)).mono ?_
  rintro e w' ⟨rfl, hB⟩
  go_wp2
  go_ret
  exact ⟨rfl, ((Below.refl _ _).alloc (Nat.le_refl _) _).trans (hB.mono (by simp))⟩

set_option maxHeartbeats 400000 in
theorem place12_nil (b off n c : Nat) (ns : List ByteArray) (u : Value) (key : ByteArray) (w : World) (hn : n ≤ 1024) (hb : b < w.heap.size) (hc : EntsAt w b off n ns u) :
    Calls Yba.prog 12 #[.slice (some ⟨b, off, none⟩) n c, .map none, .string key] w fun e w' => e = .returned (.int .i64 (firstTo ns key n)) ∧ Below w.heap.size w w' := by
  have hnil := map_nil
  go_enter Yba.func12, Yba.ntmps12
  go_wp2_with fail
  refine (keyIx19 b off n c ns u key _ hn hb hc).mono ?_
  rintro e w' ⟨rfl, hB⟩
  go_wp2
  go_ret
  exact ⟨rfl, hB⟩

end Go.Proofs.Ybulkcdni
