/-
  Contracts: bytes.Equal (12), bytes.HasSuffix (11), zzs3978cends (10).
-/
import Derived.Test.YbulkcdjaRows
import Derived.Test.YbulkcdjaLong
import Derived.WalkSpells
import Derived.WalkLawsBesides
import Derived.Deep.QuietTactic
import Derived.BigQuiet
import Derived.Deep.LoopGhost
namespace Go.Proofs.Ybulkcdja
open Go.RowKit

/-- The bytes l lie at block b from off on. -/
def BytesAt (w : World) (b off : Nat) (l : List UInt8) : Prop := ∀ j, j < l.length → w.cell? ⟨b, off + j, none⟩ = some (.int .u8 ((l.getD j 0).toNat : Int))

theorem BytesAt.conv {w : World} {b off : Nat} {l : List UInt8} (h : BytesAt w b off l) (cap : Nat) : (convert 29 9 (.slice (some ⟨b, off, none⟩) l.length cap)).run Yba.prog w = .ok (.string ⟨l.toArray⟩) w := by
  refine run_convert_bytes_back (P := Yba.prog) w 29 9 5 ⟨b, off, none⟩ cap l Yba.underlying29 Yba.underlying5 Yba.underlying9 (fun j hj => ?_)
  rw [Addr.add_lit, h j hj]
  simp [List.getD, List.getElem?_eq_getElem hj]

theorem BytesAt.drop {w : World} {b off : Nat} {l : List UInt8} (h : BytesAt w b off l) (k : Nat) : BytesAt w b (off + k) (l.drop k) := by
  intro j hj
  simp at hj
  rw [Nat.add_assoc, h (k + j) (by omega)]
  simp [List.getD]

set_option maxHeartbeats 400000 in
theorem equal12 (v1 v2 : Value) (l1 l2 : List UInt8) (w : World) (h1 : (convert 29 9 v1).run Yba.prog w = .ok (.string ⟨l1.toArray⟩) w) (h2 : (convert 29 9 v2).run Yba.prog w = .ok (.string ⟨l2.toArray⟩) w) :
    Calls Yba.prog 12 #[v1, v2] w fun e w' => e = .returned (.bool (l1 == l2)) ∧ w' = w := by
  go_enter Yba.func12, Yba.ntmps12
  go_wp2
  go_ret
  exact ⟨rfl, rfl⟩

set_option maxHeartbeats 1000000 in
theorem suffix11 (b1 o1 n c b2 o2 m d : Nat) (l s : List UInt8) (w : World) (hn : l.length = n) (hm : s.length = m) (hnc : n ≤ c) (hbig : n ≤ 9223372036854775807) (h1 : BytesAt w b1 o1 l) (h2 : BytesAt w b2 o2 s) :
    Calls Yba.prog 11 #[.slice (some ⟨b1, o1, none⟩) n c, .slice (some ⟨b2, o2, none⟩) m d] w fun e w' => e = .returned (.bool (endsB l s)) ∧ w' = w := by
  have g2 := h2.conv d
  rw [hm] at g2
  by_cases hle : m ≤ n
  · have gA : (convert 29 9 (.slice (if c = n - m then some ⟨b1, o1, none⟩ else some ⟨b1, o1 + (n - m), none⟩) (n - (n - m)) (c - (n - m)))).run Yba.prog w = .ok (.string ⟨(l.drop (n - m)).toArray⟩) w := by
      split
      · have e2 : l.drop (n - m) = [] := List.drop_eq_nil_of_le (by omega)
        rw [e2, show n - (n - m) = 0 by omega]
        exact BytesAt.conv (w := w) (b := b1) (off := o1) (l := []) (fun j hj => absurd hj (Nat.not_lt_zero _)) _
      · have := (h1.drop (n - m)).conv (c - (n - m))
        rwa [List.length_drop, hn] at this
    have hE : Hid (endsB l s = (l.drop (n - m) == s)) := by
      rw [← hn, ← hm]; exact endsB_eq (by omega)
    have hd : decide ((m : Int) ≤ (n : Int)) = true := decide_eq_true (by omega)
    clear h1 h2
    go_enter Yba.func11, Yba.ntmps11
    go_wp2_with (go_at_call 12; refine (equal12 _ _ (l.drop (n - m)) s _ gA g2).mono ?_; rintro e w' ⟨rfl, rfl⟩)
    all_goals
      go_ret
      exact ⟨by rw [hE.out]; rfl, rfl⟩
  · have hE : Hid (endsB l s = false) := endsB_long (by omega)
    have hd : decide ((m : Int) ≤ (n : Int)) = false := decide_eq_false (by omega)
    clear h1 h2
    go_enter Yba.func11, Yba.ntmps11
    go_wp2
    go_ret
    exact ⟨by rw [hE.out]; rfl, rfl⟩

theorem str_get (s : ByteArray) (k : Nat) (h : k < s.size) : s.data.toList.getD k 0 = s[k] := by
  have h' : k < s.data.toList.length := by simpa using h
  simp [List.getD, List.getElem?_eq_getElem h']
  rfl

set_option maxHeartbeats 1000000 in
theorem ends10 (b off n c : Nat) (l : List UInt8) (s : ByteArray) (w : World) (hn : l.length = n) (hbig : n ≤ 4611686018427387904) (hsb : s.size ≤ 4611686018427387904) (h1 : BytesAt w b off l) :
    Calls Yba.prog 10 #[.slice (some ⟨b, off, none⟩) n c, .string s] w fun e w' => e = .returned (.bool (endsB l s.data.toList)) ∧ Below w.heap.size w w' := by
  have hlen : s.data.toList.length = s.size := by simp
  by_cases hle : s.size ≤ n
  · have hdec : decide (n < s.size) = false := decide_eq_false (by omega)
    obtain ⟨d, hd⟩ : ∃ d : Nat, (n : Int) - (s.size : Int) = (d : Int) := ⟨n - s.size, by omega⟩
    have hdn : n - s.size = d := by omega
    have Hd : Hid ((n : Int) - (s.size : Int) = (d : Int)) := hd
    have HT : Hid ((∀ j, j < s.size → l.getD (d + j) 0 = s.data.toList.getD j 0) → endsB l s.data.toList = true) := fun h => endsB_true (by omega) (by rw [hn, hlen, hdn]; exact h)
    have HF : Hid (∀ j, l.getD (d + j) 0 ≠ s.data.toList.getD j 0 → endsB l s.data.toList = false) := fun j h => endsB_false (by omega) (j := j) (by rw [hn, hlen, hdn]; exact h)
    have hdle : d + s.size ≤ n := by omega
    clear hd hdn
    go_enter Yba.func10, Yba.ntmps10
    go_wp2
    rw [Hd.out]
    go_loopw [6] (fun i wr => ∃ k : Nat, k ≤ s.size ∧ i = .int .i64 k ∧ Below w.heap.size w wr ∧ (∀ q, wr.cell? q = w.cell? q) ∧ (∀ j, j < k → l.getD (d + j) 0 = s.data.toList.getD j 0)) (fun i _ => s.size - (intOf i).toNat)
    case atStart => exact ⟨0, Nat.zero_le _, rfl, Below.refl _ _, fun _ => rfl, fun j hj => absurd hj (Nat.not_lt_zero _)⟩
    case round =>
      obtain ⟨k, hk, rfl, hB, hcl, hj⟩ := hrel
      by_cases hlt : k < s.size
      · have hck : wr.cell? ⟨b, off + (d + k), none⟩ = some (.int .u8 ((l.getD (d + k) 0).toNat : Int)) := by rw [hcl]; exact h1 (d + k) (by omega)
        have hsk := str_get s k hlt
        have Hcl : Hid (∀ q, wr.cell? q = w.cell? q) := hcl
        have Hj : Hid (∀ j, j < k → l.getD (d + j) 0 = s.data.toList.getD j 0) := hj
        have h1' : Hid (BytesAt w b off l) := h1
        have Hsk : Hid (s.data.toList.getD k 0 = s[k]) := hsk
        clear hcl hj h1 hsk
        have hi1 : (d : Int) + (k : Int) < (n : Int) := by omega
        have hi2 : (k : Int) < (s.size : Int) := by omega
        generalize hx : l.getD (d + k) 0 = x at *
        have Hx : Hid (l.getD (d + k) 0 = x) := hx
        clear hx
        by_cases heq : x = s[k]
        · have hz : ((x.toNat : Int) != (s[k].toNat : Int)) = false := by rw [heq]; simp
          have Heq : Hid (x = s[k]) := heq
          clear heq
          go_wp2
          go_quiet (fail)
          go_wp2
          go_roundw
          case rel =>
            refine ⟨k + 1, by omega, by go_num, below_drewN hB _, fun q => ?_, fun j hjk => ?_⟩
            · simpa using Hcl.out q
            · by_cases hjk' : j = k
              · subst hjk'; rw [Hsk.out, Hx.out]; exact Heq.out
              · exact Hj.out j (by omega)
          case measure => simp [intOf]; omega
        · have hz : ((x.toNat : Int) != (s[k].toNat : Int)) = true := by
            rw [bne_iff_ne]
            intro h
            exact heq (UInt8.toNat_inj.1 (by omega))
          have HE : Hid (endsB l s.data.toList = false) := HF.out k (by rw [Hsk.out, Hx.out]; exact heq)
          clear heq
          go_wp2
          go_quiet (fail)
          go_wp2
          go_ret
          exact ⟨by rw [HE.out]; rfl, below_drewN hB _⟩
      · have HE : Hid (endsB l s.data.toList = true) := HT.out (fun j hjs => hj j (by omega))
        clear hj hcl h1
        go_wp2
        go_ret
        exact ⟨by rw [HE.out]; rfl, hB⟩
  · have hE : Hid (endsB l s.data.toList = false) := endsB_long (by omega)
    go_enter Yba.func10, Yba.ntmps10
    go_wp2
    go_ret
    exact ⟨by rw [hE.out]; rfl, Below.refl _ _⟩

end Go.Proofs.Ybulkcdja
