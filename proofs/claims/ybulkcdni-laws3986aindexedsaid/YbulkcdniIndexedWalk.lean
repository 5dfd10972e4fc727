/-
  The walks of 'LawS3986AIndexed' (4): a nil index; an index that is not nil.
-/
import Derived.Test.YbulkcdniMaps
import Derived.Test.YbulkcdniParam
namespace Go.Proofs.Ybulkcdni
open Go.RowKit

theorem Yba.info35 : (Yba.prog.info? 35).map (fun i => (i.zero, i.size, i.bytes)) = some (some (.agg #[.string ⟨#[]⟩, .nilIface]), 2, 32) := by kernel_rfl

theorem ownsMap_stay {H : Type} {R : Value → Option (DataW H × List MemPlace)} {W W' : World} {b nn : Nat} {D : DataW H} (h : W.ownsMap Yba.prog 9 R b nn D) (hb : W'.heap[b]? = W.heap[b]?) : W'.ownsMap Yba.prog 9 R b nn D := by
  obtain ⟨es, clock, h1, h2⟩ := h
  exact ⟨es, clock, hb.trans h1, h2⟩

set_option maxHeartbeats 1000000 in
set_option maxRecDepth 100000 in
theorem indexed_nil (a : Option Addr) (n c : Nat) (ns : List ByteArray) (key : ByteArray) (p : Int) (use : Bool) (w : World) (hp0 : 0 ≤ p) (hp1 : p ≤ 255) (hr : NamesAt w a n ns) :
    Calls Yba.prog 4 #[.map none, .slice a n c, .string key, .int .u8 p, .bool use] w fun e w' => e = .returned (.bool true) ∧ Below w.heap.size w w' := by
  have hnil := map_nil
  by_cases h0 : 1024 < n
  · go_enter Yba.func4, Yba.ntmps4
    go_wp2
    go_ret
    exact ⟨rfl, Below.refl _ _⟩
  have hd0 : decide (1024 < n) = false := decide_eq_false h0
  obtain ⟨i35, hi, hz0, hz1, hz2⟩ := info_parts Yba.info35
  go_enter Yba.func4, Yba.ntmps4
  go_wp2_with fail
  refine (pick8 a n c ns key p use _ hp0 hp1 hr).mono ?_
  rintro e w' ⟨k', rfl, hw'⟩
  subst hw'
  go_wp2_with (at_make; refine wpList_make_full _ rfl _ _ 31 rfl w'.heap.size 35 i35 _ 2 Yba.underlying31 hi hz0 hz1 .i64 .i64 _ _ n rfl rfl rfl rfl ?qa ?qb (Nat.le_refl _) ?_)
  case qa => rw [hz2]; omega
  case qb => unfold maxLen; omega
  intro wa howna hga
  have hBa : Below w'.heap.size w' wa := (Below.refl _ _).grown hga (Nat.le_refl _) (fun k hk => by cases hk)
  have hRa := EntsBlk.made (ns := ns) (u := .nilIface) howna
  clear howna hga
  go_wp2
  go_loopw [12] (fun i wr => ∃ k : Nat, k ≤ n ∧ i = .int .i64 k ∧ Below w'.heap.size w' wr ∧ EntsBlk wr 35 w'.heap.size n ns .nilIface k) (fun i _ => n - (intOf i).toNat)
  case atStart => exact ⟨0, Nat.zero_le _, rfl, hBa, hRa⟩
  case round =>
    obtain ⟨k, hk, rfl, hB, hR⟩ := hrel
    by_cases hlt : k < n
    · obtain ⟨b, off, rfl, hb, hc0⟩ := hr.pos hB hlt
      obtain ⟨⟨v0, hv0⟩, ⟨v1, hv1⟩, hf0, hf1⟩ := hR.room hlt
      have HS := hidE (hR.step hlt)
      clear hR hRa hBa hr
      generalize nameAt ns k = s at *
      go_wp2
      go_roundw
      case rel => exact ⟨k + 1, by omega, by go_num, (hB.setCell (by simp) _).setCell (by simp) _, HS.out⟩
      case measure => simp [intOf]; omega
    · have he : n = k := by omega
      subst he
      clear hRa hBa hlt hk
      have hRat := hR.at
      have hRlt := hR.lt
      have hdn : decide (n < n) = false := by simp
      go_wp2_with fail
      refine (place11_nil w'.heap.size 0 n n ns .nilIface k' _ (by omega) hRlt hRat).mono ?_
      rintro e wb ⟨rfl, hBb⟩
      have hBw : Below w'.heap.size w' wb := hB.trans (hBb.mono hB.size)
      have hrb := hr.below hBw
      clear hR hRat hRlt hBb hB
      go_wp2_with fail
      refine (first10 a n c ns k' _ (by omega) hrb).mono ?_
      rintro e wc ⟨rfl, hwc⟩
      subst hwc
      have hne : (firstTo ns k' n == firstTo ns k' n) = true := by simp
      go_wp2
      go_ret
      exact ⟨rfl, hBw⟩

set_option maxHeartbeats 1000000 in
set_option maxRecDepth 100000 in
theorem indexed_map {H : Type} (bm nn : Nat) (D : DataW H) (a : Option Addr) (n c : Nat) (ns : List ByteArray) (key : ByteArray) (p : Int) (use : Bool) (w : World) (hp0 : 0 ≤ p) (hp1 : p ≤ 255) (hr : NamesAt w a n ns)
    (hks : key.size ≤ maxLen) (hns : ∀ i, i < n → (nameAt ns i).size ≤ maxLen) (hown : w.ownsMap Yba.prog 9 (plainElem Yba.prog 3) bm nn D) :
    Calls Yba.prog 4 #[.map (some bm), .slice a n c, .string key, .int .u8 p, .bool use] w fun e w' => e = .returned (.bool true) ∧ Below w.heap.size w w' := by
  have hsome := map_some bm
  by_cases h0 : 1024 < n
  · go_enter Yba.func4, Yba.ntmps4
    go_wp2
    go_ret
    exact ⟨rfl, Below.refl _ _⟩
  have hd0 : decide (1024 < n) = false := decide_eq_false h0
  obtain ⟨i35, hi, hz0, hz1, hz2⟩ := info_parts Yba.info35
  go_enter Yba.func4, Yba.ntmps4
  go_wp2_with fail
  refine (pick8s a n c ns key p use _ hp0 hp1 hr hks hns).mono ?_
  rintro e w' ⟨k', rfl, hw', hk'⟩
  subst hw'
  obtain ⟨cv, ok, hlook⟩ := look_in hown hk'
  have HL := hidE hlook
  clear hlook
  go_wp2_with (at_make; refine wpList_make_full _ rfl _ _ 31 rfl w'.heap.size 35 i35 _ 2 Yba.underlying31 hi hz0 hz1 .i64 .i64 _ _ n rfl rfl rfl rfl ?qa ?qb (Nat.le_refl _) ?_)
  case qa => rw [hz2]; omega
  case qb => unfold maxLen; omega
  intro wa howna hga
  have hBa : Below w'.heap.size w' wa := (Below.refl _ _).grown hga (Nat.le_refl _) (fun k hk => by cases hk)
  have hRa := EntsBlk.made (ns := ns) (u := .nilIface) howna
  clear howna hga
  go_wp2
  go_loopw [12] (fun i wr => ∃ k : Nat, k ≤ n ∧ i = .int .i64 k ∧ Below w'.heap.size w' wr ∧ EntsBlk wr 35 w'.heap.size n ns .nilIface k) (fun i _ => n - (intOf i).toNat)
  case atStart => exact ⟨0, Nat.zero_le _, rfl, hBa, hRa⟩
  case round =>
    obtain ⟨k, hk, rfl, hB, hR⟩ := hrel
    by_cases hlt : k < n
    · obtain ⟨b, off, rfl, hb, hc0⟩ := hr.pos hB hlt
      obtain ⟨⟨v0, hv0⟩, ⟨v1, hv1⟩, hf0, hf1⟩ := hR.room hlt
      have HS := hidE (hR.step hlt)
      clear hR hRa hBa hr hns hown
      generalize nameAt ns k = s at *
      go_wp2
      go_roundw
      case rel => exact ⟨k + 1, by omega, by go_num, (hB.setCell (by simp) _).setCell (by simp) _, HS.out⟩
      case measure => simp [intOf]; omega
    · have he : n = k := by omega
      subst he
      have hl := HL.out wr (ownsMap_stay hown (hB.block _ hown.lt))
      clear hRa hBa hlt hk hR hns hr hown HL
      have hdn : decide (n < n) = false := by simp
      go_wp2_with fail
      refine (place11_map _ bm k' cv ok _ hl).mono ?_
      rintro e wb ⟨rfl, hwb⟩
      subst hwb
      cases ok
      · have hne : ((-1 : Int) == -1) = true := rfl
        rw [show placeOf false cv = -1 from rfl]
        go_wp2
        go_ret
        exact ⟨rfl, hB⟩
      · have hne : (cv == cv) = true := by simp
        rw [show placeOf true cv = cv from rfl]
        go_wp2
        go_ret
        exact ⟨rfl, hB⟩

end Go.Proofs.Ybulkcdni
