/-
  The contract of zzs3990cbuild (5).
-/
import Derived.Test.YbulkcdpmLeaves
namespace Go.Proofs.Ybulkcdpm
open Go.RowKit Go.MuLone

/-- The items that came in. -/
def ItemsAt (w : World) (a : Option Addr) (n : Nat) (its : List Item) : Prop :=
  its.length = n ∧ (∀ i, i < n → 0 ≤ (itemAt its i).1 ∧ (itemAt its i).1 ≤ 255) ∧ (n = 0 ∨ ∃ b off, a = some ⟨b, off, none⟩ ∧ b < w.heap.size ∧ ∀ i, i < n →
    w.cell? ⟨b, off + i * 3, none⟩ = some (.int .u8 (itemAt its i).1) ∧ w.cell? ⟨b, off + i * 3 + 1, none⟩ = some (.int .u64 (itemAt its i).2.1) ∧ w.cell? ⟨b, off + i * 3 + 2, none⟩ = some (.bool (itemAt its i).2.2))

theorem ItemsAt.pos {w W : World} {a : Option Addr} {n : Nat} {its : List Item} (h : ItemsAt w a n its) (hB : Below w.heap.size w W) {k : Nat} (hk : k < n) :
    ∃ b off, a = some ⟨b, off, none⟩ ∧ b < w.heap.size ∧ W.cell? ⟨b, off + k * 3, none⟩ = some (.int .u8 (itemAt its k).1) ∧ W.cell? ⟨b, off + k * 3 + 1, none⟩ = some (.int .u64 (itemAt its k).2.1) ∧ W.cell? ⟨b, off + k * 3 + 2, none⟩ = some (.bool (itemAt its k).2.2) := by
  obtain ⟨hl, _, h | ⟨b, off, rfl, hlt, hc⟩⟩ := h
  · omega
  · obtain ⟨c0, c1, c2⟩ := hc k hk
    exact ⟨b, off, rfl, hlt, (hB.cell (p := ⟨b, off + k * 3, none⟩) hlt).trans c0, (hB.cell (p := ⟨b, off + k * 3 + 1, none⟩) hlt).trans c1, (hB.cell (p := ⟨b, off + k * 3 + 2, none⟩) hlt).trans c2⟩

theorem ItemsAt.below {w W : World} {a : Option Addr} {n : Nat} {its : List Item} (h : ItemsAt w a n its) (hB : Below w.heap.size w W) : ItemsAt W a n its := by
  obtain ⟨hl, hr, h | ⟨b, off, rfl, hlt, hc⟩⟩ := h
  · exact ⟨hl, hr, .inl h⟩
  · exact ⟨hl, hr, .inr ⟨b, off, rfl, Nat.lt_of_lt_of_le hlt hB.size, fun i hi => ⟨(hB.cell (p := ⟨b, off + i * 3, none⟩) hlt).trans (hc i hi).1, (hB.cell (p := ⟨b, off + i * 3 + 1, none⟩) hlt).trans (hc i hi).2.1, (hB.cell (p := ⟨b, off + i * 3 + 2, none⟩) hlt).trans (hc i hi).2.2⟩⟩⟩

/-- The deletions that came in. -/
def DelsAt (w : World) (a : Option Addr) (n : Nat) (ds : List Int) : Prop :=
  ds.length = n ∧ (∀ i, i < n → 0 ≤ ds.getD i 0 ∧ ds.getD i 0 ≤ 255) ∧ (n = 0 ∨ ∃ b off, a = some ⟨b, off, none⟩ ∧ b < w.heap.size ∧ ∀ i, i < n → w.cell? ⟨b, off + i, none⟩ = some (.int .u8 (ds.getD i 0)))

theorem DelsAt.pos {w W : World} {a : Option Addr} {n : Nat} {ds : List Int} (h : DelsAt w a n ds) (hB : Below w.heap.size w W) {k : Nat} (hk : k < n) :
    ∃ b off, a = some ⟨b, off, none⟩ ∧ b < w.heap.size ∧ W.cell? ⟨b, off + k, none⟩ = some (.int .u8 (ds.getD k 0)) := by
  obtain ⟨hl, _, h | ⟨b, off, rfl, hlt, hc⟩⟩ := h
  · omega
  · exact ⟨b, off, rfl, hlt, (hB.cell (p := ⟨b, off + k, none⟩) hlt).trans (hc k hk)⟩

theorem DelsAt.below {w W : World} {a : Option Addr} {n : Nat} {ds : List Int} (h : DelsAt w a n ds) (hB : Below w.heap.size w W) : DelsAt W a n ds := by
  obtain ⟨hl, hr, h | ⟨b, off, rfl, hlt, hc⟩⟩ := h
  · exact ⟨hl, hr, .inl h⟩
  · exact ⟨hl, hr, .inr ⟨b, off, rfl, Nat.lt_of_lt_of_le hlt hB.size, fun i hi => (hB.cell (p := ⟨b, off + i, none⟩) hlt).trans (hc i hi)⟩⟩

/-- What the registers hold, behind the first k items. -/
def regF (its : List Item) (k : Nat) : ByteArray → Option Value := onKeys fun j => (stTo its k j).map regV

theorem regF_zero (its : List Item) : regF its 0 = fun _ => none := onKeys_none
theorem regF_step (its : List Item) (k : Nat) : regF its (k + 1) = fun s => if s = keyS (ix (itemAt its k).1) then some (regV (itemAt its k).2) else regF its k s := by
  refine onKeys_set (ix_lt _) ?_ ?_
  · simp [stTo]
  · intro i hi
    simp only [stTo]
    rw [if_neg (fun h => hi h.symm)]

theorem keyS_le (j : Nat) : (keyS j).size ≤ maxLen := by rw [keyS_size]; unfold maxLen; omega

theorem Yba.info9 : (Yba.prog.info? 9).map (fun i => (i.zero, i.size, i.bytes)) = some (some (.string ⟨#[]⟩), 1, 16) := by kernel_rfl

/-- The row of keys that a slice of deletions has become. -/
def DlRow (w : World) (gd n : Nat) (ds : List Int) (k : Nat) : Prop := ∃ cur : Array Value, w.heap[gd]? = some (.cells cur 9 (0, 0)) ∧ cur.size = n ∧ ∀ i, i < k → cur[i]? = some (.string (keyS (ix (ds.getD i 0))))

theorem DlRow.lt {w : World} {gd n : Nat} {ds : List Int} {k : Nat} (h : DlRow w gd n ds k) : gd < w.heap.size := by
  obtain ⟨cur, h1, _⟩ := h
  exact (Array.getElem?_eq_some_iff.1 h1).1
theorem DlRow.stay {w w' : World} {gd n : Nat} {ds : List Int} {k : Nat} (h : DlRow w gd n ds k) (he : w'.heap[gd]? = w.heap[gd]?) : DlRow w' gd n ds k := by
  obtain ⟨cur, h1, h2⟩ := h
  exact ⟨cur, he.trans h1, h2⟩
theorem DlRow.room {w : World} {gd n : Nat} {ds : List Int} {k : Nat} (h : DlRow w gd n ds k) {j : Nat} (hj : j < n) : (∃ u, w.cell? ⟨gd, j, none⟩ = some u) ∧ w.frozen? ⟨gd, j, none⟩ = false := by
  obtain ⟨cur, h1, h2, _⟩ := h
  exact ⟨⟨cur[j]'(by omega), by simp [World.cell?, h1]⟩, by simp [World.frozen?, h1]⟩
theorem DlRow.step {w : World} {gd n : Nat} {ds : List Int} {k : Nat} (h : DlRow w gd n ds k) (hk : k < n) : DlRow (w.setCell ⟨gd, k, none⟩ (.string (keyS (ix (ds.getD k 0))))) gd n ds (k + 1) := by
  obtain ⟨cur, h1, h2, h3⟩ := h
  refine ⟨cur.setIfInBounds k (.string (keyS (ix (ds.getD k 0)))), heap_setCell_same h1, by simpa using h2, fun i hi => ?_⟩
  by_cases hik : i = k
  · subst hik; rw [Array.getElem?_setIfInBounds_self_of_lt (by omega)]
  · rw [Array.getElem?_setIfInBounds_ne (by omega)]; exact h3 i (by omega)

/-- The function value of the clock. -/
def clockV (B : Nat) : Value := .func (.func 9) #[] #[.pointer (some ⟨B + 1, 0, none⟩), .pointer (some ⟨B, 0, none⟩)]

/-- What zzs3990cbuild leaves. B: the heap's size when it began. -/
structure Built (w w' : World) (cb gd rb ni nd : Nat) (its : List Item) (ds : List Int) (cat : Bool) (ep pr : Int) (tv : Value) : Prop where
  below : Below w.heap.size w w'
  hbt : w'.heap[w.heap.size]? = some (.cells #[tv] 25 (0, 0))
  hbc : w'.heap[w.heap.size + 1]? = some (.cells #[.pointer (some ⟨cb, 0, none⟩)] 28 (0, 0))
  hM : MapFn w' (w.heap.size + 2) ni (regF its ni)
  o1 : w.heap.size + 2 < gd
  row : DlRow w' gd nd ds nd
  o2 : gd < rb
  rep : RepBlk w' rb (clockV w.heap.size) 0 ep pr 0 0 (w.heap.size + 2) cat (.slice (some ⟨gd, 0, none⟩) nd nd)

def BuiltPost (w : World) (cb ni nd : Nat) (its : List Item) (ds : List Int) (cat : Bool) (ep pr : Int) (tv : Value) (e : Ending) (w' : World) : Prop :=
  ∃ gd rb, e = .returned (.pointer (some ⟨rb, 0, none⟩)) ∧ Built w w' cb gd rb ni nd its ds cat ep pr tv

theorem DlRow.made {w W : World} {n base : Nat} {ds : List Int} (h : W.ownsRow base 9 1 (.slice (some ⟨w.heap.size, 0, none⟩) 0 n) 0 []) : DlRow W w.heap.size n ds 0 := by
  obtain ⟨_, ⟨he, _⟩ | ⟨g', cap, cur, he, hb, hg, hn, hm, hs, ht⟩⟩ := h
  · simp at he
  · simp only [Value.slice.injEq, Option.some.injEq, Addr.mk.injEq, true_and, and_true] at he
    obtain ⟨rfl, rfl⟩ := he
    exact ⟨cur, hg, by simpa using hs, fun i hi => absurd hi (Nat.not_lt_zero _)⟩

theorem size_setCell (w : World) (a : Addr) (v : Value) : (w.setCell a v).heap.size = w.heap.size := by simp [World.setCell]
theorem heap_sa {w : World} {g k : Nat} {v : Value} {O : Obj} {q : Nat} (hq : q < w.heap.size) (hne : q ≠ g) : ((w.setCell ⟨g, k, none⟩ v).alloc O).heap[q]? = w.heap[q]? := by
  rw [Below.heap_alloc _ _ _ (by rw [size_setCell]; exact hq), Below.heap_setCell _ _ _ _ hne]

set_option maxHeartbeats 2000000 in
set_option maxRecDepth 100000 in
theorem build5 (ai : Option Addr) (ni ci : Nat) (its : List Item) (ad : Option Addr) (nd cd : Nat) (ds : List Int) (cat : Bool) (ep pr : Int) (at_ : Option Addr) (nt ct : Nat) (cb : Nat) (w : World)
    (hni : ni ≤ 4096) (hnd : nd ≤ 4096) (hI : ItemsAt w ai ni its) (hD : DelsAt w ad nd ds) :
    Calls Yba.prog 5 #[.slice ai ni ci, .slice ad nd cd, .bool cat, .int .u64 ep, .int .u64 pr, .slice at_ nt ct, .pointer (some ⟨cb, 0, none⟩)] w (BuiltPost w cb ni nd its ds cat ep pr (.slice at_ nt ct)) := by
  have hmm := @run_makeMap Yba.prog
  obtain ⟨i9, hi, hz0, hz1, hz2⟩ := info_parts Yba.info9
  have hmf : ∀ (fn : Fn) (first cap : Array Value) (w : World), (Instr.makeFunc fn first cap).run Yba.prog w = .ok (.func fn first cap) w := fun _ _ _ _ => rfl
  go_enter Yba.func5, Yba.ntmps5
  go_wp2
  go_loopw [25] (fun i wr => ∃ k : Nat, k ≤ ni ∧ i = .int .i64 k ∧ Below w.heap.size w wr ∧ wr.heap[w.heap.size]? = some (.cells #[.slice at_ nt ct] 25 (0, 0)) ∧ wr.heap[w.heap.size + 1]? = some (.cells #[.pointer (some ⟨cb, 0, none⟩)] 28 (0, 0)) ∧ MapFn wr (w.heap.size + 2) k (regF its k)) (fun i _ => ni - (intOf i).toNat)
  case atStart =>
    refine ⟨0, Nat.zero_le _, rfl, (((Below.refl _ _).alloc (Nat.le_refl _) _).alloc (by simp) _).alloc (by simp; omega) _, ?_, ?_, ?_⟩
    · rw [Below.heap_alloc _ _ _ (by simp; omega), Below.heap_alloc _ _ _ (by simp)]; exact heap_alloc_new _ _
    · rw [Below.heap_alloc _ _ _ (by simp)]
      have := heap_alloc_new (w.alloc (.cells #[.slice at_ nt ct] 25)) (.cells #[.pointer (some ⟨cb, 0, none⟩)] 28)
      rw [World.size_alloc] at this
      exact this
    · rw [regF_zero]
      have := MapFn.made ((w.alloc (.cells #[.slice at_ nt ct] 25)).alloc (.cells #[.pointer (some ⟨cb, 0, none⟩)] 28))
      rw [World.size_alloc, World.size_alloc] at this
      exact this
  case round =>
    obtain ⟨k, hk, rfl, hB, hbt, hbc, hM⟩ := hrel
    by_cases hlt : k < ni
    · obtain ⟨b, off, rfl, hb, hc0, hc1, hc2⟩ := hI.pos hB hlt
      obtain ⟨hr0, hr1⟩ := hI.2.1 k hlt
      have hMlt := hM.lt
      have hM1 : MapFn (wr.alloc (.cells #[.int .u8 (itemAt its k).1, .int .u64 (itemAt its k).2.1, .bool (itemAt its k).2.2] 87)).drew (w.heap.size + 2) k (regF its k) := hM.stay (Below.heap_alloc _ _ _ hMlt)
      obtain ⟨w1, hrun, hM2, hg1, hs1⟩ := hM1.update Yba.underlying79 (by unfold maxLen; omega) (keyS_le (ix (itemAt its k).1)) (regV (itemAt its k).2)
      have HM := hidE hM2
      have HR := hidE (regF_step its k)
      have HG := hidE (And.intro hg1 (And.intro hbt hbc))
      clear hM hM1 hM2 hg1 hI hD hbt hbc
      generalize itemAt its k = it at *
      obtain ⟨K, S, Dl⟩ := it
      simp only [regV] at *
      go_wp2
      go_region_with (go_at_call 8; refine (key8 _ _ hr0 hr1).mono ?_; rintro e w' ⟨rfl, rfl⟩)
      all_goals go_wp2
      all_goals
        go_roundw
        case rel =>
          have hblk : ∀ q, q < wr.heap.size → q ≠ w.heap.size + 2 → w1.heap[q]? = wr.heap[q]? := fun q hq hne => (HG.out.1.block q (by show q < (wr.alloc _).heap.size; simp; omega) (by intro he; simp at he; exact hne he)).trans (Below.heap_alloc _ _ _ hq)
          refine ⟨k + 1, by omega, by go_num, (hB.alloc hB.size _).drew.grown HG.out.1 (by show _ ≤ (wr.alloc _).heap.size; simp; omega) (by intro q hq; cases hq; omega), ?_, ?_, ?_⟩
          · rw [hblk _ (by omega) (by omega)]; exact HG.out.2.1
          · rw [hblk _ (by omega) (by omega)]; exact HG.out.2.2
          · rw [HR.out]; exact HM.out
        case measure => simp [intOf]; omega
    · have he : ni = k := by omega
      subst he
      have hMlt := hM.lt
      have hBs := hB.size
      clear hlt hk
      go_wp2_with (at_make; refine wpList_make_own _ rfl _ _ 80 rfl (w.heap.size + 3) 9 i9 _ 1 Yba.underlying80 hi hz0 hz1 .i64 .i64 _ nd rfl rfl rfl ?qa ?qb ?qc ?_)
      case qa => rw [hz2]; omega
      case qb => unfold maxLen; omega
      case qc => omega
      intro wa howna hga
      have hRa := DlRow.made (ds := ds) howna
      have hBa : Below w.heap.size w wa := hB.grown hga hBs (fun k hk => by cases hk)
      have hbta : wa.heap[w.heap.size]? = some (.cells #[.slice at_ nt ct] 25 (0, 0)) := (hga.block _ (by omega) (by simp)).trans hbt
      have hbca : wa.heap[w.heap.size + 1]? = some (.cells #[.pointer (some ⟨cb, 0, none⟩)] 28 (0, 0)) := (hga.block _ (by omega) (by simp)).trans hbc
      have hMa : MapFn wa (w.heap.size + 2) ni (regF its ni) := hM.stay (hga.block _ hMlt (by simp))
      have hg3 : w.heap.size + 2 < wr.heap.size := hMlt
      generalize wr.heap.size = gd at *
      clear howna hga hB hbt hbc hM hMlt hBs
      go_wp2
      go_loopw [18, 45] (fun dv i wr => ∃ k : Nat, k ≤ nd ∧ i = .int .i64 k ∧ dv = .slice (some ⟨gd, 0, none⟩) k nd ∧ Below w.heap.size w wr ∧ wr.heap[w.heap.size]? = some (.cells #[.slice at_ nt ct] 25 (0, 0)) ∧ wr.heap[w.heap.size + 1]? = some (.cells #[.pointer (some ⟨cb, 0, none⟩)] 28 (0, 0)) ∧ MapFn wr (w.heap.size + 2) ni (regF its ni) ∧ DlRow wr gd nd ds k) (fun _ i _ => nd - (intOf i).toNat)
      case atStart => exact ⟨0, Nat.zero_le _, rfl, rfl, hBa, hbta, hbca, hMa, hRa⟩
      case round =>
        clear hBa hbta hbca hMa hRa
        obtain ⟨k, hk, rfl, rfl, hB, hbt, hbc, hM, hR⟩ := hrel
        by_cases hlt : k < nd
        · obtain ⟨b, off, rfl, hb, hc0⟩ := hD.pos hB hlt
          obtain ⟨hr0, hr1⟩ := hD.2.1 k hlt
          obtain ⟨hrc, hrf⟩ := hR.room hlt
          have hRlt := hR.lt
          have HS := hidE (hR.step hlt)
          have HX := hidE (And.intro hbt (And.intro hbc hM))
          clear hbt hbc hM hR hD hI
          generalize ds.getD k 0 = d at *
          go_wp2_with fail
          refine (key8 d _ hr0 hr1).mono ?_
          rintro e w' ⟨rfl, hw'⟩
          subst hw'
          go_wp2_with (at_builtin; refine wpList_append_room1 _ rfl _ _ 80 rfl 9 i9 Yba.underlying80 hi hz1 gd k nd rfl ⟨w'.heap.size, 0, none⟩ (.string (keyS (ix d))) rfl ?qa ?qb ?qc ?qd ?qe ?_)
          case qa => rw [World.cell?_alloc_at _ _ _ _ rfl]; rfl
          case qb => rfl
          case qc => omega
          case qd => rw [World.cell?_alloc_past _ _ _ hRlt]; exact hrc
          case qe => rw [World.frozen?_of_block (w := w') (Below.heap_alloc _ _ _ hRlt)]; exact hrf
          go_wp2
          go_roundw
          case rel =>
            have hBs := hB.size
            refine ⟨k + 1, by omega, by go_num, rfl, (hB.setCell (by simp; omega) _).alloc (by rw [size_setCell]; exact hBs) _, ?_, ?_, ?_, ?_⟩
            · rw [heap_sa (by omega) (by omega)]; exact HX.out.1
            · rw [heap_sa (by omega) (by omega)]; exact HX.out.2.1
            · exact HX.out.2.2.stay (heap_sa (by omega) (by omega))
            · exact HS.out.stay (Below.heap_alloc _ _ _ (by rw [size_setCell]; exact hRlt))
          case measure => simp [intOf]; omega
        · have he : nd = k := by omega
          subst he
          have hRlt := hR.lt
          have HX := hidE (And.intro hB (And.intro hbt (And.intro hbc (And.intro hM hR))))
          clear hB hbt hbc hM hR hD hI
          go_wp2
          go_ret
          have hBs := HX.out.1.size
          refine ⟨gd, wr.heap.size, rfl, ⟨HX.out.1.alloc hBs _, ?_, ?_, ?_, hg3, ?_, hRlt, ?_⟩⟩
          · rw [Below.heap_alloc _ _ _ (by omega)]; exact HX.out.2.1
          · rw [Below.heap_alloc _ _ _ (by omega)]; exact HX.out.2.2.1
          · exact HX.out.2.2.2.1.stay (Below.heap_alloc _ _ _ (by omega))
          · exact HX.out.2.2.2.2.stay (Below.heap_alloc _ _ _ hRlt)
          · exact heap_alloc_new _ _

end Go.Proofs.Ybulkcdpm
