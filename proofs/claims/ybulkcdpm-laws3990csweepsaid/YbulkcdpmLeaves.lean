/-
  Contracts of the leaves: zzs3990ckey (8), the clock (9), age (15), Epochs (11).
-/
import Derived.Test.YbulkcdpmBase
namespace Go.Proofs.Ybulkcdpm
open Go.RowKit Go.MuLone

theorem key_cut : ∀ j, j < 8 → (({ data := #[97, 98, 99, 100, 101, 102, 103, 104] } : ByteArray).extract j (j + 1)) = keyS j := by
  intro j hj
  match j, hj with
  | 0, _ => rfl
  | 1, _ => rfl
  | 2, _ => rfl
  | 3, _ => rfl
  | 4, _ => rfl
  | 5, _ => rfl
  | 6, _ => rfl
  | 7, _ => rfl

set_option maxHeartbeats 400000 in
theorem key8 (n : Int) (w : World) (h0 : 0 ≤ n) (h1 : n ≤ 255) :
    Calls Yba.prog 8 #[.int .u8 n] w fun e w' => e = .returned (.string (keyS (ix n))) ∧ w' = w := by
  have hk : ({ data := #[97, 98, 99, 100, 101, 102, 103, 104] } : ByteArray).extract (n % 8).toNat (n % 8 + 1).toNat = keyS (ix n) := by
    rw [show (n % 8 + 1).toNat = ix n + 1 by unfold ix; omega]
    exact key_cut (ix n) (ix_lt n)
  have HK := hidE hk
  clear hk
  go_enter Yba.func8, Yba.ntmps8
  go_wp2
  go_ret
  exact ⟨by rw [← HK.out]; rfl, rfl⟩

/-- The ticks. -/
def TicksAt (w : World) (a : Option Addr) (n : Nat) (ts : List Int) : Prop :=
  ts.length = n ∧ (n = 0 ∨ ∃ b off, a = some ⟨b, off, none⟩ ∧ b < w.heap.size ∧ ∀ i, i < n → w.cell? ⟨b, off + i, none⟩ = some (.int .i64 (ts.getD i 0)))
def tickAt (ts : List Int) (n k : Nat) : Int := if k < n then ts.getD k 0 else 0

theorem TicksAt.below {w W : World} {a : Option Addr} {n : Nat} {ts : List Int} (h : TicksAt w a n ts) (hB : Below w.heap.size w W) : TicksAt W a n ts := by
  obtain ⟨hl, h | ⟨b, off, rfl, hlt, hc⟩⟩ := h
  · exact ⟨hl, .inl h⟩
  · exact ⟨hl, .inr ⟨b, off, rfl, Nat.lt_of_lt_of_le hlt hB.size, fun i hi => (hB.cell (p := ⟨b, off + i, none⟩) hlt).trans (hc i hi)⟩⟩

/-- What the clock reads: the pointer to the count, the count, the ticks' slice; the ticks lie below the count. -/
structure ClockAt (w : World) (cb bc bt : Nat) (k : Nat) (a : Option Addr) (n c : Nat) (ts : List Int) : Prop where
  hcb : w.heap[cb]? = some (.cells #[.int .i64 (k : Int)] 3 (0, 0))
  hbc : w.heap[bc]? = some (.cells #[.pointer (some ⟨cb, 0, none⟩)] 28 (0, 0))
  hbt : w.heap[bt]? = some (.cells #[.slice a n c] 25 (0, 0))
  ne : cb < bc ∧ cb < bt
  len : ts.length = n
  tk : n = 0 ∨ ∃ b off, a = some ⟨b, off, none⟩ ∧ b < cb ∧ ∀ i, i < n → w.cell? ⟨b, off + i, none⟩ = some (.int .i64 (ts.getD i 0))

theorem heap_setCell_same {w : World} {b o : Nat} {v : Value} {cur : Array Value} {e : TypeId} {fr : Nat × Nat} (h : w.heap[b]? = some (.cells cur e fr)) : (w.setCell ⟨b, o, none⟩ v).heap[b]? = some (.cells (cur.setIfInBounds o v) e fr) := by
  simp [World.setCell, Array.getElem?_modify, h]

set_option maxHeartbeats 400000 in
theorem clock9 (cb bc bt k : Nat) (a : Option Addr) (n c : Nat) (ts : List Int) (w : World) (hk : k ≤ 4096) (h : ClockAt w cb bc bt k a n c ts) :
    Calls Yba.prog 9 #[.pointer (some ⟨bc, 0, none⟩), .pointer (some ⟨bt, 0, none⟩)] w fun e w' => e = .returned (.int .i64 (tickAt ts n k)) ∧ w' = w.setCell ⟨cb, 0, none⟩ (.int .i64 ((k : Int) + 1)) := by
  obtain ⟨hcb, hbc, hbt, ⟨hne1, hne2⟩, hl, htk⟩ := h
  have c0 : w.cell? ⟨cb, 0, none⟩ = some (.int .i64 (k : Int)) := by simp [World.cell?, hcb]
  have f0 : w.frozen? ⟨cb, 0, none⟩ = false := by simp [World.frozen?, hcb]
  have c1 : w.cell? ⟨bc, 0, none⟩ = some (.pointer (some ⟨cb, 0, none⟩)) := by simp [World.cell?, hbc]
  have c2 : w.cell? ⟨bt, 0, none⟩ = some (.slice a n c) := by simp [World.cell?, hbt]
  have c3 : ∀ v, (w.setCell ⟨cb, 0, none⟩ v).cell? ⟨bt, 0, none⟩ = some (.slice a n c) := fun v => (World.cell?_setCell_other _ _ _ _ (by simp <;> omega)).trans c2
  have c4 : ∀ v, (w.setCell ⟨cb, 0, none⟩ v).cell? ⟨bc, 0, none⟩ = some (.pointer (some ⟨cb, 0, none⟩)) := fun v => (World.cell?_setCell_other _ _ _ _ (by simp <;> omega)).trans c1
  clear hcb hbc hbt
  by_cases hlt : k < n
  · obtain ⟨b, off, rfl, hb, hc⟩ : ∃ b off, a = some ⟨b, off, none⟩ ∧ b < cb ∧ ∀ i, i < n → w.cell? ⟨b, off + i, none⟩ = some (.int .i64 (ts.getD i 0)) := by
      rcases htk with h | h
      · omega
      · exact h
    have c5 : ∀ v, (w.setCell ⟨cb, 0, none⟩ v).cell? ⟨b, off + k, none⟩ = some (.int .i64 (ts.getD k 0)) := fun v => (World.cell?_setCell_other _ _ _ _ (by simp <;> omega)).trans (hc k hlt)
    have HT := hidE (show tickAt ts n k = ts.getD k 0 from if_pos hlt)
    clear hc htk
    generalize ts.getD k 0 = t at *
    go_enter Yba.func9, Yba.ntmps9
    go_wp2
    go_ret
    exact ⟨by rw [HT.out]; rfl, rfl⟩
  · have HT := hidE (show tickAt ts n k = 0 from if_neg hlt)
    clear htk
    go_enter Yba.func9, Yba.ntmps9
    go_wp2
    go_ret
    exact ⟨by rw [HT.out]; rfl, rfl⟩

/-- The replica's cells. -/
def repArr (fn : Value) (mu ep pr x1 x4 : Int) (m : Nat) (cat : Bool) (dl : Value) : Array Value :=
  #[fn, .int .u64 0, .nilIface, .nilIface, .int .i32 0, .int .u32 0, .int .u32 0, .int .u32 0, .int .i32 0, .int .i32 0, .int .i32 0, .int .u32 0, .int .i32 mu, .int .u32 0, .int .u64 ep, .int .u64 pr,
    .int .u64 0, .int .u64 x1, .map none, .map none, .int .i64 x4, .map (some m), .slice none 0 0, .int .u64 0, .bool cat, dl, .int .i64 0, .nilFunc, .slice none 0 0]

def RepBlk (w : World) (rb : Nat) (fn : Value) (mu ep pr x1 x4 : Int) (m : Nat) (cat : Bool) (dl : Value) : Prop := w.heap[rb]? = some (.cells (repArr fn mu ep pr x1 x4 m cat dl) 84 (0, 0))

theorem RepBlk.lt {w : World} {rb : Nat} {fn : Value} {mu ep pr x1 x4 : Int} {m : Nat} {cat : Bool} {dl : Value} (h : RepBlk w rb fn mu ep pr x1 x4 m cat dl) : rb < w.heap.size := (Array.getElem?_eq_some_iff.1 h).1
theorem RepBlk.cell {w : World} {rb : Nat} {fn : Value} {mu ep pr x1 x4 : Int} {m : Nat} {cat : Bool} {dl : Value} (h : RepBlk w rb fn mu ep pr x1 x4 m cat dl) (o : Nat) : w.cell? ⟨rb, o, none⟩ = (repArr fn mu ep pr x1 x4 m cat dl)[o]? := by
  unfold RepBlk at h
  simp [World.cell?, h]
theorem RepBlk.frozen {w : World} {rb : Nat} {fn : Value} {mu ep pr x1 x4 : Int} {m : Nat} {cat : Bool} {dl : Value} (h : RepBlk w rb fn mu ep pr x1 x4 m cat dl) (o : Nat) : w.frozen? ⟨rb, o, none⟩ = false := by
  unfold RepBlk at h
  simp [World.frozen?, h]
theorem RepBlk.setMu {w : World} {rb : Nat} {fn : Value} {mu ep pr x1 x4 : Int} {m : Nat} {cat : Bool} {dl : Value} (h : RepBlk w rb fn mu ep pr x1 x4 m cat dl) (mu' : Int) : RepBlk (w.setCell ⟨rb, 12, none⟩ (.int .i32 mu')) rb fn mu' ep pr x1 x4 m cat dl := heap_setCell_same h
theorem RepBlk.setDl {w : World} {rb : Nat} {fn : Value} {mu ep pr x1 x4 : Int} {m : Nat} {cat : Bool} {dl : Value} (h : RepBlk w rb fn mu ep pr x1 x4 m cat dl) (dl' : Value) : RepBlk (w.setCell ⟨rb, 25, none⟩ dl') rb fn mu ep pr x1 x4 m cat dl' := heap_setCell_same h

/-- What 'age' leaves. -/
def Aged (w : World) (rb : Nat) (fn : Value) (mu ep pr : Int) (m : Nat) (cat : Bool) (dl : Value) (e : Ending) (w' : World) : Prop :=
  e = .returned (.tuple #[]) ∧ (∃ x1 x4, RepBlk w' rb fn mu ep pr x1 x4 m cat dl) ∧ w.grownBy w' (some rb) ∧ w'.heap.size = w.heap.size

theorem grownBy_setCell (w : World) (b o : Nat) (v : Value) : w.grownBy (w.setCell ⟨b, o, none⟩ v) (some b) :=
  ⟨rfl, rfl, rfl, by simp [World.setCell], fun k _ hk => Below.heap_setCell _ _ _ _ (fun e => hk (by rw [e]))⟩
theorem grownBy_refl (w : World) (row : Option Nat) : w.grownBy w row := ⟨rfl, rfl, rfl, Nat.le_refl _, fun _ _ _ => rfl⟩
theorem grownBy_trans {a b c : World} {row : Option Nat} (h1 : a.grownBy b row) (h2 : b.grownBy c row) : a.grownBy c row :=
  ⟨h2.os.trans h1.os, h2.tape.trans h1.tape, h2.output.trans h1.output, Nat.le_trans h1.size h2.size, fun k hk hr => (h2.block k (Nat.lt_of_lt_of_le hk h1.size) hr).trans (h1.block k hk hr)⟩

set_option maxHeartbeats 1000000 in
theorem age15 (rb : Nat) (fn : Value) (mu ep pr : Int) (m : Nat) (cat : Bool) (dl : Value) (ep' now : Int) (w : World) (h : RepBlk w rb fn mu ep pr 0 0 m cat dl) :
    Calls Yba.prog 15 #[.pointer (some ⟨rb, 16, none⟩), .int .u64 ep', .int .i64 now] w (Aged w rb fn mu ep pr m cat dl) := by
  have HH := hidE h
  have c16 : w.cell? ⟨rb, 16, none⟩ = some (.int .u64 0) := h.cell 16
  have c17 : w.cell? ⟨rb, 17, none⟩ = some (.int .u64 0) := h.cell 17
  have c18 : w.cell? ⟨rb, 18, none⟩ = some (.map none) := h.cell 18
  have c19 : w.cell? ⟨rb, 19, none⟩ = some (.map none) := h.cell 19
  have c20 : w.cell? ⟨rb, 20, none⟩ = some (.int .i64 0) := h.cell 20
  have g16 : w.frozen? ⟨rb, 16, none⟩ = false := h.frozen 16
  have g17 : w.frozen? ⟨rb, 17, none⟩ = false := h.frozen 17
  have g18 : w.frozen? ⟨rb, 18, none⟩ = false := h.frozen 18
  have g19 : w.frozen? ⟨rb, 19, none⟩ = false := h.frozen 19
  have g20 : w.frozen? ⟨rb, 20, none⟩ = false := h.frozen 20
  clear h
  go_enter Yba.func15, Yba.ntmps15
  go_wp2
  · refine bodyPost_ret (results_none rfl _ _ _) rfl ?_
    exact ⟨rfl, ⟨0, 0, HH.out⟩, grownBy_refl _ _, rfl⟩
  · go_end0
    refine ⟨rfl, ⟨ep', now, ?_⟩, ?_, by simp [World.setCell]⟩
    · exact heap_setCell_same (heap_setCell_same (heap_setCell_same (heap_setCell_same (heap_setCell_same HH.out))))
    · exact grownBy_trans (grownBy_trans (grownBy_trans (grownBy_trans (grownBy_setCell _ _ _ _) (grownBy_setCell _ _ _ _)) (grownBy_setCell _ _ _ _)) (grownBy_setCell _ _ _ _)) (grownBy_setCell _ _ _ _)

set_option maxHeartbeats 1000000 in
theorem epochs11 (rb : Nat) (fn : Value) (ep pr x1 x4 : Int) (m : Nat) (cat : Bool) (dl : Value) (w : World) (h : RepBlk w rb fn 0 ep pr x1 x4 m cat dl) :
    Calls Yba.prog 11 #[.pointer (some ⟨rb, 0, none⟩)] w fun e w' => e = .returned (.agg #[.int .u64 ep, .int .u64 pr]) ∧ RepBlk w' rb fn 0 ep pr x1 x4 m cat dl ∧ w.grownBy w' (some rb) := by
  have hlt := h.lt
  have c12 : w.cell? ⟨rb, 12, none⟩ = some (.int .i32 0) := h.cell 12
  have g12 : w.frozen? ⟨rb, 12, none⟩ = false := h.frozen 12
  have c14 : w.cell? ⟨rb, 14, none⟩ = some (.int .u64 ep) := h.cell 14
  have c15 : w.cell? ⟨rb, 15, none⟩ = some (.int .u64 pr) := h.cell 15
  have HH := hidE h
  clear h
  go_enter_defers Yba.func11, Yba.ntmps11
  go_wp2_with fail
  have hA : RepBlk (w.alloc (.cells #[.int .u64 0, .int .u64 0] 57)) rb fn 0 ep pr x1 x4 m cat dl := (Below.heap_alloc _ _ _ hlt).trans HH.out
  refine (lock_free muLib ⟨rb, 12, none⟩ _ (hA.cell 12) (hA.frozen 12)).mono ?_
  rintro e w1 ⟨rfl, hw1⟩
  have h1 : RepBlk w1 rb fn 1 ep pr x1 x4 m cat dl := by rw [hw1]; exact hA.setMu 1
  have hres : w1.heap[w.heap.size]? = some (.cells #[.int .u64 0, .int .u64 0] 57 (0, 0)) := by
    rw [hw1, Below.heap_setCell _ _ _ _ (by simp; omega)]; exact heap_alloc_new _ _
  have hg1 : w.grownBy w1 (some rb) := by rw [hw1]; exact grownBy_trans (World.grownBy_alloc _ _ _) (grownBy_setCell _ _ _ _)
  clear hw1 hA c12 g12 c14 c15 HH
  have c14 : w1.cell? ⟨rb, 14, none⟩ = some (.int .u64 ep) := h1.cell 14
  have c15 : w1.cell? ⟨rb, 15, none⟩ = some (.int .u64 pr) := h1.cell 15
  have r0 : w1.cell? ⟨w.heap.size, 0, none⟩ = some (.int .u64 0) := by simp [World.cell?, hres]
  have r1 : w1.cell? ⟨w.heap.size, 1, none⟩ = some (.int .u64 0) := by simp [World.cell?, hres]
  have q0 : w1.frozen? ⟨w.heap.size, 0, none⟩ = false := by simp [World.frozen?, hres]
  have q1 : w1.frozen? ⟨w.heap.size, 1, none⟩ = false := by simp [World.frozen?, hres]
  have H1 := hidE h1
  clear h1 hres
  go_wp2_with fail
  have h2 : RepBlk ((w1.setCell ⟨w.heap.size, 0, none⟩ (.int .u64 ep)).setCell ⟨w.heap.size, 1, none⟩ (.int .u64 pr)) rb fn 1 ep pr x1 x4 m cat dl := by
    unfold RepBlk
    rw [Below.heap_setCell _ _ _ _ (by simp; omega), Below.heap_setCell _ _ _ _ (by simp; omega)]
    exact H1.out
  have hg2 : w1.grownBy ((w1.setCell ⟨w.heap.size, 0, none⟩ (.int .u64 ep)).setCell ⟨w.heap.size, 1, none⟩ (.int .u64 pr)) (some w.heap.size) := grownBy_trans (grownBy_setCell _ _ _ _) (grownBy_setCell _ _ _ _)
  have d0 : ((w1.setCell ⟨w.heap.size, 0, none⟩ (.int .u64 ep)).setCell ⟨w.heap.size, 1, none⟩ (.int .u64 pr)).cell? ⟨w.heap.size, 0, none⟩ = some (.int .u64 ep) :=
    (World.cell?_setCell_other _ _ _ _ (by simp)).trans (World.cell?_setCell_same _ _ _ r0)
  have d1 : ((w1.setCell ⟨w.heap.size, 0, none⟩ (.int .u64 ep)).setCell ⟨w.heap.size, 1, none⟩ (.int .u64 pr)).cell? ⟨w.heap.size, 1, none⟩ = some (.int .u64 pr) :=
    World.cell?_setCell_same _ _ _ ((World.cell?_setCell_other _ _ _ _ (by simp)).trans r1)
  generalize ((w1.setCell ⟨w.heap.size, 0, none⟩ (.int .u64 ep)).setCell ⟨w.heap.size, 1, none⟩ (.int .u64 pr)) = w2 at *
  clear c14 c15 r0 r1 q0 q1 H1
  refine leaves_cons (f := 14) (args := #[.pointer (some ⟨rb, 12, none⟩)]) (by simp) (by simp [go_sem]) ?_
  refine (unlock_deferred muLib ⟨rb, 12, none⟩ .returning _ (h2.cell 12) (h2.frozen 12)).mono ?_
  rintro e u' w3 ⟨rfl, rfl, hw3⟩
  have e0 : w3.cell? ⟨w.heap.size, 0, none⟩ = some (.int .u64 ep) := by rw [hw3]; exact (World.cell?_setCell_other _ _ _ _ (by simp)).trans d0
  have e1 : w3.cell? ⟨w.heap.size, 1, none⟩ = some (.int .u64 pr) := by rw [hw3]; exact (World.cell?_setCell_other _ _ _ _ (by simp)).trans d1
  have h3 : RepBlk w3 rb fn 0 ep pr x1 x4 m cat dl := by rw [hw3]; exact h2.setMu 0
  have hg3 : w.grownBy w3 (some rb) := by
    rw [hw3]
    refine grownBy_trans ?_ (grownBy_setCell _ _ _ _)
    exact ⟨hg2.os.trans hg1.os, hg2.tape.trans hg1.tape, hg2.output.trans hg1.output, Nat.le_trans hg1.size hg2.size, fun k hk hr => (hg2.block k (Nat.lt_of_lt_of_le hk hg1.size) (by intro he; simp at he; omega)).trans (hg1.block k hk hr)⟩
  clear hw3 d0 d1 h2 hg1 hg2
  refine ⟨.agg #[.int .u64 ep, .int .u64 pr], ?_, rfl, h3, hg3⟩
  simp [results, Yba.results11, go_sem, e0, e1]

end Go.Proofs.Ybulkcdpm
