/-
  'sweepable' (10): the replica that is catching up; what the walk of the other case ends in.
-/
import Derived.Test.YbulkcdpmSweepParts
import Derived.Deep.CutRange
import Derived.Deep.RegionHeld3
namespace Go.Proofs.Ybulkcdpm
open Go.RowKit Go.MuLone

/-- What a replica is, in memory. B: where the ticks' box lies; the count's pointer behind it, then the registers. -/
structure Repl (w : World) (cb B gd rb ni nd : Nat) (its : List Item) (ds : List Int) (cat : Bool) (ep pr x1 x4 : Int) (k : Nat) (at_ : Option Addr) (nt ct : Nat) (ts : List Int) (dl : Value) : Prop where
  o0 : cb < B
  o1 : B + 2 < gd
  o2 : gd < rb
  rep : RepBlk w rb (clockV B) 0 ep pr x1 x4 (B + 2) cat dl
  clk : ClockAt w cb (B + 1) B k at_ nt ct ts
  regs : MapFn w (B + 2) ni (regF its ni)

set_option maxHeartbeats 1000000 in
theorem sweepable_catching (cb B gd rb ni nd : Nat) (its : List Item) (ds : List Int) (ep pr x1 x4 : Int) (k : Nat) (at_ : Option Addr) (nt ct : Nat) (ts : List Int) (dl : Value) (w : World) (h : Repl w cb B gd rb ni nd its ds true ep pr x1 x4 k at_ nt ct ts dl) :
    Calls Yba.prog 10 #[.pointer (some ⟨rb, 0, none⟩)] w fun e w' => e = .returned (.slice none 0 0) ∧ RepBlk w' rb (clockV B) 0 ep pr x1 x4 (B + 2) true dl ∧ Keep (fun q => q = rb) w w' := by
  have hrep := h.rep
  clear h
  have HH := hidE hrep
  have c12 := hrep.cell 12
  have g12 := hrep.frozen 12
  clear hrep
  go_enter_defers Yba.func10, Yba.ntmps10
  go_wp2_with fail
  refine (lock_free muLib ⟨rb, 12, none⟩ _ c12 g12).mono ?_
  rintro e w1 ⟨rfl, hw1⟩
  have h1 : RepBlk w1 rb (clockV B) 1 ep pr x1 x4 (B + 2) true dl := by rw [hw1]; exact HH.out.setMu 1
  have hk1 : Keep (fun q => q = rb) w w1 := by rw [hw1]; exact (Keep.refl (fun q => q = rb) w).setCell (S := fun q => q = rb) rfl _
  have c24 : w1.cell? ⟨rb, 24, none⟩ = some (.bool true) := h1.cell 24
  have H1 := hidE h1
  clear hw1 c12 g12 HH h1
  go_wp2_with fail
  refine leaves_cons (f := 14) (args := #[.pointer (some ⟨rb, 12, none⟩)]) (by simp) (by simp [go_sem]) ?_
  refine (unlock_deferred muLib ⟨rb, 12, none⟩ .returning _ (H1.out.cell 12) (H1.out.frozen 12)).mono ?_
  rintro e u' w3 ⟨rfl, rfl, hw3⟩
  have h3 : RepBlk w3 rb (clockV B) 0 ep pr x1 x4 (B + 2) true dl := by rw [hw3]; exact H1.out.setMu 0
  have hk3 : Keep (fun q => q = rb) w w3 := by rw [hw3]; exact hk1.setCell (S := fun q => q = rb) rfl _
  exact ⟨_, results_tmp rfl _ _ _, rfl, h3, hk3⟩


theorem Yba.info52 : (Yba.prog.info? 52).map (fun i => (i.zero, i.size, i.bytes)) = some (some (.agg #[.string ⟨#[]⟩, .int .u64 0, .int .u64 0, .int .u64 0, .slice none 0 0, .bool false]), 6, 72) := by kernel_rfl

theorem ClockAt.drew {w : World} {cb bc bt k : Nat} {a : Option Addr} {n c : Nat} {ts : List Int} (h : ClockAt w cb bc bt k a n c ts) : ClockAt w.drew cb bc bt k a n c ts := ⟨h.hcb, h.hbc, h.hbt, h.ne, h.len, h.tk⟩

/-- The kept keys. -/
def KeptRow (w : World) (gd : Nat) (E : List Nat) : Prop := ∃ cur : Array Value, w.heap[gd]? = some (.cells cur 9 (0, 0)) ∧ ∀ i (hi : i < E.length), cur[i]? = some (.string (keyS E[i]))
theorem KeptRow.stay {w w' : World} {gd : Nat} {E : List Nat} (h : KeptRow w gd E) (he : w'.heap[gd]? = w.heap[gd]?) : KeptRow w' gd E := by
  obtain ⟨cur, h1, h2⟩ := h
  exact ⟨cur, he.trans h1, h2⟩

/-- What 'sweepable' leaves, the replica not catching up. -/
structure Swept (w w' : World) (cb B gd rb nd : Nat) (st : Nat → Option (Int × Bool)) (E : List Nat) (ep pr : Int) (at_ : Option Addr) (nt ct : Nat) (ts : List Int) (dv : Value) : Prop where
  rep : ∃ x1 x4, RepBlk w' rb (clockV B) 0 ep pr x1 x4 (B + 2) false (.slice (some ⟨gd, 0, none⟩) E.length nd)
  clk : ClockAt w' cb (B + 1) B 1 at_ nt ct ts
  row : KeptRow w' gd E
  own : w'.ownsRow w.heap.size 52 6 dv E.length (entCells st E)
  nil : E = [] → dv = .slice none 0 0
  keep : Keep (swS cb gd rb) w w'
def SweptPost (w : World) (cb B gd rb nd : Nat) (st : Nat → Option (Int × Bool)) (E : List Nat) (ep pr : Int) (at_ : Option Addr) (nt ct : Nat) (ts : List Int) (e : Ending) (w' : World) : Prop := ∃ dv, e = .returned dv ∧ Swept w w' cb B gd rb nd st E ep pr at_ nt ct ts dv

theorem ownsRow_base {w : World} {b b' : Nat} {e : TypeId} {size : Nat} {v : Value} {n : Nat} {xs : List Value} (h : w.ownsRow b e size v n xs) (hb : b' ≤ b) : w.ownsRow b' e size v n xs := by
  refine ⟨h.1, h.2.imp id fun ⟨g, cap, cur, h1, h2, h3⟩ => ⟨g, cap, cur, h1, Nat.le_trans hb h2, h3⟩⟩

theorem heap_setCells {b : Nat} {e : TypeId} {fr : Nat × Nat} : ∀ (vs : List Value) (o : Nat) (w : World) (cur : Array Value), w.heap[b]? = some (.cells cur e fr) →
    (∃ cur' : Array Value, (w.setCells b o vs).heap[b]? = some (.cells cur' e fr) ∧ ∀ i, i < o → cur'[i]? = cur[i]?) ∧ w.grownBy (w.setCells b o vs) (some b)
  | [], _, w, cur, h => ⟨⟨cur, h, fun _ _ => rfl⟩, grownBy_refl _ _⟩
  | v :: vs, o, w, cur, h => by
    obtain ⟨⟨cur', h1, h2⟩, h3⟩ := heap_setCells vs (o + 1) (w.setCell ⟨b, o, none⟩ v) (cur.setIfInBounds o v) (heap_setCell_same h)
    refine ⟨⟨cur', h1, fun i hi => ?_⟩, grownBy_trans (grownBy_setCell _ _ _ _) h3⟩
    rw [h2 i (by omega), Array.getElem?_setIfInBounds_ne (by omega)]

theorem zero9 (w : World) : (zeroValue 9).run Yba.prog w = .ok (.string ⟨#[]⟩) w := by kernel_rfl

theorem clear0 (a : Addr) (ty : TypeId) (w : World) : (Builtin.clear_ #[80] ty #[.slice (some a) 0 0]).run Yba.prog w = .ok (.tuple #[]) w := by
  simp [Builtin.clear_, run_underlying Yba.underlying80]

/-- 'clear(kept[len(kept):])' -/
theorem run_clear {W : World} {gd n : Nat} {ds : List Int} {E : List Nat} {k : Nat} (h : KRow W gd n ds E k) (hlt : E.length < n) : ∃ W', (∀ ty, (Builtin.clear_ #[80] ty #[.slice (some ⟨gd, E.length, none⟩) (n - E.length) (n - E.length)]).run Yba.prog W = .ok (.tuple #[]) W') ∧ KeptRow W' gd E ∧ W.grownBy W' (some gd) := by
  have hroom := fun {j : Nat} (hj : j < n) => h.room hj
  obtain ⟨cur, h1, h2, h3, _⟩ := h
  have hx := heap_setCells (b := gd) (e := 9) (fr := (0, 0)) (List.replicate (n - E.length) (.string ⟨#[]⟩)) E.length W cur h1
  obtain ⟨⟨cur', g1, g2⟩, g3⟩ := hx
  refine ⟨W.setCells gd E.length (List.replicate (n - E.length) (.string ⟨#[]⟩)), fun ty => ?_, ⟨cur', g1, fun i hi => (g2 i hi).trans (h3 i hi)⟩, g3⟩
  refine Lib.run_clear_slice W 80 9 ty (.string ⟨#[]⟩) Yba.underlying80 zero9 rfl rfl gd E.length (n - E.length) (n - E.length) (by omega) (fun j hj => ?_) (fun j hj => ?_)
  · obtain ⟨⟨u, hu⟩, _⟩ := hroom (j := E.length + j) (by omega)
    rw [hu]; rfl
  · exact (hroom (j := E.length + j) (by omega)).2

end Go.Proofs.Ybulkcdpm
