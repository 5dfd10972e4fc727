/-
  What the walk of zzs3990cmodel (7) carries.
-/
import Derived.Test.YbulkcdpmNew
import Derived.Maps.AppendAt
namespace Go.Proofs.Ybulkcdpm
open Go.RowKit Go.MuLone

/-- The cells of the states. -/
structure StIs (cur : Array Value) (st : Nat → Option (Int × Bool)) : Prop where
  size : cur.size = 24
  c0 : ∀ j, j < 8 → cur[j * 3]? = some (.bool (st j).isSome)
  c1 : ∀ j, j < 8 → cur[j * 3 + 1]? = some (.bool ((st j).getD (0, false)).2)
  c2 : ∀ j, j < 8 → cur[j * 3 + 2]? = some (.int .u64 (seqOf st j))

theorem StIs.set {cur : Array Value} {st st' : Nat → Option (Int × Bool)} (h : StIs cur st) {j : Nat} (hj : j < 8) {s : Int} {d : Bool} (h1 : st' j = some (s, d)) (h2 : ∀ i, i ≠ j → st' i = st i) :
    StIs (((cur.setIfInBounds (j * 3) (.bool true)).setIfInBounds (j * 3 + 1) (.bool d)).setIfInBounds (j * 3 + 2) (.int .u64 s)) st' := by
  have hs := h.size
  refine ⟨by simp [hs], fun i hi => ?_, fun i hi => ?_, fun i hi => ?_⟩
  · by_cases hij : i = j
    · subst hij
      rw [Array.getElem?_setIfInBounds_ne (by omega), Array.getElem?_setIfInBounds_ne (by omega), Array.getElem?_setIfInBounds_self_of_lt (by omega), h1]; rfl
    · rw [Array.getElem?_setIfInBounds_ne (by omega), Array.getElem?_setIfInBounds_ne (by omega), Array.getElem?_setIfInBounds_ne (by omega), h2 i hij]; exact h.c0 i hi
  · by_cases hij : i = j
    · subst hij
      rw [Array.getElem?_setIfInBounds_ne (by omega), Array.getElem?_setIfInBounds_self_of_lt (by simp; omega), h1]; rfl
    · rw [Array.getElem?_setIfInBounds_ne (by omega), Array.getElem?_setIfInBounds_ne (by omega), Array.getElem?_setIfInBounds_ne (by omega), h2 i hij]; exact h.c1 i hi
  · by_cases hij : i = j
    · subst hij
      rw [Array.getElem?_setIfInBounds_self_of_lt (by simp; omega)]
      simp [seqOf, h1]
    · rw [Array.getElem?_setIfInBounds_ne (by omega), Array.getElem?_setIfInBounds_ne (by omega), Array.getElem?_setIfInBounds_ne (by omega)]
      have := h.c2 i hi
      simpa [seqOf, h2 i hij] using this

theorem StIs.one {cur : Array Value} {st : Nat → Option (Int × Bool)} (h : StIs cur st) : cur.all (·.oneCell') = true := by
  rw [Array.all_eq_true]
  intro i hi
  have hs := h.size
  have hq : i = (i / 3) * 3 ∨ i = (i / 3) * 3 + 1 ∨ i = (i / 3) * 3 + 2 := by omega
  have h8 : i / 3 < 8 := by omega
  rcases hq with hq | hq | hq
  · have := h.c0 _ h8
    rw [← hq, Array.getElem?_eq_getElem hi] at this
    rw [Option.some.inj this]; rfl
  · have := h.c1 _ h8
    rw [← hq, Array.getElem?_eq_getElem hi] at this
    rw [Option.some.inj this]; rfl
  · have := h.c2 _ h8
    rw [← hq, Array.getElem?_eq_getElem hi] at this
    rw [Option.some.inj this]; rfl

def StRow (w : World) (b : Nat) (st : Nat → Option (Int × Bool)) : Prop := ∃ cur, w.heap[b]? = some (.cells cur 34 (0, 0)) ∧ StIs cur st
theorem StRow.lt {w : World} {b : Nat} {st : Nat → Option (Int × Bool)} (h : StRow w b st) : b < w.heap.size := by
  obtain ⟨cur, h1, _⟩ := h
  exact (Array.getElem?_eq_some_iff.1 h1).1
theorem StRow.stay {w w' : World} {b : Nat} {st : Nat → Option (Int × Bool)} (h : StRow w b st) (he : w'.heap[b]? = w.heap[b]?) : StRow w' b st := by
  obtain ⟨cur, h1, h2⟩ := h
  exact ⟨cur, he.trans h1, h2⟩
theorem StRow.read {w : World} {b : Nat} {st : Nat → Option (Int × Bool)} (h : StRow w b st) {j : Nat} (hj : j < 8) :
    w.cell? ⟨b, j * 3, none⟩ = some (.bool (st j).isSome) ∧ w.cell? ⟨b, j * 3 + 1, none⟩ = some (.bool ((st j).getD (0, false)).2) ∧ w.cell? ⟨b, j * 3 + 2, none⟩ = some (.int .u64 (seqOf st j)) := by
  obtain ⟨cur, h1, h2⟩ := h
  simp [World.cell?, h1, h2.c0 j hj, h2.c1 j hj, h2.c2 j hj]
theorem StRow.thaw {w : World} {b : Nat} {st : Nat → Option (Int × Bool)} (h : StRow w b st) (o : Nat) : w.frozen? ⟨b, o, none⟩ = false := by
  obtain ⟨cur, h1, h2⟩ := h
  simp [World.frozen?, h1]
theorem StRow.set {w : World} {b : Nat} {st st' : Nat → Option (Int × Bool)} (h : StRow w b st) {j : Nat} (hj : j < 8) {s : Int} {d : Bool} (h1 : st' j = some (s, d)) (h2 : ∀ i, i ≠ j → st' i = st i) :
    StRow (((w.setCell ⟨b, j * 3, none⟩ (.bool true)).setCell ⟨b, j * 3 + 1, none⟩ (.bool d)).setCell ⟨b, j * 3 + 2, none⟩ (.int .u64 s)) b st' := by
  obtain ⟨cur, g1, g2⟩ := h
  exact ⟨_, heap_setCell_same (heap_setCell_same (heap_setCell_same g1)), g2.set hj h1 h2⟩

def seenArr (E : List Nat) (cur : Array Value) : Prop := cur.size = 8 ∧ ∀ j, j < 8 → cur[j]? = some (.bool (E.contains j))
def SeenRow (w : World) (b : Nat) (E : List Nat) : Prop := ∃ cur, w.heap[b]? = some (.cells cur 91 (0, 0)) ∧ seenArr E cur
theorem SeenRow.lt {w : World} {b : Nat} {E : List Nat} (h : SeenRow w b E) : b < w.heap.size := by
  obtain ⟨cur, h1, _⟩ := h
  exact (Array.getElem?_eq_some_iff.1 h1).1
theorem SeenRow.stay {w w' : World} {b : Nat} {E : List Nat} (h : SeenRow w b E) (he : w'.heap[b]? = w.heap[b]?) : SeenRow w' b E := by
  obtain ⟨cur, h1, h2⟩ := h
  exact ⟨cur, he.trans h1, h2⟩
theorem SeenRow.read {w : World} {b : Nat} {E : List Nat} (h : SeenRow w b E) {j : Nat} (hj : j < 8) : w.cell? ⟨b, j, none⟩ = some (.bool (E.contains j)) := by
  obtain ⟨cur, h1, h2, h3⟩ := h
  simp [World.cell?, h1, h3 j hj]
theorem SeenRow.thaw {w : World} {b : Nat} {E : List Nat} (h : SeenRow w b E) (o : Nat) : w.frozen? ⟨b, o, none⟩ = false := by
  obtain ⟨cur, h1, h2⟩ := h
  simp [World.frozen?, h1]
theorem SeenRow.set {w : World} {b : Nat} {E : List Nat} (h : SeenRow w b E) {j : Nat} (hj : j < 8) : SeenRow (w.setCell ⟨b, j, none⟩ (.bool true)) b (E ++ [j]) := by
  obtain ⟨cur, h1, h2, h3⟩ := h
  refine ⟨_, heap_setCell_same h1, by simpa using h2, fun i hi => ?_⟩
  by_cases hij : j = i
  · subst hij
    rw [Array.getElem?_setIfInBounds_self_of_lt (by omega)]
    simp
  · rw [Array.getElem?_setIfInBounds_ne hij, h3 i hi]
    simp [show ¬ i = j from fun e => hij e.symm]

theorem Yba.info3 : (Yba.prog.info? 3).map (fun i => (i.zero, i.size, i.bytes)) = some (some (.int .i64 0), 1, 8) := by kernel_rfl

def expV (E : List Nat) : List Value := E.map fun (j : Nat) => Value.int .i64 (j : Int)

theorem forall8 {p : Nat → Prop} (h0 : p 0) (h1 : p 1) (h2 : p 2) (h3 : p 3) (h4 : p 4) (h5 : p 5) (h6 : p 6) (h7 : p 7) : ∀ j, j < 8 → p j
  | 0, _ => h0
  | 1, _ => h1
  | 2, _ => h2
  | 3, _ => h3
  | 4, _ => h4
  | 5, _ => h5
  | 6, _ => h6
  | 7, _ => h7
  | n + 8, h => absurd h (by omega)

def st0 : Array Value := #[.bool false, .bool false, .int .u64 0, .bool false, .bool false, .int .u64 0, .bool false, .bool false, .int .u64 0, .bool false, .bool false, .int .u64 0,
  .bool false, .bool false, .int .u64 0, .bool false, .bool false, .int .u64 0, .bool false, .bool false, .int .u64 0, .bool false, .bool false, .int .u64 0]
theorem st0_is (its : List Item) : StIs st0 (stTo its 0) :=
  ⟨rfl, forall8 rfl rfl rfl rfl rfl rfl rfl rfl, forall8 rfl rfl rfl rfl rfl rfl rfl rfl, forall8 rfl rfl rfl rfl rfl rfl rfl rfl⟩

/-- What zzs3990cmodel leaves. -/
def ModelPost (w : World) (st : Nat → Option (Int × Bool)) (E : List Nat) (e : Ending) (w' : World) : Prop :=
  ∃ ev cur, e = .returned (.tuple #[ev, .agg cur]) ∧ StIs cur st ∧ w'.ownsRow w.heap.size 3 1 ev E.length (expV E) ∧ Below w.heap.size w w'

structure MdInv (w wr : World) (sb : Nat) (its : List Item) (ni : Nat) (ds : List Int) (k : Nat) (ev : Value) : Prop where
  below : Below w.heap.size w wr
  h5 : StRow wr w.heap.size (stTo its 0)
  h6 : StRow wr (w.heap.size + 1) (stTo its ni)
  seen : SeenRow wr sb (expK its ni ds k)
  own : wr.ownsRow (sb + 1) 3 1 ev (expK its ni ds k).length (expV (expK its ni ds k))

theorem MdInv.skip {w wr : World} {sb : Nat} {its : List Item} {ni : Nat} {ds : List Int} {k : Nat} {ev : Value} (h : MdInv w wr sb its ni ds k ev) (hE : expK its ni ds (k + 1) = expK its ni ds k) : MdInv w wr sb its ni ds (k + 1) ev :=
  ⟨h.below, h.h5, h.h6, by rw [hE]; exact h.seen, by rw [hE]; exact h.own⟩

theorem MdInv.hit {w wr : World} {sb : Nat} {its : List Item} {ni : Nat} {ds : List Int} {k : Nat} {ev : Value} (h : MdInv w wr sb its ni ds k ev) {j : Nat} (hj : j < 8) (hE : expK its ni ds (k + 1) = expK its ni ds k ++ [j]) (hs : w.heap.size + 1 < sb)
    {we : World} {ev' : Value} {O : Obj} {x : Int} (hown : we.ownsRow (sb + 1) 3 1 ev' ((expK its ni ds k).length + 1) (expV (expK its ni ds k) ++ [.int .i64 x])) (hge : ((wr.setCell ⟨sb, j, none⟩ (.bool true)).alloc O).grownBy we ev.ownBlock) (hx : x = (j : Int)) : MdInv w we sb its ni ds (k + 1) ev' := by
  have hob : ∀ q, ev.ownBlock = some q → sb + 1 ≤ q := fun q hq => (h.own.lt q hq).1
  have hsl := h.seen.lt
  have e0 : ∀ q, q ≤ sb → we.heap[q]? = (wr.setCell ⟨sb, j, none⟩ (.bool true)).heap[q]? := fun q hq => by
    rw [hge.block q (by simp only [World.size_alloc, size_setCell]; omega) (by intro he; have := hob q he.symm; omega), Below.heap_alloc _ _ _ (by simp only [size_setCell]; omega)]
  have e1 : ∀ q, q < sb → we.heap[q]? = wr.heap[q]? := fun q hq => by
    rw [e0 q (by omega), Below.heap_setCell _ _ _ _ (by simp; omega)]
  have hBs := h.below.size
  refine ⟨?_, h.h5.stay (e1 _ (by omega)), h.h6.stay (e1 _ (by omega)), ?_, ?_⟩
  · exact ((h.below.setCell (by simp; omega) _).alloc (by simp only [size_setCell]; exact hBs) O).grown hge (by simp only [World.size_alloc, size_setCell]; omega) (fun q hq => by have := hob q hq; omega)
  · rw [hE]; exact (h.seen.set hj).stay (e0 sb (Nat.le_refl _))
  · rw [hE]
    have e : expV (expK its ni ds k ++ [j]) = expV (expK its ni ds k) ++ [.int .i64 x] := by simp [expV, hx]
    rw [e, List.length_append]
    exact hown

theorem Yba.size34 : (Yba.prog.info? 34).map (·.size) = some 24 := by kernel_rfl

theorem load34 {w : World} {b : Nat} {cur : Array Value} {st : Nat → Option (Int × Bool)} (h : w.heap[b]? = some (.cells cur 34 (0, 0))) (hi : StIs cur st) : (loadCellsFrom ⟨b, 0, none⟩ 0 24 #[]).run Yba.prog w = .ok cur w := by
  have := run_loadCells_list (P := Yba.prog) w ⟨b, 0, none⟩ cur.toList (fun j v hv => by
    have hadd : (⟨b, 0, none⟩ : Addr).add j = ⟨b, j, none⟩ := by unfold Addr.add; split <;> simp_all
    rw [hadd, cell_of_row _ _ j cur 34 (0, 0) h]
    simpa using hv)
  simpa [loadCells, hi.size] using this
theorem store34 {w : World} {b : Nat} {cur old : Array Value} {st st' : Nat → Option (Int × Bool)} (h : w.heap[b]? = some (.cells old 34 (0, 0))) (ho : StIs old st') (hi : StIs cur st) : (storeCells ⟨b, 0, none⟩ cur.toList 0).run Yba.prog w = .ok () (w.setRow b cur) := by
  have := run_storeCells_from (P := Yba.prog) b 34 cur.toList 0 old w h (by simp [hi.size, ho.size]) (fun v hv => (Array.all_eq_true_iff_forall_mem.1 hi.one) v (by simpa using hv))
  simpa using this

theorem results_pair_cell {P : Program} {fn : Func} {q p : Tmp} {ty : TypeId} (h : fn.results = #[.tmp q, .cell p ty]) (tmps : Array Value) (w : World) (g : Nat) (t : TypeId) (cs : Array Value) (fr : Nat × Nat) (d : TypeDesc)
    (hp : tmps.getD p undef = .pointer (some ⟨g, 0, none⟩)) (hg : w.heap[g]? = some (.cells cs t fr))
    (hu : P.underlying ty = some d) (hd : (match d with | .struct _ | .array _ _ => true | _ => false) = true) (hi : (P.info? ty).map (·.size) = some cs.size) :
    (results fn tmps).run P w = .ok (.tuple #[tmps.getD q undef, .agg cs]) w := by
  have hp' : tmps[p]?.getD undef = .pointer (some ⟨g, 0, none⟩) := by simpa using hp
  simp [results, h, hp', asAddr, run_loadVar_row w g t ty cs fr d hg hu hd hi]

end Go.Proofs.Ybulkcdpm
