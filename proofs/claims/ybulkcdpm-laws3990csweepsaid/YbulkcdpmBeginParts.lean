/-
  What the walks of 'begin' (12) and NewSweep (6) carry: the sweep's block, the answered row, the entries' row, the holders.
-/
import Derived.Test.YbulkcdpmSweepable
namespace Go.Proofs.Ybulkcdpm
open Go.RowKit Go.MuLone Go.WideMaps Go.Maps

/-- The holders' map: each place of E, at zero. -/
def holdF (E : List Nat) : ByteArray → Option Value := onKeys fun j => if E.contains j then some (.int .i64 0) else none
theorem holdF_nil : holdF [] = fun _ => none := by
  have : (fun j => if ([] : List Nat).contains j then some (Value.int .i64 0) else none) = fun _ => none := by funext j; simp
  unfold holdF
  rw [this]
  exact onKeys_none
theorem holdF_snoc (E : List Nat) {j : Nat} (hj : j < 8) : holdF (E ++ [j]) = fun s => if s = keyS j then some (.int .i64 0) else holdF E s := by
  refine onKeys_set hj (by simp) (fun i hi => ?_)
  simp [hi]
theorem holdF_yes (E : List Nat) {j : Nat} (hj : j < 8) (h : j ∈ E) : holdF E (keyS j) = some (.int .i64 0) := by
  unfold holdF
  rw [onKeys_key _ hj, if_pos (List.contains_iff_mem.2 h)]
theorem holdF_no (E : List Nat) {j : Nat} (hj : j < 8) (h : ¬ j ∈ E) : holdF E (keyS j) = none := by
  unfold holdF
  rw [onKeys_key _ hj, if_neg (fun hc => h (List.contains_iff_mem.1 hc))]

def HoldAt (w : World) (b : Nat) (E : List Nat) : Prop :=
  ∃ D : DataW Value, w.ownsMap Yba.prog 9 tokR b E.length D ∧ Maps.size D = E.length ∧ ∀ s : ByteArray, s.size ≤ maxLen → Maps.has D (.string s.data.toList) = (holdF E s).isSome ∧ ∀ z, D.atKey (.string s.data.toList) (.held z) = .held ((holdF E s).getD z)

theorem HoldAt.made (w : World) : HoldAt (w.alloc (.map #[] 0)) w.heap.size [] :=
  ⟨.map [], World.ownsMap_made _ _ _ _, rfl, fun _ _ => by rw [holdF_nil]; exact ⟨rfl, fun _ => rfl⟩⟩
theorem HoldAt.fn {w : World} {b : Nat} {E : List Nat} (h : HoldAt w b E) : MapFn w b E.length (holdF E) := by
  obtain ⟨D, h, _, h2⟩ := h
  exact ⟨D, h, h2⟩
theorem HoldAt.stay {w w' : World} {b : Nat} {E : List Nat} (h : HoldAt w b E) (hb : w'.heap[b]? = w.heap[b]?) : HoldAt w' b E := by
  obtain ⟨D, ⟨es, clock, h1, h3⟩, h2⟩ := h
  exact ⟨D, ⟨es, clock, hb.trans h1, h3⟩, h2⟩
theorem HoldAt.len {w : World} {b : Nat} {E : List Nat} (h : HoldAt w b E) (ty : TypeId) : (Builtin.len_ #[39] ty #[.map (some b)]).run Yba.prog w = .ok (.int .i64 E.length) w := by
  obtain ⟨D, h, hs, _⟩ := h
  rw [← hs]
  exact h.len Yba.underlying39 ty
theorem HoldAt.put {w : World} {b : Nat} {E : List Nat} (h : HoldAt w b E) {j : Nat} (hj : j < 8) (hn : ¬ j ∈ E) (hl : E.length < maxLen) :
    ∃ w', (Instr.mapUpdate 39 (.map (some b)) (.string (keyS j)) (.int .i64 0)).run Yba.prog w = .ok () w' ∧ HoldAt w' b (E ++ [j]) ∧ w.grownBy w' (some b) ∧ w'.heap.size = w.heap.size := by
  obtain ⟨D, h, hs, hf⟩ := h
  obtain ⟨w', hrun, hown, hturn⟩ := h.store law9 Yba.underlying39 hl (key9 (keyS_le j)) (val := .int .i64 0) (d := .held (.int .i64 0)) (ps := []) rfl
  refine ⟨w', hrun, ⟨D.put (.string (keyS j).data.toList) (.held (.int .i64 0)), by simpa using hown, ?_, fun t ht => ?_⟩, hturn.grown, ?_⟩
  · have hno : Maps.has D (.string (keyS j).data.toList) = false := by rw [(hf _ (keyS_le j)).1, holdF_no E hj hn]; rfl
    rw [Maps.size_put (h.tidy law9), hno, hs]
    simp
  · rw [holdF_snoc E hj]
    by_cases hts : t = keyS j
    · subst hts
      simp only [if_true]
      exact ⟨has_put_same h.isMap (law9.key (key9 (keyS_le j))) _, fun z => atKey_put_same h.isMap (law9.key (key9 (keyS_le j))) _ _⟩
    · simp only [if_neg hts]
      rw [has_put_other (lit_ne hts)]
      refine ⟨(hf t ht).1, fun z => ?_⟩
      rw [atKey_put_other (lit_ne hts)]
      exact (hf t ht).2 z
  · obtain ⟨_, _, _, _, _, rfl⟩ := hturn
    simp [ChangeMaps.setBlock]

/-- The row 'answered': no one has. -/
def AnsAt (w : World) (ab n : Nat) : Prop := ∃ cur : Array Value, w.heap[ab]? = some (.cells cur 4 (0, 0)) ∧ cur.size = n ∧ ∀ i, i < n → cur[i]? = some (.bool false)
theorem AnsAt.lt {w : World} {ab n : Nat} (h : AnsAt w ab n) : ab < w.heap.size := by
  obtain ⟨cur, h1, _⟩ := h
  exact (Array.getElem?_eq_some_iff.1 h1).1
theorem AnsAt.stay {w w' : World} {ab n : Nat} (h : AnsAt w ab n) (he : w'.heap[ab]? = w.heap[ab]?) : AnsAt w' ab n := by
  obtain ⟨cur, h1, h2⟩ := h
  exact ⟨cur, he.trans h1, h2⟩
theorem AnsAt.read {w : World} {ab n : Nat} (h : AnsAt w ab n) {i : Nat} (hi : i < n) : w.cell? ⟨ab, i, none⟩ = some (.bool false) := by
  obtain ⟨cur, h1, h2, h3⟩ := h
  simp [World.cell?, h1, h3 i hi]
theorem AnsAt.thaw {w : World} {ab n : Nat} (h : AnsAt w ab n) (i : Nat) : w.frozen? ⟨ab, i, none⟩ = false := by
  obtain ⟨cur, h1, h2, h3⟩ := h
  simp [World.frozen?, h1]
theorem AnsAt.set {w : World} {ab n : Nat} (h : AnsAt w ab n) (o : Nat) : AnsAt (w.setCell ⟨ab, o, none⟩ (.bool false)) ab n := by
  obtain ⟨cur, h1, h2, h3⟩ := h
  refine ⟨cur.setIfInBounds o (.bool false), heap_setCell_same h1, by simpa using h2, fun i hi => ?_⟩
  by_cases hio : o = i
  · subst hio; rw [Array.getElem?_setIfInBounds_self_of_lt (by omega)]
  · rw [Array.getElem?_setIfInBounds_ne hio]; exact h3 i hi
theorem AnsAt.sets {ab n : Nat} : ∀ (m o : Nat) (w : World), AnsAt w ab n → AnsAt (w.setCells ab o (List.replicate m (.bool false))) ab n ∧ w.grownBy (w.setCells ab o (List.replicate m (.bool false))) (some ab) ∧ (w.setCells ab o (List.replicate m (.bool false))).heap.size = w.heap.size
  | 0, _, w, h => ⟨h, grownBy_refl _ _, rfl⟩
  | m + 1, o, w, h => by
    obtain ⟨h1, h2, h3⟩ := AnsAt.sets m (o + 1) _ (h.set o)
    exact ⟨h1, grownBy_trans (grownBy_setCell _ _ _ _) h2, by rw [← size_setCell w ⟨ab, o, none⟩ (.bool false)]; exact h3⟩
/-- 'clear(s.answered)' -/
theorem AnsAt.clear {w : World} {ab n : Nat} (h : AnsAt w ab n) : ∃ w', (∀ ty, (Builtin.clear_ #[37] ty #[.slice (some ⟨ab, 0, none⟩) n n]).run Yba.prog w = .ok (.tuple #[]) w') ∧ AnsAt w' ab n ∧ w.grownBy w' (some ab) ∧ w'.heap.size = w.heap.size := by
  by_cases hn : 0 < n
  · obtain ⟨h1, h2, h3⟩ := AnsAt.sets (ab := ab) (n := n) n 0 w h
    refine ⟨_, fun ty => Lib.run_clear_slice w 37 4 ty (.bool false) Yba.underlying37 zero4 rfl rfl ab 0 n n hn (fun j hj => ?_) (fun j hj => ?_), h1, h2, h3⟩
    · rw [Nat.zero_add, h.read hj]; rfl
    · exact h.thaw _
  · have : n = 0 := by omega
    subst this
    refine ⟨w, fun ty => ?_, h, grownBy_refl _ _, rfl⟩
    simp [Builtin.clear_, run_underlying Yba.underlying37]

/-- The entries' row. -/
def EntRow (w : World) (g : Nat) (st : Nat → Option (Int × Bool)) (E : List Nat) : Prop := ∃ cur : Array Value, w.heap[g]? = some (.cells cur 52 (0, 0)) ∧ ∀ i (hi : i < E.length) o, o < 6 → cur[i * 6 + o]? = (entV st E[i])[o]?
theorem entCells_at (st : Nat → Option (Int × Bool)) : ∀ (E : List Nat) (i : Nat) (hi : i < E.length) (o : Nat), o < 6 → (entCells st E)[i * 6 + o]? = (entV st E[i])[o]?
  | [], i, hi, _, _ => absurd hi (Nat.not_lt_zero _)
  | a :: E, 0, _, o, ho => by
    simp only [entCells, List.flatMap_cons]
    rw [List.getElem?_append_left (by simp [entV]; omega)]
    simp
  | a :: E, i + 1, hi, o, ho => by
    have ih := entCells_at st E i (by simpa using hi) o ho
    simp only [entCells, List.flatMap_cons]
    rw [List.getElem?_append_right (by simp [entV]; omega)]
    have hl : (entV st a).length = 6 := rfl
    rw [hl, show (i + 1) * 6 + o - 6 = i * 6 + o by omega]
    exact ih
theorem EntRow.of_own {w : World} {base n : Nat} {dv : Value} {st : Nat → Option (Int × Bool)} {E : List Nat} (h : w.ownsRow base 52 6 dv n (entCells st E)) (hn : n = E.length) (hp : 0 < n) :
    ∃ g cap, dv = .slice (some ⟨g, 0, none⟩) n cap ∧ base ≤ g ∧ g < w.heap.size ∧ EntRow w g st E := by
  obtain ⟨hl, ⟨_, h0⟩ | ⟨g, cap, cur, hv, hb, hg, h1, h2, h3, h4⟩⟩ := h
  · omega
  · refine ⟨g, cap, hv, hb, (Array.getElem?_eq_some_iff.1 hg).1, cur, hg, fun i hi o ho => ?_⟩
    rw [← entCells_at st E i hi o ho, ← h4, List.getElem?_take_of_lt (by omega)]
    simp
theorem EntRow.lt {w : World} {g : Nat} {st : Nat → Option (Int × Bool)} {E : List Nat} (h : EntRow w g st E) : g < w.heap.size := by
  obtain ⟨cur, h1, _⟩ := h
  exact (Array.getElem?_eq_some_iff.1 h1).1
theorem EntRow.stay {w w' : World} {g : Nat} {st : Nat → Option (Int × Bool)} {E : List Nat} (h : EntRow w g st E) (he : w'.heap[g]? = w.heap[g]?) : EntRow w' g st E := by
  obtain ⟨cur, h1, h2⟩ := h
  exact ⟨cur, he.trans h1, h2⟩
theorem EntRow.read {w : World} {g : Nat} {st : Nat → Option (Int × Bool)} {E : List Nat} (h : EntRow w g st E) {i : Nat} (hi : i < E.length) {o : Nat} (ho : o < 6) : w.cell? ⟨g, i * 6 + o, none⟩ = (entV st E[i])[o]? := by
  obtain ⟨cur, h1, h2⟩ := h
  simp [World.cell?, h1, h2 i hi o ho]

/-- The sweep's block. -/
def swpArr (rb : Nat) (rnd ep snd : Int) (an dl hm : Value) (held : Int) : Array Value :=
  #[.pointer (some ⟨rb, 0, none⟩), .int .i64 rnd, .int .u64 ep, .int .u64 0, .int .i64 snd, an, .int .i64 0, dl, hm, .slice none 0 0, .int .i64 held, .int .u64 0, .int .i64 0, .nilIface, .int .i64 0]
def SwpBlk (w : World) (sb rb : Nat) (rnd ep snd : Int) (an dl hm : Value) (held : Int) : Prop := w.heap[sb]? = some (.cells (swpArr rb rnd ep snd an dl hm held) 44 (0, 0))
section
variable {w w' : World} {sb rb : Nat} {rnd ep snd : Int} {an dl hm : Value} {held : Int}
theorem SwpBlk.lt (h : SwpBlk w sb rb rnd ep snd an dl hm held) : sb < w.heap.size := (Array.getElem?_eq_some_iff.1 h).1
theorem SwpBlk.stay (h : SwpBlk w sb rb rnd ep snd an dl hm held) (he : w'.heap[sb]? = w.heap[sb]?) : SwpBlk w' sb rb rnd ep snd an dl hm held := he.trans h
theorem SwpBlk.cell (h : SwpBlk w sb rb rnd ep snd an dl hm held) (o : Nat) : w.cell? ⟨sb, o, none⟩ = (swpArr rb rnd ep snd an dl hm held)[o]? := by
  unfold SwpBlk at h
  simp [World.cell?, h]
theorem SwpBlk.thaw (h : SwpBlk w sb rb rnd ep snd an dl hm held) (o : Nat) : w.frozen? ⟨sb, o, none⟩ = false := by
  unfold SwpBlk at h
  simp [World.frozen?, h]
theorem SwpBlk.setRnd (h : SwpBlk w sb rb rnd ep snd an dl hm held) (v : Int) : SwpBlk (w.setCell ⟨sb, 1, none⟩ (.int .i64 v)) sb rb v ep snd an dl hm held := heap_setCell_same h
theorem SwpBlk.setSnd (h : SwpBlk w sb rb rnd ep snd an dl hm held) (v : Int) : SwpBlk (w.setCell ⟨sb, 4, none⟩ (.int .i64 v)) sb rb rnd ep v an dl hm held := heap_setCell_same h
theorem SwpBlk.setHold (h : SwpBlk w sb rb rnd ep snd an dl hm held) (v : Value) : SwpBlk (w.setCell ⟨sb, 8, none⟩ v) sb rb rnd ep snd an dl v held := heap_setCell_same h
theorem SwpBlk.setHeld (h : SwpBlk w sb rb rnd ep snd an dl hm held) (v : Int) : SwpBlk (w.setCell ⟨sb, 10, none⟩ (.int .i64 v)) sb rb rnd ep snd an dl hm v := heap_setCell_same h
theorem SwpBlk.set6 (h : SwpBlk w sb rb rnd ep snd an dl hm held) : SwpBlk (w.setCell ⟨sb, 6, none⟩ (.int .i64 0)) sb rb rnd ep snd an dl hm held := heap_setCell_same h
theorem SwpBlk.set9 (h : SwpBlk w sb rb rnd ep snd an dl hm held) : SwpBlk (w.setCell ⟨sb, 9, none⟩ (.slice none 0 0)) sb rb rnd ep snd an dl hm held := heap_setCell_same h
theorem SwpBlk.set11 (h : SwpBlk w sb rb rnd ep snd an dl hm held) : SwpBlk (w.setCell ⟨sb, 11, none⟩ (.int .u64 0)) sb rb rnd ep snd an dl hm held := heap_setCell_same h
theorem SwpBlk.set12 (h : SwpBlk w sb rb rnd ep snd an dl hm held) : SwpBlk (w.setCell ⟨sb, 12, none⟩ (.int .i64 0)) sb rb rnd ep snd an dl hm held := heap_setCell_same h
end

/-- What may turn under 'begin'. -/
abbrev bgS (cb ab sb : Nat) : Nat → Prop := fun q => q = cb ∨ q = ab ∨ q = sb

/-- What 'begin' leaves. -/
structure Begun (w w' : World) (cb B rb ab sb hb : Nat) (E : List Nat) (ep : Int) (an dl : Value) (nr : Nat) (at_ : Option Addr) (nt ct : Nat) (ts : List Int) : Prop where
  swp : SwpBlk w' sb rb 1 ep 1 an dl (.map (some hb)) (tickAt ts nt 1)
  hold : HoldAt w' hb E
  ans : AnsAt w' ab nr
  clk : ClockAt w' cb (B + 1) B 2 at_ nt ct ts
  keep : Keep (bgS cb ab sb) w w'
def BegunPost (w : World) (cb B rb ab sb : Nat) (E : List Nat) (ep : Int) (an dl : Value) (nr : Nat) (at_ : Option Addr) (nt ct : Nat) (ts : List Int) (e : Ending) (w' : World) : Prop :=
  e = .returned (.tuple #[]) ∧ ∃ hb, Begun w w' cb B rb ab sb hb E ep an dl nr at_ nt ct ts

end Go.Proofs.Ybulkcdpm
