/-
  What the two laws' walks share: the replica behind its building; what NewSweep leaves, told for the laws.
-/
import Derived.Test.YbulkcdpmModelParts
namespace Go.Proofs.Ybulkcdpm
open Go.RowKit Go.MuLone

section
variable {w w2 w3 w4 : World} {gd rb ni nd : Nat} {its : List Item} {ds : List Int} {cat : Bool} {ep pr : Int} {at_ : Option Addr} {nt ct : Nat} {ts : List Int}

abbrev cell0 : Obj := .cells #[.int .i64 0] 3

theorem Built.below0 (h : Built (w.alloc cell0) w2 w.heap.size gd rb ni nd its ds cat ep pr (.slice at_ nt ct)) : Below w.heap.size w w2 :=
  ((Below.refl _ w).alloc (Nat.le_refl _) _).trans (h.below.mono (by simp))

theorem Built.cb (h : Built (w.alloc cell0) w2 w.heap.size gd rb ni nd its ds cat ep pr (.slice at_ nt ct)) : w2.heap[w.heap.size]? = some (.cells #[.int .i64 0] 3 (0, 0)) := by
  rw [h.below.block _ (by simp)]
  exact heap_alloc_new _ _

theorem Built.repl (h : Built (w.alloc cell0) w2 w.heap.size gd rb ni nd its ds cat ep pr (.slice at_ nt ct)) (ht : TicksAt w at_ nt ts) :
    Repl w2 w.heap.size (w.heap.size + 1) gd rb ni nd its ds cat ep pr 0 0 0 at_ nt ct ts (.slice (some ⟨gd, 0, none⟩) nd nd) := by
  have hb0 := h.below0
  have hcb := h.cb
  have h1 := h.hbt
  have h2 := h.hbc
  have h3 := h.hM
  have h4 := h.o1
  have h5 := h.rep
  simp only [World.size_alloc] at h1 h2 h3 h4 h5
  refine ⟨by omega, h4, h.o2, h5, ⟨hcb, h2, h1, ⟨by omega, by omega⟩, ht.1, ?_⟩, h3⟩
  rcases ht.2 with h0 | ⟨b, off, rfl, hb, hc⟩
  · exact .inl h0
  · exact .inr ⟨b, off, rfl, hb, fun i hi => (hb0.cell (p := ⟨b, off + i, none⟩) hb).trans (hc i hi)⟩

/-- Behind NewSweep, the replica catching up. -/
structure CatchSt (w w3 : World) (gd rb nd : Nat) (ds : List Int) (ep pr : Int) : Prop where
  below : Below w.heap.size w w3
  rep : RepBlk w3 rb (clockV (w.heap.size + 1)) 0 ep pr 0 0 (w.heap.size + 3) true (.slice (some ⟨gd, 0, none⟩) nd nd)
  cb : w3.heap[w.heap.size]? = some (.cells #[.int .i64 0] 3 (0, 0))
  row : DlRow w3 gd nd ds nd

theorem CatchSt.mk' (h : Built (w.alloc cell0) w2 w.heap.size gd rb ni nd its ds true ep pr (.slice at_ nt ct)) (h3 : RepBlk w3 rb (clockV (w.heap.size + 1)) 0 ep pr 0 0 (w.heap.size + 3) true (.slice (some ⟨gd, 0, none⟩) nd nd)) (hk : Keep (fun q => q = rb) w2 w3) :
    CatchSt w w3 gd rb nd ds ep pr := by
  have h4 := h.o1
  have h5 := h.o2
  have h6 := h.row.lt
  simp only [World.size_alloc] at h4
  refine ⟨h.below0.trans (hk.below (h.below0.size) (fun k hk => by omega)), h3, ?_, h.row.stay (hk.block _ h6 (by omega))⟩
  rw [hk.block _ (by omega) (by omega)]
  exact h.cb

theorem CatchSt.step (h : CatchSt w w3 gd rb nd ds ep pr) (hb : Below w3.heap.size w3 w4) : CatchSt w w4 gd rb nd ds ep pr := by
  have hs := h.below.size
  exact ⟨h.below.trans (hb.mono hs), h.rep.stay (hb.block _ h.rep.lt), (hb.block _ (Array.getElem?_eq_some_iff.1 h.cb).1).trans h.cb, h.row.stay (hb.block _ h.row.lt)⟩
theorem CatchSt.alloc (h : CatchSt w w3 gd rb nd ds ep pr) (O : Obj) : CatchSt w (w3.alloc O) gd rb nd ds ep pr := h.step ((Below.refl _ _).alloc (Nat.le_refl _) O)
theorem CatchSt.drew (h : CatchSt w w3 gd rb nd ds ep pr) : CatchSt w w3.drew gd rb nd ds ep pr := h.step (Below.refl _ _).drew

/-- Behind NewSweep, the replica not catching up. -/
structure FreeSt (w w3 : World) (gd rb nd : Nat) (E : List Nat) (k : Nat) (ep pr x1 x4 : Int) : Prop where
  below : Below w.heap.size w w3
  rep : RepBlk w3 rb (clockV (w.heap.size + 1)) 0 ep pr x1 x4 (w.heap.size + 3) false (.slice (some ⟨gd, 0, none⟩) E.length nd)
  cb : w3.heap[w.heap.size]? = some (.cells #[.int .i64 (k : Int)] 3 (0, 0))
  row : KeptRow w3 gd E
  glt : gd < w3.heap.size

theorem FreeSt.step {E : List Nat} {k : Nat} {x1 x4 : Int} (h : FreeSt w w3 gd rb nd E k ep pr x1 x4) (hb : Below w3.heap.size w3 w4) : FreeSt w w4 gd rb nd E k ep pr x1 x4 := by
  have hs := h.below.size
  exact ⟨h.below.trans (hb.mono hs), h.rep.stay (hb.block _ h.rep.lt), (hb.block _ (Array.getElem?_eq_some_iff.1 h.cb).1).trans h.cb, h.row.stay (hb.block _ h.glt), Nat.lt_of_lt_of_le h.glt hb.size⟩
theorem FreeSt.alloc {E : List Nat} {k : Nat} {x1 x4 : Int} (h : FreeSt w w3 gd rb nd E k ep pr x1 x4) (O : Obj) : FreeSt w (w3.alloc O) gd rb nd E k ep pr x1 x4 := h.step ((Below.refl _ _).alloc (Nat.le_refl _) O)
theorem FreeSt.drew {E : List Nat} {k : Nat} {x1 x4 : Int} (h : FreeSt w w3 gd rb nd E k ep pr x1 x4) : FreeSt w w3.drew gd rb nd E k ep pr x1 x4 := h.step (Below.refl _ _).drew
theorem FreeSt.read {E : List Nat} {k : Nat} {x1 x4 : Int} (h : FreeSt w w3 gd rb nd E k ep pr x1 x4) {i : Nat} (hi : i < E.length) : w3.cell? ⟨gd, i, none⟩ = some (.string (keyS E[i])) := by
  obtain ⟨cur, h1, h2⟩ := h.row
  simp [World.cell?, h1, h2 i hi]

theorem Built.keep0 (h : Built (w.alloc cell0) w2 w.heap.size gd rb ni nd its ds cat ep pr (.slice at_ nt ct)) (hk : Keep (swS w.heap.size gd rb) w2 w3) : Below w.heap.size w w3 ∧ gd < w3.heap.size := by
  have h4 := h.o1
  have h5 := h.o2
  have h6 := h.row.lt
  have h7 := hk.size
  simp only [World.size_alloc] at h4
  exact ⟨h.below0.trans (hk.below h.below0.size (fun k hk => by rcases hk with hk | hk | hk <;> omega)), by omega⟩

theorem FreeSt.of_swept (h : Built (w.alloc cell0) w2 w.heap.size gd rb ni nd its ds false ep pr (.slice at_ nt ct)) {st : Nat → Option (Int × Bool)} {dv : Value} (hs : Swept w2 w3 w.heap.size (w.heap.size + 1) gd rb nd st [] ep pr at_ nt ct ts dv) :
    ∃ x1 x4, FreeSt w w3 gd rb nd [] 1 ep pr x1 x4 := by
  obtain ⟨x1, x4, hr⟩ := hs.rep
  obtain ⟨hb, hg⟩ := h.keep0 hs.keep
  exact ⟨x1, x4, hb, hr, hs.clk.hcb, hs.row, hg⟩

theorem FreeSt.of_newed (h : Built (w.alloc cell0) w2 w.heap.size gd rb ni nd its ds false ep pr (.slice at_ nt ct)) {st : Nat → Option (Int × Bool)} {E : List Nat} {g ab sb hb cap nr : Nat} (hs : Newed w2 w3 w.heap.size (w.heap.size + 1) gd rb g ab sb hb nd st E cap nr ep pr at_ nt ct ts) :
    ∃ x1 x4, FreeSt w w3 gd rb nd E 2 ep pr x1 x4 := by
  obtain ⟨x1, x4, hr⟩ := hs.rep
  obtain ⟨hb, hg⟩ := h.keep0 hs.keep
  exact ⟨x1, x4, hb, hr, hs.clk.hcb, hs.row, hg⟩

end

theorem DlRow.read {w : World} {gd n : Nat} {ds : List Int} {k : Nat} (h : DlRow w gd n ds k) {i : Nat} (hi : i < k) : w.cell? ⟨gd, i, none⟩ = some (.string (keyS (ix (ds.getD i 0)))) := by
  obtain ⟨cur, h1, h2, h3⟩ := h
  simp [World.cell?, h1, h3 i hi]

/-- The exp slice that the model hands back. -/
def ExpIn (w : World) (a : Option Addr) (E : List Nat) : Prop := E.length = 0 ∨ ∃ g, a = some ⟨g, 0, none⟩ ∧ g < w.heap.size ∧ ∀ i (hi : i < E.length), w.cell? ⟨g, i, none⟩ = some (.int .i64 (E[i] : Int))

theorem ExpIn.of_own {w : World} {base : Nat} {ev : Value} {E : List Nat} (h : w.ownsRow base 3 1 ev E.length (expV E)) : ∃ a c, ev = .slice a E.length c ∧ ExpIn w a E := by
  obtain ⟨hl, ⟨hv, h0⟩ | ⟨g, cap, cur, hv, hb, hg, h1, h2, h3, h4⟩⟩ := h
  · exact ⟨none, 0, by rw [hv, h0], .inl h0⟩
  · refine ⟨some ⟨g, 0, none⟩, cap, hv, .inr ⟨g, rfl, (Array.getElem?_eq_some_iff.1 hg).1, fun i hi => ?_⟩⟩
    have hcur : cur[i]? = some (.int .i64 (E[i] : Int)) := by
      have : (expV E)[i]? = some (.int .i64 (E[i] : Int)) := by simp [expV, hi]
      rw [← this, ← h4, List.getElem?_take_of_lt (by omega)]
      simp
    simp [World.cell?, hg, hcur]

theorem ExpIn.step {w w' : World} {a : Option Addr} {E : List Nat} (h : ExpIn w a E) (hb : Below w.heap.size w w') : ExpIn w' a E := by
  rcases h with h0 | ⟨g, ha, hg, hc⟩
  · exact .inl h0
  · exact .inr ⟨g, ha, Nat.lt_of_lt_of_le hg hb.size, fun i hi => (hb.cell (p := ⟨g, i, none⟩) hg).trans (hc i hi)⟩

theorem ExpIn.pos {w : World} {a : Option Addr} {E : List Nat} (h : ExpIn w a E) {k : Nat} (hk : k < E.length) : ∃ g, a = some ⟨g, 0, none⟩ ∧ w.cell? ⟨g, k, none⟩ = some (.int .i64 (E[k] : Int)) := by
  rcases h with h0 | ⟨g, ha, hg, hc⟩
  · omega
  · exact ⟨g, ha, hc k hk⟩

theorem ix_small {j : Nat} (hj : j < 8) : ix (j : Int) = j := by unfold ix; omega

end Go.Proofs.Ybulkcdpm
