/-
  What the walk of 'sweepable' carries from round to round.
-/
import Derived.Test.YbulkcdpmBuild
namespace Go.Proofs.Ybulkcdpm
open Go.RowKit Go.MuLone

/-- An equation of worlds that the walk does not look into. -/
def IsW (a b : World) : Prop := a = b

/-- 'wpList_append_room1', the world behind it under a name. -/
theorem wpList_append_room2 (w : World) {ops : Array Oper} {rest : List Oper} {o : Oper} {a : Act} {Q : Exit → Act → World → Prop} (hgd : o.guard = none) (s x : Operand) (t : TypeId)
    (ho : o.op = .call { callee := .builtin .append, args := #[s, x], argTypes := #[t, t] }) (e : TypeId) (i : TypeInfo) (ht : Yba.prog.underlying t = some (.slice e)) (hi : Yba.prog.info? e = some i) (hsize : i.size = 1)
    (g k cap : Nat) (hs : a.eval s = .slice (some ⟨g, 0, none⟩) k cap) (ad : Addr) (v : Value) (hx : a.eval x = .slice (some ad) 1 1) (hc : w.cell? ad = some v) (h1 : v.oneCell' = true) (hroom : k + 1 ≤ cap)
    (hcell : ∃ u, w.cell? ⟨g, k, none⟩ = some u) (hfr : w.frozen? ⟨g, k, none⟩ = false)
    (h : ∀ w', IsW w' (w.setCell ⟨g, k, none⟩ v) → wpList Yba.prog ops Q rest (a.put o.dst (.slice (some ⟨g, 0, none⟩) (k + 1) cap)) w') : wpList Yba.prog ops Q (o :: rest) a w :=
  wpList_append_room1 w hgd s x t ho e i ht hi hsize g k cap hs ad v hx hc h1 hroom hcell hfr (h _ rfl)

/-- All blocks but those of S are as they were. -/
structure Keep (S : Nat → Prop) (w w' : World) : Prop where
  os : w'.os = w.os
  tape : w'.tape = w.tape
  output : w'.output = w.output
  size : w.heap.size ≤ w'.heap.size
  block : ∀ k, k < w.heap.size → ¬ S k → w'.heap[k]? = w.heap[k]?

theorem Keep.refl (S : Nat → Prop) (w : World) : Keep S w w := ⟨rfl, rfl, rfl, Nat.le_refl _, fun _ _ _ => rfl⟩
theorem Keep.trans {S : Nat → Prop} {a b c : World} (h : Keep S a b) (k : Keep S b c) : Keep S a c :=
  ⟨k.os.trans h.os, k.tape.trans h.tape, k.output.trans h.output, Nat.le_trans h.size k.size, fun q hq hs => (k.block q (Nat.lt_of_lt_of_le hq h.size) hs).trans (h.block q hq hs)⟩
theorem Keep.alloc {S : Nat → Prop} {a w : World} (h : Keep S a w) (o : Obj) : Keep S a (w.alloc o) := h.trans ⟨rfl, rfl, rfl, by simp, fun _ hq _ => Below.heap_alloc _ _ _ hq⟩
theorem Keep.drew {S : Nat → Prop} {a w : World} (h : Keep S a w) : Keep S a w.drew := ⟨h.os, h.tape, h.output, h.size, h.block⟩
theorem Keep.setCell {S : Nat → Prop} {a w : World} (h : Keep S a w) {b o : Nat} (hb : S b) (v : Value) : Keep S a (w.setCell ⟨b, o, none⟩ v) :=
  h.trans ⟨rfl, rfl, rfl, by simp [World.setCell], fun _ _ hs => Below.heap_setCell _ _ _ _ (fun e => hs (by rw [e]; exact hb))⟩
theorem Keep.grown {S : Nat → Prop} {a w w' : World} {row : Option Nat} (h : Keep S a w) (hg : w.grownBy w' row) (hr : ∀ k, row = some k → k < a.heap.size → S k) : Keep S a w' :=
  ⟨hg.os.trans h.os, hg.tape.trans h.tape, hg.output.trans h.output, Nat.le_trans h.size hg.size, fun q hq hs => (hg.block q (Nat.lt_of_lt_of_le hq h.size) (fun e => hs (hr q e.symm hq))).trans (h.block q hq hs)⟩
theorem Keep.mono {S T : Nat → Prop} {a b : World} (h : Keep S a b) (hst : ∀ k, S k → T k) : Keep T a b := ⟨h.os, h.tape, h.output, h.size, fun q hq ht => h.block q hq (fun hs => ht (hst q hs))⟩
theorem Keep.below {S : Nat → Prop} {a b : World} {B : Nat} (h : Keep S a b) (hB : B ≤ a.heap.size) (hs : ∀ k, S k → B ≤ k) : Below B a b :=
  ⟨h.os, h.tape, h.output, h.size, fun k hk => h.block k (by omega) (fun h' => by have := hs k h'; omega)⟩

theorem RepBlk.stay {w w' : World} {rb : Nat} {fn : Value} {mu ep pr x1 x4 : Int} {m : Nat} {cat : Bool} {dl : Value} (h : RepBlk w rb fn mu ep pr x1 x4 m cat dl) (he : w'.heap[rb]? = w.heap[rb]?) : RepBlk w' rb fn mu ep pr x1 x4 m cat dl := he.trans h

theorem ClockAt.stay {w w' : World} {cb bc bt k : Nat} {a : Option Addr} {n c : Nat} {ts : List Int} (h : ClockAt w cb bc bt k a n c ts) (h1 : w'.heap[cb]? = w.heap[cb]?) (h2 : w'.heap[bc]? = w.heap[bc]?) (h3 : w'.heap[bt]? = w.heap[bt]?)
    (h4 : ∀ q, q < cb → w'.heap[q]? = w.heap[q]?) : ClockAt w' cb bc bt k a n c ts := by
  refine ⟨h1.trans h.hcb, h2.trans h.hbc, h3.trans h.hbt, h.ne, h.len, ?_⟩
  rcases h.tk with h0 | ⟨b, off, rfl, hb, hc⟩
  · exact .inl h0
  · exact .inr ⟨b, off, rfl, hb, fun i hi => (World.cell?_of_block (a := ⟨b, off + i, none⟩) (h4 b hb)).trans (hc i hi)⟩

theorem ClockAt.tick {w : World} {cb bc bt k : Nat} {a : Option Addr} {n c : Nat} {ts : List Int} (h : ClockAt w cb bc bt k a n c ts) : ClockAt (w.setCell ⟨cb, 0, none⟩ (.int .i64 ((k : Int) + 1))) cb bc bt (k + 1) a n c ts := by
  have hne := h.ne
  refine ⟨by have := heap_setCell_same (o := 0) (v := .int .i64 ((k : Int) + 1)) h.hcb; simpa using this, (Below.heap_setCell _ _ _ _ (by simp; omega)).trans h.hbc, (Below.heap_setCell _ _ _ _ (by simp; omega)).trans h.hbt, h.ne, h.len, ?_⟩
  rcases h.tk with h0 | ⟨b, off, rfl, hb, hc⟩
  · exact .inl h0
  · exact .inr ⟨b, off, rfl, hb, fun i hi => (World.cell?_setCell_other _ _ _ _ (by simp <;> omega)).trans (hc i hi)⟩

/-- The row of the replica's deletions while it is filtered in place: the first E.length cells are kept, those from k on are as they were. -/
def KRow (w : World) (gd n : Nat) (ds : List Int) (E : List Nat) (k : Nat) : Prop :=
  ∃ cur : Array Value, w.heap[gd]? = some (.cells cur 9 (0, 0)) ∧ cur.size = n ∧ (∀ i (hi : i < E.length), cur[i]? = some (.string (keyS E[i]))) ∧ (∀ i, k ≤ i → i < n → cur[i]? = some (.string (keyS (ix (ds.getD i 0)))))

theorem KRow.start {w : World} {gd n : Nat} {ds : List Int} (h : DlRow w gd n ds n) : KRow w gd n ds [] 0 := by
  obtain ⟨cur, h1, h2, h3⟩ := h
  exact ⟨cur, h1, h2, fun i hi => absurd hi (Nat.not_lt_zero _), fun i _ hi => h3 i hi⟩
theorem KRow.lt {w : World} {gd n : Nat} {ds : List Int} {E : List Nat} {k : Nat} (h : KRow w gd n ds E k) : gd < w.heap.size := by
  obtain ⟨cur, h1, _⟩ := h
  exact (Array.getElem?_eq_some_iff.1 h1).1
theorem KRow.stay {w w' : World} {gd n : Nat} {ds : List Int} {E : List Nat} {k : Nat} (h : KRow w gd n ds E k) (he : w'.heap[gd]? = w.heap[gd]?) : KRow w' gd n ds E k := by
  obtain ⟨cur, h1, h2⟩ := h
  exact ⟨cur, he.trans h1, h2⟩
theorem KRow.skip {w : World} {gd n : Nat} {ds : List Int} {E : List Nat} {k : Nat} (h : KRow w gd n ds E k) : KRow w gd n ds E (k + 1) := by
  obtain ⟨cur, h1, h2, h3, h4⟩ := h
  exact ⟨cur, h1, h2, h3, fun i hi hn => h4 i (by omega) hn⟩
theorem KRow.read {w : World} {gd n : Nat} {ds : List Int} {E : List Nat} {k : Nat} (h : KRow w gd n ds E k) (hk : k < n) : w.cell? ⟨gd, k, none⟩ = some (.string (keyS (ix (ds.getD k 0)))) := by
  obtain ⟨cur, h1, h2, h3, h4⟩ := h
  have := h4 k (Nat.le_refl _) hk
  simp [World.cell?, h1, this]
theorem KRow.room {w : World} {gd n : Nat} {ds : List Int} {E : List Nat} {k : Nat} (h : KRow w gd n ds E k) {j : Nat} (hj : j < n) : (∃ u, w.cell? ⟨gd, j, none⟩ = some u) ∧ w.frozen? ⟨gd, j, none⟩ = false := by
  obtain ⟨cur, h1, h2, _⟩ := h
  exact ⟨⟨cur[j]'(by omega), by simp [World.cell?, h1]⟩, by simp [World.frozen?, h1]⟩
theorem KRow.put {w : World} {gd n : Nat} {ds : List Int} {E : List Nat} {k : Nat} (h : KRow w gd n ds E k) (hE : E.length ≤ k) (hk : k < n) (j : Nat) : KRow (w.setCell ⟨gd, E.length, none⟩ (.string (keyS j))) gd n ds (E ++ [j]) (k + 1) := by
  obtain ⟨cur, h1, h2, h3, h4⟩ := h
  refine ⟨cur.setIfInBounds E.length (.string (keyS j)), heap_setCell_same h1, by simpa using h2, fun i hi => ?_, fun i hi hn => ?_⟩
  · simp at hi
    by_cases hik : i = E.length
    · subst hik
      rw [Array.getElem?_setIfInBounds_self_of_lt (by omega)]
      simp
    · rw [Array.getElem?_setIfInBounds_ne (by omega), h3 i (by omega)]
      simp [List.getElem_append_left (show i < E.length by omega)]
  · rw [Array.getElem?_setIfInBounds_ne (by omega)]
    exact h4 i (by omega) hn

/-- What 'listed' holds. -/
def listedF (E : List Nat) : ByteArray → Option Value := onKeys fun j => if E.contains j then some (.bool true) else none
theorem listedF_nil : listedF [] = fun _ => none := by
  have : (fun j => if ([] : List Nat).contains j then some (Value.bool true) else none) = fun _ => none := by funext j; simp
  unfold listedF
  rw [this]
  exact onKeys_none
theorem listedF_snoc (E : List Nat) {j : Nat} (hj : j < 8) : listedF (E ++ [j]) = fun s => if s = keyS j then some (.bool true) else listedF E s := by
  refine onKeys_set hj (by simp) (fun i hi => ?_)
  simp [hi]
theorem listedF_key (E : List Nat) {j : Nat} (hj : j < 8) : (listedF E (keyS j)).getD (.bool false) = .bool (E.contains j) := by
  unfold listedF
  rw [onKeys_key _ hj]
  by_cases h : E.contains j = true
  · rw [if_pos h, h]; rfl
  · have h : E.contains j = false := by simpa using h
    rw [if_neg (by rw [h]; simp), h]; rfl

/-- The Seq of place j. -/
def seqOf (st : Nat → Option (Int × Bool)) (j : Nat) : Int := ((st j).getD (0, false)).1
/-- An entry's cells. -/
def entV (st : Nat → Option (Int × Bool)) (j : Nat) : List Value := [.string (keyS j), .int .u64 (seqOf st j), .int .u64 0, .int .u64 0, .slice none 0 0, .bool true]
def entCells (st : Nat → Option (Int × Bool)) (E : List Nat) : List Value := E.flatMap (entV st)
theorem entCells_snoc (st : Nat → Option (Int × Bool)) (E : List Nat) (j : Nat) : entCells st (E ++ [j]) = entCells st E ++ entV st j := by simp [entCells]
theorem entV_one (st : Nat → Option (Int × Bool)) (j : Nat) : ∀ u ∈ entV st j, u.oneCell' = true := by
  intro u hu
  simp [entV] at hu
  rcases hu with rfl | rfl | rfl | rfl | rfl <;> rfl

theorem regF_key (its : List Item) (n : Nat) {j : Nat} (hj : j < 8) : regF its n (keyS j) = (stTo its n j).map regV := onKeys_key _ hj

/-- What may turn under 'sweepable'. -/
abbrev swS (cb gd rb : Nat) : Nat → Prop := fun q => q = cb ∨ q = gd ∨ q = rb

/-- The places that a sweep is of, behind the first k deletions. -/
def expK (its : List Item) (ni : Nat) (ds : List Int) (k : Nat) : List Nat := expTo (isDel (stTo its ni)) ds k

structure SwInv (w wr : World) (cb B gd rb bl ni nd : Nat) (its : List Item) (ds : List Int) (ep pr x1 x4 : Int) (at_ : Option Addr) (nt ct : Nat) (ts : List Int) (k : Nat) (dv : Value) : Prop where
  rep : RepBlk wr rb (clockV B) 1 ep pr x1 x4 (B + 2) false (.slice (some ⟨gd, 0, none⟩) nd nd)
  clk : ClockAt wr cb (B + 1) B 1 at_ nt ct ts
  regs : MapFn wr (B + 2) ni (regF its ni)
  lst : MapFn wr bl k (listedF (expK its ni ds k))
  row : KRow wr gd nd ds (expK its ni ds k) k
  own : wr.ownsRow (bl + 1) 52 6 dv (expK its ni ds k).length (entCells (stTo its ni) (expK its ni ds k))
  nil : expK its ni ds k = [] → dv = .slice none 0 0
  keep : Keep (swS cb gd rb) w wr
  sz : bl + 1 ≤ wr.heap.size

section
variable {w wr : World} {cb B gd rb bl ni nd : Nat} {its : List Item} {ds : List Int} {ep pr x1 x4 : Int} {at_ : Option Addr} {nt ct : Nat} {ts : List Int} {k : Nat} {dv : Value}

theorem SwInv.skip (h : SwInv w wr cb B gd rb bl ni nd its ds ep pr x1 x4 at_ nt ct ts k dv) (hE : expK its ni ds (k + 1) = expK its ni ds k) (O : Obj) :
    SwInv w (wr.alloc O) cb B gd rb bl ni nd its ds ep pr x1 x4 at_ nt ct ts (k + 1) dv := by
  have hsz := h.sz
  have hcl := (Array.getElem?_eq_some_iff.1 h.clk.hcb).1
  refine ⟨h.rep.stay (Below.heap_alloc _ _ _ h.rep.lt), h.clk.stay (Below.heap_alloc _ _ _ hcl) (Below.heap_alloc _ _ _ (Array.getElem?_eq_some_iff.1 h.clk.hbc).1) (Below.heap_alloc _ _ _ (Array.getElem?_eq_some_iff.1 h.clk.hbt).1) (fun q hq => Below.heap_alloc _ _ _ (by omega)),
    h.regs.stay (Below.heap_alloc _ _ _ h.regs.lt), ?_, ?_, ?_, ?_, h.keep.alloc O, by simp; omega⟩
  · rw [hE]; exact (h.lst.mono (Nat.le_succ k)).stay (Below.heap_alloc _ _ _ h.lst.lt)
  · rw [hE]; exact h.row.skip.stay (Below.heap_alloc _ _ _ h.row.lt)
  · rw [hE]; exact h.own.alloc O
  · rw [hE]; exact h.nil

theorem SwInv.hit (h : SwInv w wr cb B gd rb bl ni nd its ds ep pr x1 x4 at_ nt ct ts k dv) {j : Nat} (hj : j < 8) (hE : expK its ni ds (k + 1) = expK its ni ds k ++ [j]) (hlen : (expK its ni ds k).length ≤ k) (hk : k < nd)
    (o0 : cb < B) (o1 : B + 2 < gd) (o2 : gd < rb) (o3 : rb < bl) (hwb : w.heap.size ≤ bl) {O1 O2 O3 : Obj} {wb wc2 we : World} {dv' : Value} (hMb : MapFn wb bl (k + 1) (fun t => if t = keyS j then some (.bool true) else listedF (expK its ni ds k) t)) (hgb : (wr.alloc O1).grownBy wb (some bl))
    (hwc : wc2 = (wb.setCell ⟨gd, (expK its ni ds k).length, none⟩ (.string (keyS j))).alloc O2)
    (hown : we.ownsRow (bl + 1) 52 6 dv' ((expK its ni ds k).length + 1) (entCells (stTo its ni) (expK its ni ds k) ++ entV (stTo its ni) j))
    (hge : (wc2.alloc O3).grownBy we dv.ownBlock) :
    SwInv w we cb B gd rb bl ni nd its ds ep pr x1 x4 at_ nt ct ts (k + 1) dv' := by
  have hsz := h.sz
  have hbs : wr.heap.size + 1 ≤ wb.heap.size := by have := hgb.size; simpa using this
  have hcs : wc2.heap.size = wb.heap.size + 1 := by rw [hwc, World.size_alloc, size_setCell]
  have hob : ∀ q, dv.ownBlock = some q → bl + 1 ≤ q := fun q hq => (h.own.lt q hq).1
  have e1 : ∀ q, q ≤ bl → we.heap[q]? = wc2.heap[q]? := fun q hq => by
    rw [hge.block q (by simp; omega) (by intro he; have := hob q he.symm; omega), Below.heap_alloc _ _ _ (by omega)]
  have e2 : ∀ q, q < bl → wb.heap[q]? = wr.heap[q]? := fun q hq => by
    rw [hgb.block q (by simp; omega) (by intro he; simp at he; omega)]
    exact Below.heap_alloc _ _ _ (by omega)
  have e4 : ∀ q, q ≤ bl → q ≠ gd → wc2.heap[q]? = wb.heap[q]? := fun q hq hne => by rw [hwc, Below.heap_alloc _ _ _ (by rw [size_setCell]; omega), Below.heap_setCell _ _ _ _ hne]
  have e3 : ∀ q, q < bl → q ≠ gd → we.heap[q]? = wr.heap[q]? := fun q hq hne => by rw [e1 q (by omega), e4 q (by omega) hne, e2 q hq]
  refine ⟨h.rep.stay (e3 _ o3 (by omega)), h.clk.stay (e3 _ (by omega) (by omega)) (e3 _ (by omega) (by omega)) (e3 _ (by omega) (by omega)) (fun q hq => e3 q (by omega) (by omega)), h.regs.stay (e3 _ (by omega) (by omega)), ?_, ?_, ?_, ?_, ?_, ?_⟩
  · rw [hE, listedF_snoc _ hj]
    exact hMb.stay (by rw [e1 bl (Nat.le_refl _), e4 bl (Nat.le_refl _) (by omega)])
  · rw [hE]
    have hr : KRow wb gd nd ds (expK its ni ds k) k := h.row.stay (e2 gd (by omega))
    exact (hr.put hlen hk j).stay (by rw [e1 gd (by omega), hwc, Below.heap_alloc _ _ _ (by rw [size_setCell]; omega)])
  · rw [hE, entCells_snoc]
    simpa using hown
  · intro he
    rw [hE] at he
    simp at he
  · have hk1 : Keep (swS cb gd rb) w wb := (h.keep.alloc O1).grown hgb (by intro q hq hlt; cases hq; omega)
    have hk2 : Keep (swS cb gd rb) w wc2 := by rw [hwc]; exact (hk1.setCell (S := swS cb gd rb) (.inr (.inl rfl)) _).alloc O2
    exact (hk2.alloc O3).grown hge (by intro q hq hlt; have := hob q hq; omega)
  · have := hge.size
    simp at this
    omega
end

end Go.Proofs.Ybulkcdpm
