/-
  What the contracts of this seat share: maps keyed by strings, told as functions; the replica's blocks.
-/
import Derived.Test.YbulkcdpmRows
import Derived.Test.YbulkcdpmPlain
import Derived.Test.YbulkcdpmLocks
import Derived.WalkKit
import Derived.WalkSpells
import Derived.WalkLawsBesides
import Derived.Deep.QuietTactic
import Derived.BigQuiet
import Derived.Deep.LoopGhost
import Derived.Deep.RegionWith
import Derived.Maps.OwnSet
import Derived.Maps.OwnOps
import Derived.Laws.EntriesVeiled
import Derived.Deep.AppendSrc
import Derived.Deep.AppendLies
namespace Go.Proofs.Ybulkcdpm
open Go.RowKit Go.WideMaps Go.Maps

theorem hidE {p : Prop} (h : p) : Hid p := h

theorem law9 : Keyed Yba.prog 9 := string_keyed Yba.underlying9
theorem key9 {s : ByteArray} (hs : s.size ≤ maxLen) : keyOf Yba.prog 9 (.string s) = some (.string s.data.toList) := keyOf_string_mk Yba.underlying9 hs
theorem zero3 (w : World) : (zeroValue 3).run Yba.prog w = .ok (.int .i64 0) w := by kernel_rfl
theorem zero4 (w : World) : (zeroValue 4).run Yba.prog w = .ok (.bool false) w := by kernel_rfl
/-- A Register as a value. -/
def regV (p : Int × Bool) : Value := .agg #[.int .u64 p.1, .int .u64 0, .int .u64 0, .slice none 0 0, .bool p.2]
theorem zero50 (w : World) : (zeroValue 50).run Yba.prog w = .ok (regV (0, false)) w := by kernel_rfl

/-- How an element reads: as a token of itself. -/
def tokR (v : Value) : Option (DataW Value × List MemPlace) := some (.held v, [])

/-- Block b is a map of at most nn entries; at each key s it holds f s. -/
def MapFn (w : World) (b nn : Nat) (f : ByteArray → Option Value) : Prop :=
  ∃ D : DataW Value, w.ownsMap Yba.prog 9 tokR b nn D ∧ ∀ s : ByteArray, s.size ≤ maxLen → Maps.has D (.string s.data.toList) = (f s).isSome ∧ ∀ z, D.atKey (.string s.data.toList) (.held z) = .held ((f s).getD z)

theorem MapFn.made (w : World) : MapFn (w.alloc (.map #[] 0)) w.heap.size 0 (fun _ => none) :=
  ⟨.map [], World.ownsMap_made _ _ _ _, fun _ _ => ⟨rfl, fun _ => rfl⟩⟩

theorem MapFn.lt {w : World} {b nn : Nat} {f : ByteArray → Option Value} (h : MapFn w b nn f) : b < w.heap.size := by
  obtain ⟨D, h, _⟩ := h
  exact h.lt

theorem MapFn.mono {w : World} {b nn nn' : Nat} {f : ByteArray → Option Value} (h : MapFn w b nn f) (hn : nn ≤ nn') : MapFn w b nn' f := by
  obtain ⟨D, h, h2⟩ := h
  exact ⟨D, h.mono hn, h2⟩

theorem MapFn.stay {w w' : World} {b nn : Nat} {f : ByteArray → Option Value} (h : MapFn w b nn f) (hb : w'.heap[b]? = w.heap[b]?) : MapFn w' b nn f := by
  obtain ⟨D, ⟨es, clock, h1, h3⟩, h2⟩ := h
  exact ⟨D, ⟨es, clock, hb.trans h1, h3⟩, h2⟩

/-- The block is a map: no row of cells. -/
theorem MapFn.isMap {w : World} {b nn : Nat} {f : ByteArray → Option Value} (h : MapFn w b nn f) : ∃ es clock, w.heap[b]? = some (.map es clock) := by
  obtain ⟨D, ⟨es, clock, h1, _⟩, _⟩ := h
  exact ⟨es, clock, h1⟩

theorem MapFn.look {w : World} {b nn : Nat} {f : ByteArray → Option Value} (h : MapFn w b nn f) {t e : TypeId} {z : Value} (ht : Yba.prog.underlying t = some (.map 9 e)) (hz : (zeroValue e).run Yba.prog w = .ok z w) {s : ByteArray} (hs : s.size ≤ maxLen) :
    (Instr.lookup t (.map (some b)) (.string s) true).run Yba.prog w = .ok (.tuple #[(f s).getD z, .bool (f s).isSome]) w := by
  obtain ⟨D, h, hf⟩ := h
  obtain ⟨v, ps, hrun, hv⟩ := h.look_ok law9 ht hz (zd := .held z) (zp := []) rfl (key9 hs)
  rw [(hf s hs).2, (hf s hs).1] at *
  simp only [tokR, Option.some.injEq, Prod.mk.injEq, DataW.held.injEq] at hv
  rw [← hv.1]
  exact hrun

theorem MapFn.look1 {w : World} {b nn : Nat} {f : ByteArray → Option Value} (h : MapFn w b nn f) {t e : TypeId} {z : Value} (ht : Yba.prog.underlying t = some (.map 9 e)) (hz : (zeroValue e).run Yba.prog w = .ok z w) {s : ByteArray} (hs : s.size ≤ maxLen) :
    (Instr.lookup t (.map (some b)) (.string s) false).run Yba.prog w = .ok ((f s).getD z) w := by
  obtain ⟨D, h, hf⟩ := h
  obtain ⟨v, ps, hrun, hv⟩ := h.lookup law9 ht hz (zd := .held z) (zp := []) rfl (key9 hs)
  rw [(hf s hs).2] at hv
  simp only [tokR, Option.some.injEq, Prod.mk.injEq, DataW.held.injEq] at hv
  rw [← hv.1]
  exact hrun

theorem lit_ne {s t : ByteArray} (h : t ≠ s) : (Lit.string t.data.toList) ≠ Lit.string s.data.toList := by
  intro he
  apply h
  simp only [Lit.string.injEq] at he
  have : t.data = s.data := Array.toList_inj.1 he
  cases t; cases s; simp_all

theorem MapFn.update {w : World} {b nn : Nat} {f : ByteArray → Option Value} (h : MapFn w b nn f) {t e : TypeId} (ht : Yba.prog.underlying t = some (.map 9 e)) (hn : nn < maxLen) {s : ByteArray} (hs : s.size ≤ maxLen) (v : Value) :
    ∃ w', (Instr.mapUpdate t (.map (some b)) (.string s) v).run Yba.prog w = .ok () w' ∧ MapFn w' b (nn + 1) (fun t => if t = s then some v else f t) ∧ w.grownBy w' (some b) ∧ w'.heap.size = w.heap.size := by
  obtain ⟨D, h, hf⟩ := h
  obtain ⟨w', hrun, hown, hturn⟩ := h.store law9 ht hn (key9 hs) (val := v) (d := .held v) (ps := []) rfl
  refine ⟨w', hrun, ⟨D.put (.string s.data.toList) (.held v), hown, fun t ht => ?_⟩, hturn.grown, ?_⟩
  · by_cases hts : t = s
    · subst hts
      simp only [if_true]
      exact ⟨has_put_same h.isMap (law9.key (key9 hs)) _, fun z => atKey_put_same h.isMap (law9.key (key9 hs)) _ _⟩
    · simp only [if_neg hts]
      rw [has_put_other (lit_ne hts)]
      refine ⟨(hf t ht).1, fun z => ?_⟩
      rw [atKey_put_other (lit_ne hts)]
      exact (hf t ht).2 z
  · obtain ⟨_, _, _, _, _, rfl⟩ := hturn
    simp [ChangeMaps.setBlock]

/-- 'm[k] = v' at the operation. -/
theorem wpList_mapUpdate_fn (w : World) {ops : Array Oper} {rest : List Oper} {o : Oper} {a : Act} {Q : Exit → Act → World → Prop}
    (hg : o.guard = none) (m x v : Operand) (t : TypeId) (hop : o.op = Op.mapUpdate t m x v) (e : TypeId) (ht : Yba.prog.underlying t = some (.map 9 e)) (b nn : Nat) (f : ByteArray → Option Value)
    (hm : a.eval m = .map (some b)) (hf : MapFn w b nn f) (hn : nn < maxLen) (s : ByteArray) (val : Value) (hx : a.eval x = .string s) (hv : a.eval v = val) (hs : s.size ≤ maxLen)
    (hK : ∀ w', MapFn w' b (nn + 1) (fun t => if t = s then some val else f t) → w.grownBy w' (some b) → wpList Yba.prog ops Q rest (a.put o.dst undef) w') :
    wpList Yba.prog ops Q (o :: rest) a w := by
  refine wpList_plain hg fun K' hK' => ?_
  obtain ⟨w', hrun, r1, r2, _⟩ := hf.update ht hn hs val
  unfold Oper.wp
  simp [execOp, hop, hm, hx, hv, hrun, Result.andThen]
  exact hK' _ _ (hK w' r1 r2)

/-- 'make(map[K]V, n)' -/
theorem run_makeMap_n {t k e : TypeId} (ht : Yba.prog.underlying t = some (.map k e)) (q : IntKind) (n : Int) (w : World) : (Instr.makeMap t (some (.int q n))).run Yba.prog w = .ok (.map (some w.heap.size)) (w.alloc (.map #[] 0)) := by
  simp [Instr.makeMap, run_underlying ht, asInt, asIntOf, newObj]
  rfl

/-- 'append(s, x)' of one element of one cell, where there is room: the one cell behind the length is written. -/
theorem wpList_append_room1 (w : World) {ops : Array Oper} {rest : List Oper} {o : Oper} {a : Act} {Q : Exit → Act → World → Prop} (hgd : o.guard = none) (s x : Operand) (t : TypeId)
    (ho : o.op = .call { callee := .builtin .append, args := #[s, x], argTypes := #[t, t] }) (e : TypeId) (i : TypeInfo) (ht : Yba.prog.underlying t = some (.slice e)) (hi : Yba.prog.info? e = some i) (hsize : i.size = 1)
    (g k cap : Nat) (hs : a.eval s = .slice (some ⟨g, 0, none⟩) k cap) (ad : Addr) (v : Value) (hx : a.eval x = .slice (some ad) 1 1) (hc : w.cell? ad = some v) (h1 : v.oneCell' = true) (hroom : k + 1 ≤ cap)
    (hcell : ∃ u, w.cell? ⟨g, k, none⟩ = some u) (hfr : w.frozen? ⟨g, k, none⟩ = false)
    (h : wpList Yba.prog ops Q rest (a.put o.dst (.slice (some ⟨g, 0, none⟩) (k + 1) cap)) (w.setCell ⟨g, k, none⟩ v)) : wpList Yba.prog ops Q (o :: rest) a w := by
  refine wpList_plain hgd fun K hK => ?_
  have hsrc : Src Yba.prog i.size t (.slice (some ad) 1 1) 1 [v] w := by
    rw [hsize]
    refine Src.ofSlice w ht ad 1 1 [v] rfl (fun j u hj => ?_) (fun u hu => by rw [List.mem_singleton.1 hu]; exact h1)
    match j, hj with
    | 0, hj =>
      simp only [List.getElem?_cons_zero, Option.some.injEq] at hj
      subst hj
      simpa [Addr.add] using hc
  obtain ⟨u, hu⟩ := hcell
  have hr := run_append_room_src (P := Yba.prog) w t t o.type e i ht hi g 0 k cap (.slice (some ad) 1 1) 1 [v] hsrc hroom (by
      intro j hj
      have : j = 0 := by simpa using hj
      subst this
      simp [hsize, hu]) (by
      intro j hj
      have : j = 0 := by simpa using hj
      subst this
      simpa [hsize] using hfr)
  unfold Oper.wp execOp
  simp only [ho, resolve, invoke, builtin, Sem.run_bind, Sem.run_pure, Result.andThen_ok, List.map_toArray, List.map_cons, List.map_nil, hs, hx, hr]
  have e1 : w.setCells g (0 + k * i.size) [v] = w.setCell ⟨g, k, none⟩ v := by simp [hsize, World.setCells]
  rw [e1]
  exact hK _ _ h

end Go.Proofs.Ybulkcdpm
