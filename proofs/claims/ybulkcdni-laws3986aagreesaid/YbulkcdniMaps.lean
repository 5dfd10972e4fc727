/-
  Maps keyed by strings: a map that came in (int elements); a map of the call's own, told as a function of its keys; entryPlace (11, 12) with an index; the picked key is no longer than a string can be.
-/
import Derived.Test.YbulkcdniNames
import Derived.Maps.OwnSet
import Derived.Maps.OwnOps
namespace Go.Proofs.Ybulkcdni
open Go.RowKit Go.WideMaps Go.Maps

theorem law9 : Keyed Yba.prog 9 := string_keyed Yba.underlying9
theorem zero3 (w : World) : (zeroValue 3).run Yba.prog w = .ok (.int .i64 0) w := by kernel_rfl
theorem key9 {s : ByteArray} (hs : s.size ≤ maxLen) : keyOf Yba.prog 9 (.string s) = some (.string s.data.toList) := keyOf_string_mk Yba.underlying9 hs

/-- A look-up in a map of ints that came in gives the same in every world in which the map is what it was. -/
theorem look_in {H : Type} {W : World} {b nn : Nat} {D : DataW H} (h : W.ownsMap Yba.prog 9 (plainElem Yba.prog 3) b nn D) {key : ByteArray} (hk : key.size ≤ maxLen) :
    ∃ (c : Int) (ok : Bool), ∀ W' : World, W'.ownsMap Yba.prog 9 (plainElem Yba.prog 3) b nn D → (Instr.lookup 30 (.map (some b)) (.string key) true).run Yba.prog W' = .ok (.tuple #[.int .i64 c, .bool ok]) W' := by
  have hall : ∀ W' : World, W'.ownsMap Yba.prog 9 (plainElem Yba.prog 3) b nn D → ∃ c : Int, (Instr.lookup 30 (.map (some b)) (.string key) true).run Yba.prog W' = .ok (.tuple #[.int .i64 c, .bool (Maps.has D (.string key.data.toList))]) W' ∧ D.atKey (.string key.data.toList) (.lit (.int .i64 0)) = .lit (.int .i64 c) := by
    intro W' h'
    obtain ⟨v, ps, hrun, hv⟩ := h'.look_ok law9 Yba.underlying30 (zero3 W') (plainElem_int Yba.underlying3 (by decide)) (key9 hk)
    obtain ⟨c, rfl, hc, _⟩ := plainElem_int_inv Yba.underlying3 hv
    exact ⟨c, hrun, congrArg Prod.fst hc⟩
  obtain ⟨c, _, hc⟩ := hall W h
  refine ⟨c, Maps.has D (.string key.data.toList), fun W' h' => ?_⟩
  obtain ⟨c', hrun, hc'⟩ := hall W' h'
  rw [hc] at hc'
  simp only [DataW.lit.injEq, Lit.int.injEq, true_and] at hc'
  rw [hc']
  exact hrun

/-- What 'entryPlace' hands back of a look-up. -/
def placeOf (ok : Bool) (c : Int) : Int := if ok = true then c else -1

theorem map_some (b : Nat) (w : World) : (binOp .eql 30 (.map (some b)) (.map none)).run Yba.prog w = .ok (.bool false) w := by kernel_rfl

set_option maxHeartbeats 400000 in
theorem place11_map (v : Value) (b : Nat) (key : ByteArray) (c : Int) (ok : Bool) (w : World) (hl : (Instr.lookup 30 (.map (some b)) (.string key) true).run Yba.prog w = .ok (.tuple #[.int .i64 c, .bool ok]) w) :
    Calls Yba.prog 11 #[v, .map (some b), .string key] w fun e w' => e = .returned (.int .i64 (placeOf ok c)) ∧ w' = w := by
  have hm := map_some b
  cases ok
  · go_enter Yba.func11, Yba.ntmps11
    go_wp2
    go_ret
    exact ⟨rfl, rfl⟩
  · go_enter Yba.func11, Yba.ntmps11
    go_wp2
    go_ret
    exact ⟨rfl, rfl⟩

set_option maxHeartbeats 400000 in
theorem place12_map (v : Value) (b : Nat) (key : ByteArray) (c : Int) (ok : Bool) (w : World) (hl : (Instr.lookup 30 (.map (some b)) (.string key) true).run Yba.prog w = .ok (.tuple #[.int .i64 c, .bool ok]) w) :
    Calls Yba.prog 12 #[v, .map (some b), .string key] w fun e w' => e = .returned (.int .i64 (placeOf ok c)) ∧ w' = w := by
  have hm := map_some b
  cases ok
  · go_enter Yba.func12, Yba.ntmps12
    go_wp2
    go_ret
    exact ⟨rfl, rfl⟩
  · go_enter Yba.func12, Yba.ntmps12
    go_wp2
    go_ret
    exact ⟨rfl, rfl⟩

/-- Some string comes back, no longer than a string can be; nothing turns. -/
def PickedS (w : World) (e : Ending) (w' : World) : Prop := ∃ key : ByteArray, e = .returned (.string key) ∧ w' = w ∧ key.size ≤ maxLen

set_option maxHeartbeats 400000 in
theorem pick8s (a : Option Addr) (n c : Nat) (ns : List ByteArray) (key : ByteArray) (p : Int) (use : Bool) (w : World) (h0 : 0 ≤ p) (h1 : p ≤ 255) (hr : NamesAt w a n ns) (hks : key.size ≤ maxLen) (hns : ∀ i, i < n → (nameAt ns i).size ≤ maxLen) :
    Calls Yba.prog 8 #[.slice a n c, .string key, .int .u8 p, .bool use] w (PickedS w) := by
  have HK := hidE hks
  clear hks
  by_cases hu : use = true
  · subst hu
    by_cases hn : 0 < n
    · obtain ⟨q, hq, hqn⟩ := pick_index p n h0 hn
      have hqn' : (q : Int) < (n : Int) := by omega
      obtain ⟨b, off, rfl, hb, hc⟩ := hr.pos (Below.refl _ _) hqn
      have hd : decide ((0 : Int) < (n : Int)) = true := decide_eq_true (by omega)
      have HQ := hidE (hns q hqn)
      clear hr hns
      generalize nameAt ns q = s at *
      go_enter Yba.func8, Yba.ntmps8
      go_wp2
      go_ret
      exact ⟨s, rfl, rfl, HQ.out⟩
    · have hd : decide ((0 : Int) < (n : Int)) = false := decide_eq_false (by omega)
      clear hr hns
      go_enter Yba.func8, Yba.ntmps8
      go_wp2
      go_ret
      exact ⟨key, rfl, rfl, HK.out⟩
  · have hu : use = false := by simpa using hu
    subst hu
    clear hr hns
    go_enter Yba.func8, Yba.ntmps8
    go_wp2
    go_ret
    exact ⟨key, rfl, rfl, HK.out⟩

/-! ### a map of the call's own, told as a function of its keys -/

/-- How an element reads: as a token of itself. -/
def tokR (v : Value) : Option (DataW Value × List MemPlace) := some (.held v, [])

/-- Block b is a map of at most nn entries; at each key s it holds f s. -/
def MapFn (w : World) (b nn : Nat) (f : ByteArray → Option Value) : Prop :=
  ∃ D : DataW Value, w.ownsMap Yba.prog 9 tokR b nn D ∧ ∀ s : ByteArray, s.size ≤ maxLen → Maps.has D (.string s.data.toList) = (f s).isSome ∧ ∀ z, D.atKey (.string s.data.toList) (.held z) = .held ((f s).getD z)

theorem MapFn.made (w : World) : MapFn (w.alloc (.map #[] 0)) w.heap.size 0 (fun _ => none) :=
  ⟨.map [], World.ownsMap_made _ _ _ _, fun _ _ => ⟨rfl, fun _ => rfl⟩⟩

theorem MapFn.lt {w : World} {b nn : Nat} {f : ByteArray → Option Value} (h : MapFn w b nn f) : b < w.heap.size := by
  obtain ⟨D, h, _⟩ := h
  exact h.lt

theorem MapFn.kept {w w' : World} {b nn : Nat} {f : ByteArray → Option Value} (h : MapFn w b nn f) {row : Option Nat} (hg : w.grownBy w' row) (hne : some b ≠ row) : MapFn w' b nn f := by
  obtain ⟨D, h, h2⟩ := h
  exact ⟨D, h.kept hg hne, h2⟩

theorem MapFn.stay {w w' : World} {b nn : Nat} {f : ByteArray → Option Value} (h : MapFn w b nn f) (hb : w'.heap[b]? = w.heap[b]?) : MapFn w' b nn f := by
  obtain ⟨D, ⟨es, clock, h1, h3⟩, h2⟩ := h
  exact ⟨D, ⟨es, clock, hb.trans h1, h3⟩, h2⟩

theorem MapFn.look {w : World} {b nn : Nat} {f : ByteArray → Option Value} (h : MapFn w b nn f) {s : ByteArray} (hs : s.size ≤ maxLen) :
    (Instr.lookup 30 (.map (some b)) (.string s) true).run Yba.prog w = .ok (.tuple #[(f s).getD (.int .i64 0), .bool (f s).isSome]) w := by
  obtain ⟨D, h, hf⟩ := h
  obtain ⟨v, ps, hrun, hv⟩ := h.look_ok law9 Yba.underlying30 (zero3 w) (zd := .held (.int .i64 0)) (zp := []) rfl (key9 hs)
  rw [(hf s hs).2, (hf s hs).1] at *
  simp only [tokR, Option.some.injEq, Prod.mk.injEq, DataW.held.injEq] at hv
  rw [← hv.1]
  exact hrun

theorem lit_ne {s t : ByteArray} (h : t ≠ s) : (Lit.string t.data.toList) ≠ Lit.string s.data.toList := by
  intro he
  apply h
  simp only [Lit.string.injEq] at he
  have : t.data = s.data := Array.toList_inj.1 he
  cases t; cases s; simp_all

theorem MapFn.update {w : World} {b nn : Nat} {f : ByteArray → Option Value} (h : MapFn w b nn f) (hn : nn < maxLen) {s : ByteArray} (hs : s.size ≤ maxLen) (v : Value) :
    ∃ w', (Instr.mapUpdate 30 (.map (some b)) (.string s) v).run Yba.prog w = .ok () w' ∧ MapFn w' b (nn + 1) (fun t => if t = s then some v else f t) ∧ w.grownBy w' (some b) := by
  obtain ⟨D, h, hf⟩ := h
  obtain ⟨w', hrun, hown, hg⟩ := h.update law9 Yba.underlying30 hn (key9 hs) (val := v) (d := .held v) (ps := []) rfl
  refine ⟨w', hrun, ⟨D.put (.string s.data.toList) (.held v), hown, fun t ht => ?_⟩, hg⟩
  by_cases hts : t = s
  · subst hts
    simp only [if_true]
    exact ⟨has_put_same h.isMap (law9.key (key9 hs)) _, fun z => atKey_put_same h.isMap (law9.key (key9 hs)) _ _⟩
  · simp only [if_neg hts]
    rw [has_put_other (lit_ne hts)]
    refine ⟨(hf t ht).1, fun z => ?_⟩
    rw [atKey_put_other (lit_ne hts)]
    exact (hf t ht).2 z

end Go.Proofs.Ybulkcdni
