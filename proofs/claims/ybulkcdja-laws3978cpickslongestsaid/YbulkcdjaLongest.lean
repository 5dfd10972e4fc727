/-
  The contract of 'longest' (9).
-/
import Derived.Test.YbulkcdjaSuf
namespace Go.Proofs.Ybulkcdja
open Go.RowKit

/-- The rules rs lie at block b from off on, two cells each. -/
def RulesAt (w : World) (b off : Nat) (rs : List Rl) : Prop := ∀ i, i < rs.length → w.cell? ⟨b, off + i * 2, none⟩ = some (.string (rs.getD i nilRl).1) ∧ w.cell? ⟨b, off + i * 2 + 1, none⟩ = some (.string (rs.getD i nilRl).2)

theorem Yba.cells36 : Yba.prog.cellsOf 36 = 2 := by kernel_rfl

/-- What '[]byte(s)' lays holds the bytes of s. -/
theorem bytesRow_at (W : World) (B : Nat) (hB : W.heap.size = B) (s : ByteArray) (cap : Nat) (fr : Nat × Nat) : BytesAt (W.alloc (.cells (bytesRow s cap) 5 fr)).drew B 0 s.data.toList := by
  subst hB
  intro j hj
  have h := heap_alloc_new W (.cells (bytesRow s cap) 5 fr)
  show (W.alloc (.cells (bytesRow s cap) 5 fr)).cell? _ = _
  simp only [World.cell?, h]
  have hj' : j < s.data.size := by simpa using hj
  have hj2 : j < s.size := hj'
  simp [bytesRow, List.getD, Array.getElem?_append, hj2]

/-- Two blocks laid and a draw: the first one's cells; all that was there. -/
theorem two_blocks (wr : World) (A : Array Value) (O : Obj) : (∀ i, ((wr.alloc (.cells A 36)).alloc O).drew.cell? ⟨wr.heap.size, i, none⟩ = A[i]?) ∧ (∀ k, k < wr.heap.size → ((wr.alloc (.cells A 36)).alloc O).drew.heap[k]? = wr.heap[k]?) ∧
    Below wr.heap.size wr ((wr.alloc (.cells A 36)).alloc O).drew := by
  refine ⟨fun i => ?_, fun k hk => ?_, (((Below.refl _ _).alloc (Nat.le_refl _) _).alloc (by simp) _).drew⟩
  · have h : ((wr.alloc (.cells A 36)).alloc O).heap[wr.heap.size]? = some (.cells A 36) := by rw [Below.heap_alloc _ _ _ (by simp)]; exact heap_alloc_new _ _
    show ((wr.alloc (.cells A 36)).alloc O).cell? _ = _
    simp [World.cell?, h]
  · show ((wr.alloc (.cells A 36)).alloc O).heap[k]? = _
    rw [Below.heap_alloc _ _ _ (by simp; omega), Below.heap_alloc _ _ _ hk]

theorem heap_two_stores (W : World) (g : Nat) (x y a b : Value) (h : W.heap[g]? = some (.cells #[a, b] 36 (0, 0))) : ((W.setCell ⟨g, 0, none⟩ x).setCell ⟨g, 1, none⟩ y).heap[g]? = some (.cells #[x, y] 36 (0, 0)) := by
  have hg := (Array.getElem?_eq_some_iff.1 h).1
  have hv := (Array.getElem?_eq_some_iff.1 h).2
  simp [World.setCell, Array.getElem?_modify, h]

theorem BytesAt.old {w w' : World} {B b off : Nat} {l : List UInt8} (h : BytesAt w b off l) (hB : Below B w w') (hb : b < B) : BytesAt w' b off l :=
  fun j hj => (hB.cell (p := ⟨b, off + j, none⟩) hb).trans (h j hj)

set_option maxHeartbeats 1000000 in
theorem longest9 (b off n c br offr m cr : Nat) (l : List UInt8) (rs : List Rl) (w : World) (hn : l.length = n) (hm : rs.length = m) (hnc : n ≤ c) (hbig : n ≤ 4611686018427387904) (hmb : m ≤ 1024)
    (h1 : BytesAt w b off l) (hb : b < w.heap.size) (h2 : RulesAt w br offr rs) (hbr : br < w.heap.size) (hsz : ∀ i, i < m → (rs.getD i nilRl).1.size ≤ 4611686018427387904) :
    Calls Yba.prog 9 #[.slice (some ⟨b, off, none⟩) n c, .slice (some ⟨br, offr, none⟩) m cr] w fun e w' =>
      e = .returned (.tuple #[.agg #[.string (best l rs m).1.1, .string (best l rs m).1.2], .bool (best l rs m).2]) ∧ Below w.heap.size w w' := by
  have hconv : ∀ (w : World) (s : ByteArray), _ := fun w s => run_bytes_of_string (P := Yba.prog) w 9 29 5 s Yba.underlying9 Yba.underlying29 Yba.underlying5
  have Hconv : Hid (_) := hconv
  clear hconv
  go_enter Yba.func9, Yba.ntmps9
  go_wp2
  go_loopw [7, 12] (fun ok i wr => ∃ k : Nat, k ≤ m ∧ i = .int .i64 k ∧ ok = .bool (best l rs k).2 ∧ Below w.heap.size w wr ∧ wr.heap[w.heap.size]? = some (.cells #[.string ⟨#[]⟩, .string ⟨#[]⟩] 36 (0, 0)) ∧
      wr.heap[w.heap.size + 1]? = some (.cells #[.string (best l rs k).1.1, .string (best l rs k).1.2] 36 (0, 0))) (fun _ i _ => m - (intOf i).toNat)
  case atStart =>
    refine ⟨0, Nat.zero_le _, rfl, rfl, ((Below.refl _ _).alloc (Nat.le_refl _) _).alloc (by simp) _, ?_, ?_⟩
    · rw [Below.heap_alloc _ _ _ (by simp)]; exact heap_alloc_new _ _
    · have := heap_alloc_new (w.alloc (.cells #[.string ⟨#[]⟩, .string ⟨#[]⟩] 36)) (.cells #[.string ⟨#[]⟩, .string ⟨#[]⟩] 36)
      simpa [best_zero, nilRl] using this
  case round =>
    obtain ⟨k, hk, rfl, rfl, hB, hr0, hr1⟩ := hrel
    by_cases hlt : k < m
    · have hz : w.heap.size + 1 < wr.heap.size := (Array.getElem?_eq_some_iff.1 hr1).1
      have hc := h2 k (by omega)
      have hc0 : wr.cell? ⟨br, offr + k * 2, none⟩ = some (.string (rs.getD k nilRl).1) := (hB.cell (p := ⟨br, offr + k * 2, none⟩) hbr).trans hc.1
      have hc1 : wr.cell? ⟨br, offr + k * 2 + 1, none⟩ = some (.string (rs.getD k nilRl).2) := (hB.cell (p := ⟨br, offr + k * 2 + 1, none⟩) hbr).trans hc.2
      clear hc
      have hf0 : wr.cell? ⟨w.heap.size + 1, 0, none⟩ = some (.string (best l rs k).1.1) := by simp [World.cell?, hr1]
      have hf1 : wr.cell? ⟨w.heap.size + 1, 1, none⟩ = some (.string (best l rs k).1.2) := by simp [World.cell?, hr1]
      have hfr0 : wr.frozen? ⟨w.heap.size + 1, 0, none⟩ = false := by simp [World.frozen?, hr1]
      have hfr1 : wr.frozen? ⟨w.heap.size + 1, 1, none⟩ = false := by simp [World.frozen?, hr1]
      have hb1 : BytesAt wr b off l := fun j hj => (hB.cell (p := ⟨b, off + j, none⟩) hb).trans (h1 j hj)
      have hs1 := hsz k hlt
      by_cases hgt : (best l rs k).1.1.size < (rs.getD k nilRl).1.size
      · by_cases hen : endsB l (rs.getD k nilRl).1.data.toList = true
        · have HN : Hid (best l rs (k + 1) = (rs.getD k nilRl, true)) := best_yes l rs k (by omega) hgt hen
          generalize hr : rs.getD k nilRl = r at *
          generalize hf : best l rs k = f at *
          obtain ⟨r1, r2⟩ := r
          obtain ⟨⟨f1, f2⟩, fb⟩ := f
          simp only at *
          clear h1 h2 hsz hr hf
          have Hr : Hid (wr.heap[w.heap.size]? = some (.cells #[.string ⟨#[]⟩, .string ⟨#[]⟩] 36 (0, 0)) ∧ wr.heap[w.heap.size + 1]? = some (.cells #[.string f1, .string f2] 36 (0, 0))) := ⟨hr0, hr1⟩
          have Hen : Hid (endsB l r1.data.toList = true) := hen
          clear hr0 hr1 hen
          have hconv := Hconv.out
          go_wp2_with fail
          generalize grownCap (wr.alloc (.cells #[.string r1, .string r2] 36)) r1.size 0 5 = cp
          refine (suffix11 b off n c _ _ _ _ l r1.data.toList _ hn (by simp) hnc (by omega) (by exact (hb1.old ((((Below.refl w.heap.size wr).alloc hB.size _).alloc (by simp; omega) _).drew) hb)) (by exact bytesRow_at (wr.alloc (.cells #[.string r1, .string r2] 36)) _ (by simp) r1 cp _)).mono ?_
          rintro e w' ⟨rfl, rfl⟩
          rw [Hen.out]
          obtain ⟨hA, hO, hBl⟩ := two_blocks wr #[.string r1, .string r2] (.cells (bytesRow r1 cp) 5 ((bytesRow r1 cp).size, (bytesRow r1 cp).size + 1))
          generalize ((wr.alloc (.cells #[.string r1, .string r2] 36)).alloc (.cells (bytesRow r1 cp) 5 ((bytesRow r1 cp).size, (bytesRow r1 cp).size + 1))).drew = W2 at *
          have hB2 : Below w.heap.size w W2 := hB.trans (hBl.mono hB.size)
          have g0 : W2.cell? ⟨wr.heap.size, 0, none⟩ = some (.string r1) := hA 0
          have g1 : W2.cell? ⟨wr.heap.size, 1, none⟩ = some (.string r2) := hA 1
          have HR1 : W2.heap[w.heap.size + 1]? = some (.cells #[.string f1, .string f2] 36 (0, 0)) := (hO _ (by omega)).trans Hr.out.2
          have HR0 : W2.heap[w.heap.size]? = some (.cells #[.string ⟨#[]⟩, .string ⟨#[]⟩] 36 (0, 0)) := (hO _ (by omega)).trans Hr.out.1
          have k0 : W2.cell? ⟨w.heap.size + 1, 0, none⟩ = some (.string f1) := by simp [World.cell?, HR1]
          have k1 : W2.cell? ⟨w.heap.size + 1, 1, none⟩ = some (.string f2) := by simp [World.cell?, HR1]
          have f0 : W2.frozen? ⟨w.heap.size + 1, 0, none⟩ = false := by simp [World.frozen?, HR1]
          have f1' : W2.frozen? ⟨w.heap.size + 1, 1, none⟩ = false := by simp [World.frozen?, HR1]
          have HH : Hid (_) := And.intro HR0 HR1
          clear hA hO HR1 HR0
          go_wp2
          go_roundw
          case rel =>
            refine ⟨k + 1, by omega, by go_num, by rw [HN.out], (hB2.setCell (by simp) _).setCell (by simp) _, ?_, ?_⟩
            · rw [Below.heap_setCell _ _ _ _ (by simp), Below.heap_setCell _ _ _ _ (by simp)]; exact HH.out.1
            · rw [HN.out]; exact heap_two_stores _ _ _ _ _ _ HH.out.2
          case measure => simp [intOf]; omega
        · have HN : Hid (best l rs (k + 1) = best l rs k) := best_no l rs k (by omega) (fun h => hen h.2)
          have hen : endsB l (rs.getD k nilRl).1.data.toList = false := by simpa using hen
          generalize hr : rs.getD k nilRl = r at *
          generalize hf : best l rs k = f at *
          obtain ⟨r1, r2⟩ := r
          obtain ⟨⟨f1, f2⟩, fb⟩ := f
          simp only at *
          clear h1 h2 hsz hr hf
          have Hr : Hid (wr.heap[w.heap.size]? = some (.cells #[.string ⟨#[]⟩, .string ⟨#[]⟩] 36 (0, 0)) ∧ wr.heap[w.heap.size + 1]? = some (.cells #[.string f1, .string f2] 36 (0, 0))) := ⟨hr0, hr1⟩
          have Hen : Hid (endsB l r1.data.toList = false) := hen
          clear hr0 hr1 hen
          have hconv := Hconv.out
          go_wp2_with fail
          generalize grownCap (wr.alloc (.cells #[.string r1, .string r2] 36)) r1.size 0 5 = cp
          refine (suffix11 b off n c _ _ _ _ l r1.data.toList _ hn (by simp) hnc (by omega) (by exact (hb1.old ((((Below.refl w.heap.size wr).alloc hB.size _).alloc (by simp; omega) _).drew) hb)) (by exact bytesRow_at (wr.alloc (.cells #[.string r1, .string r2] 36)) _ (by simp) r1 cp _)).mono ?_
          rintro e w' ⟨rfl, rfl⟩
          rw [Hen.out]
          go_wp2
          go_roundw
          case rel => 
            refine ⟨k + 1, by omega, by go_num, by rw [HN.out], ((hB.alloc hB.size _).alloc (by simp; omega) _).drew, ?_, ?_⟩
            · show ((wr.alloc _).alloc _).heap[w.heap.size]? = _
              rw [Below.heap_alloc _ _ _ (by simp; omega), Below.heap_alloc _ _ _ (by omega)]; exact Hr.out.1
            · show ((wr.alloc _).alloc _).heap[w.heap.size + 1]? = _
              rw [Below.heap_alloc _ _ _ (by simp; omega), Below.heap_alloc _ _ _ (by omega), HN.out]; exact Hr.out.2
          case measure => simp [intOf]; omega
      · have HN : Hid (best l rs (k + 1) = best l rs k) := best_no l rs k (by omega) (fun h => hgt h.1)
        generalize hr : rs.getD k nilRl = r at *
        generalize hf : best l rs k = f at *
        obtain ⟨r1, r2⟩ := r
        obtain ⟨⟨f1, f2⟩, fb⟩ := f
        simp only at *
        clear h1 h2 hsz hr hf
        have Hr : Hid (wr.heap[w.heap.size]? = some (.cells #[.string ⟨#[]⟩, .string ⟨#[]⟩] 36 (0, 0)) ∧ wr.heap[w.heap.size + 1]? = some (.cells #[.string f1, .string f2] 36 (0, 0))) := ⟨hr0, hr1⟩
        clear hr0 hr1
        go_wp2
        go_roundw
        case rel =>
          refine ⟨k + 1, by omega, by go_num, by rw [HN.out], hB.alloc hB.size _, ?_, ?_⟩
          · rw [Below.heap_alloc _ _ _ (by omega)]; exact Hr.out.1
          · rw [Below.heap_alloc _ _ _ (by omega), HN.out]; exact Hr.out.2
        case measure => simp [intOf]; omega
    · have he : k = m := by omega
      subst he
      generalize hf : best l rs k = f at *
      obtain ⟨⟨f1, f2⟩, fb⟩ := f
      have HF : Hid (best l rs k = ((f1, f2), fb)) := hf
      clear hf
      simp only at *
      have k0 : wr.cell? ⟨w.heap.size + 1, 0, none⟩ = some (.string f1) := by simp [World.cell?, hr1]
      have k1 : wr.cell? ⟨w.heap.size + 1, 1, none⟩ = some (.string f2) := by simp [World.cell?, hr1]
      have c0 : wr.cell? ⟨w.heap.size, 0, none⟩ = some (.string ⟨#[]⟩) := by simp [World.cell?, hr0]
      have c1 : wr.cell? ⟨w.heap.size, 1, none⟩ = some (.string ⟨#[]⟩) := by simp [World.cell?, hr0]
      have f0' : wr.frozen? ⟨w.heap.size, 0, none⟩ = false := by simp [World.frozen?, hr0]
      have f1' : wr.frozen? ⟨w.heap.size, 1, none⟩ = false := by simp [World.frozen?, hr0]
      clear hr0 hr1 h1 h2 hsz
      go_wp2
      exact bodyPost_ret (v := .tuple #[.agg #[.string f1, .string f2], .bool fb]) (by simp [results, Yba.results9, go_sem, c0, c1]) rfl ⟨by rw [HF.out], (hB.setCell (by simp) _).setCell (by simp) _⟩

end Go.Proofs.Ybulkcdja
