/-
  The walk of 'LawS3986AAgree' (5).
-/
import Derived.Test.YbulkcdniMaps
import Derived.Test.YbulkcdniDict
namespace Go.Proofs.Ybulkcdni
open Go.RowKit

theorem Yba.info43 : (Yba.prog.info? 43).map (fun i => (i.zero, i.size, i.bytes)) = some (some (.agg #[.string ⟨#[]⟩, .nilIface]), 2, 32) := by kernel_rfl

/-- What the index holds behind the first k names. -/
def idxFn (ns : List ByteArray) (k : Nat) (s : ByteArray) : Option Value := if firstTo ns s k = -1 then none else some (.int .i64 (firstTo ns s k))

theorem firstTo_other {ns : List ByteArray} {k : Nat} {t : ByteArray} (h : t ≠ nameAt ns k) : firstTo ns t (k + 1) = firstTo ns t k := by
  have he : eqS (nameAt ns k) t = false := by
    cases hb : eqS (nameAt ns k) t
    · rfl
    · exact absurd (eqS_iff.1 hb).symm h
  simp only [firstTo, he]
  split
  · rename_i h1; rw [h1]; simp
  · rfl

theorem idx_new {ns : List ByteArray} {k : Nat} (h : firstTo ns (nameAt ns k) k = -1) : idxFn ns (k + 1) = fun t => if t = nameAt ns k then some (.int .i64 (k : Int)) else idxFn ns k t := by
  funext t
  by_cases ht : t = nameAt ns k
  · subst ht
    have : firstTo ns (nameAt ns k) (k + 1) = (k : Int) := by simp only [firstTo]; rw [if_pos h, if_pos (eqS_iff.2 rfl)]
    simp only [idxFn, this, if_true]
    rw [if_neg (by omega)]
  · simp only [if_neg ht, idxFn, firstTo_other ht]

theorem idx_old {ns : List ByteArray} {k : Nat} (h : firstTo ns (nameAt ns k) k ≠ -1) : idxFn ns (k + 1) = idxFn ns k := by
  funext t
  by_cases ht : t = nameAt ns k
  · subst ht
    have : firstTo ns (nameAt ns k) (k + 1) = firstTo ns (nameAt ns k) k := by simp only [firstTo]; rw [if_neg h]
    simp only [idxFn, this]
  · simp only [idxFn, firstTo_other ht]

theorem idx_zero (ns : List ByteArray) : idxFn ns 0 = fun _ => none := by funext t; simp [idxFn, firstTo]

theorem MapFn.mono {w : World} {b nn nn' : Nat} {f : ByteArray → Option Value} (h : MapFn w b nn f) (hn : nn ≤ nn') : MapFn w b nn' f := by
  obtain ⟨D, h, h2⟩ := h
  exact ⟨D, h.mono hn, h2⟩

/-- 'm[k] = v' at the operation. -/
theorem wpList_mapUpdate_fn (w : World) {ops : Array Oper} {rest : List Oper} {o : Oper} {a : Act} {Q : Exit → Act → World → Prop}
    (hg : o.guard = none) (m x v : Operand) (hop : o.op = Op.mapUpdate 30 m x v) (b nn : Nat) (f : ByteArray → Option Value)
    (hm : a.eval m = .map (some b)) (hf : MapFn w b nn f) (hn : nn < maxLen) (s : ByteArray) (val : Value) (hx : a.eval x = .string s) (hv : a.eval v = val) (hs : s.size ≤ maxLen)
    (hK : ∀ w', MapFn w' b (nn + 1) (fun t => if t = s then some val else f t) → w.grownBy w' (some b) → wpList Yba.prog ops Q rest (a.put o.dst undef) w') :
    wpList Yba.prog ops Q (o :: rest) a w := by
  refine wpList_plain hg fun K' hK' => ?_
  obtain ⟨w', hrun, r1, r2⟩ := hf.update hn hs val
  unfold Oper.wp
  simp [execOp, hop, hm, hx, hv, hrun, Result.andThen]
  exact hK' _ _ (hK w' r1 r2)

theorem look_idx {W : World} {b nn : Nat} {ns : List ByteArray} {k : Nat} (h : MapFn W b nn (idxFn ns k)) {s : ByteArray} (hs : s.size ≤ maxLen) :
    (firstTo ns s k = -1 ∧ (Instr.lookup 30 (.map (some b)) (.string s) true).run Yba.prog W = .ok (.tuple #[.int .i64 0, .bool false]) W) ∨
    (firstTo ns s k ≠ -1 ∧ (Instr.lookup 30 (.map (some b)) (.string s) true).run Yba.prog W = .ok (.tuple #[.int .i64 (firstTo ns s k), .bool true]) W) := by
  have hl := h.look hs
  by_cases hf : firstTo ns s k = -1
  · left
    refine ⟨hf, ?_⟩
    rw [hl]
    simp [idxFn, hf]
  · right
    refine ⟨hf, ?_⟩
    rw [hl]
    simp [idxFn, hf]

set_option maxHeartbeats 1600000 in
set_option maxRecDepth 100000 in
theorem agree_walk (a : Option Addr) (n c : Nat) (ns : List ByteArray) (key : ByteArray) (p : Int) (use : Bool) (w : World) (hp0 : 0 ≤ p) (hp1 : p ≤ 255) (hr : NamesAt w a n ns)
    (hks : key.size ≤ maxLen) (hns : ∀ i, i < n → (nameAt ns i).size ≤ maxLen) :
    Calls Yba.prog 5 #[.slice a n c, .string key, .int .u8 p, .bool use] w fun e w' => e = .returned (.bool true) ∧ Below w.heap.size w w' := by
  have hmm := @run_makeMap Yba.prog
  by_cases h0 : 1024 < n
  · go_enter Yba.func5, Yba.ntmps5
    go_wp2
    go_ret
    exact ⟨rfl, Below.refl _ _⟩
  have hd0 : decide (1024 < n) = false := decide_eq_false h0
  obtain ⟨i43, hi, hz0, hz1, hz2⟩ := info_parts Yba.info43
  go_enter Yba.func5, Yba.ntmps5
  go_wp2_with fail
  refine (pick8s a n c ns key p use _ hp0 hp1 hr hks hns).mono ?_
  rintro e w' ⟨k', rfl, hw', hk'⟩
  subst hw'
  have HK := hidE hk'
  have HNS := hidE hns
  clear hk' hns hks
  go_wp2_with (at_make; refine wpList_make_full _ rfl _ _ 39 rfl w'.heap.size 43 i43 _ 2 Yba.underlying39 hi hz0 hz1 .i64 .i64 _ _ n rfl rfl rfl rfl ?qa ?qb (Nat.le_refl _) ?_)
  case qa => rw [hz2]; omega
  case qb => unfold maxLen; omega
  intro wa howna hga
  have hBa : Below w'.heap.size w' wa := (Below.refl _ _).grown hga (Nat.le_refl _) (fun k hk => by cases hk)
  have hRa := EntsBlk.made (ns := ns) (u := .nilIface) howna
  clear howna hga
  go_wp2
  have hRlta := hRa.lt
  have hBb : Below w'.heap.size w' (wa.alloc (.map #[] 0)) := hBa.alloc hBa.size _
  have hRb : EntsBlk (wa.alloc (.map #[] 0)) 43 w'.heap.size n ns .nilIface 0 := hRa.stay (Below.heap_alloc _ _ _ hRlta)
  have hMb : MapFn (wa.alloc (.map #[] 0)) wa.heap.size 0 (idxFn ns 0) := by rw [idx_zero]; exact MapFn.made wa
  generalize wa.heap.size = bm at *
  clear hRa hBa
  go_loopw [11] (fun i wr => ∃ k : Nat, k ≤ n ∧ i = .int .i64 k ∧ Below w'.heap.size w' wr ∧ EntsBlk wr 43 w'.heap.size n ns .nilIface k ∧ MapFn wr bm k (idxFn ns k)) (fun i _ => n - (intOf i).toNat)
  case atStart => exact ⟨0, Nat.zero_le _, rfl, hBb, hRb, hMb⟩
  case round =>
    clear hBb hRb hMb
    obtain ⟨k, hk, rfl, hB, hR, hM⟩ := hrel
    by_cases hlt : k < n
    · obtain ⟨b, off, rfl, hb, hc0⟩ := hr.pos hB hlt
      obtain ⟨⟨v0, hv0⟩, ⟨v1, hv1⟩, hf0, hf1⟩ := hR.room hlt
      have HS := hidE (hR.step hlt)
      have hM2 : MapFn ((wr.setCell ⟨w'.heap.size, k * 2, none⟩ (.string (nameAt ns k))).setCell ⟨w'.heap.size, k * 2 + 1, none⟩ .nilIface) bm k (idxFn ns k) :=
        hM.stay (by rw [Below.heap_setCell _ _ _ _ (by simp; omega), Below.heap_setCell _ _ _ _ (by simp; omega)])
      have hb2 : b ≠ w'.heap.size := by omega
      rcases look_idx hM2 (HNS.out k hlt) with ⟨hfi, hl⟩ | ⟨hfi, hl⟩
      · have HI := hidE (idx_new hfi)
        have HM := hidE hM2
        have HNk := hidE (HNS.out k hlt)
        clear hR hr hM hM2 hfi
        generalize nameAt ns k = s at *
        go_wp2_with (at_mapUpdate; refine wpList_mapUpdate_fn _ rfl _ _ _ rfl bm k (idxFn ns k) rfl HM.out ?qn s (.int .i64 (k : Int)) rfl rfl HNk.out ?_)
        case qn => unfold maxLen; omega
        intro w1 hM1 hg1
        go_wp2
        go_roundw
        case rel =>
          refine ⟨k + 1, by omega, by go_num, ((hB.setCell (by simp) _).setCell (by simp) _).grown hg1 (by simpa using hB.size) (by intro q hq; cases hq; omega), HS.out.stay (hg1.block _ HS.out.lt (by intro he; simp at he; omega)), ?_⟩
          rw [HI.out]
          exact hM1
        case measure => simp [intOf]; omega
      · have HI := hidE (idx_old hfi)
        have HM := hidE (hM2.mono (Nat.le_succ k))
        have hfr := firstTo_range ns (nameAt ns k) k
        clear hR hr hM hM2 hfi
        generalize firstTo ns (nameAt ns k) k = fi at *
        generalize nameAt ns k = s at *
        go_wp2
        go_roundw
        case rel =>
          refine ⟨k + 1, by omega, by go_num, (hB.setCell (by simp) _).setCell (by simp) _, HS.out, ?_⟩
          rw [HI.out]
          exact HM.out
        case measure => simp [intOf]; omega
    · have he : n = k := by omega
      subst he
      clear hlt hk
      have hRat := hR.at
      have hRlt := hR.lt
      have hdn : decide (n < n) = false := by simp
      have hl : ∃ (cv : Int) (ok : Bool), (Instr.lookup 30 (.map (some bm)) (.string k') true).run Yba.prog wr = .ok (.tuple #[.int .i64 cv, .bool ok]) wr ∧ placeOf ok cv = firstTo ns k' n := by
        rcases look_idx hM HK.out with ⟨hfi, hl⟩ | ⟨hfi, hl⟩
        · exact ⟨_, _, hl, hfi.symm⟩
        · exact ⟨_, _, hl, rfl⟩
      obtain ⟨cv, ok, hl, hpl⟩ := hl
      have HP := hidE hpl
      clear hM hpl
      go_wp2_with fail
      refine (place12_map _ bm k' cv ok _ hl).mono ?_
      rintro e wb ⟨rfl, hwb⟩
      subst hwb
      rw [HP.out]
      clear hl
      go_wp2_with fail
      refine (place12_nil w'.heap.size 0 n n ns .nilIface k' _ (by omega) hRlt hRat).mono ?_
      rintro e wc ⟨rfl, hBc⟩
      have hBw : Below w'.heap.size w' wc := hB.trans (hBc.mono hB.size)
      have hrc := hr.below hBw
      clear hR hRat hRlt hBc hB
      have hne : (firstTo ns k' n == firstTo ns k' n) = true := by simp
      go_wp2_with fail
      refine (first10 a n c ns k' _ (by omega) hrc).mono ?_
      rintro e wd ⟨rfl, hwd⟩
      subst hwd
      go_wp2
      go_ret
      exact ⟨rfl, hBw⟩

end Go.Proofs.Ybulkcdni
