/-
  The walk of LawS3990CSweep (3).
-/
import Derived.Test.YbulkcdpmLawParts
import Derived.Test.YbulkcdpmModel
import Derived.Deep.WholeRow
import Derived.LaidEqlPtr
namespace Go.Proofs.Ybulkcdpm
open Go.RowKit Go.MuLone

def SweepPost (w : World) (e : Ending) (w' : World) : Prop := e = .returned (.bool true) ∧ Below w.heap.size w w'

/-- Behind NewSweep, where there is something to sweep. -/
structure SwSt (w w3 : World) (rb g ab sb hb : Nat) (st : Nat → Option (Int × Bool)) (E : List Nat) (cap nr : Nat) (ep held : Int) : Prop where
  below : Below w.heap.size w w3
  swp : SwpBlk w3 sb rb 1 ep 1 (.slice (some ⟨ab, 0, none⟩) nr nr) (.slice (some ⟨g, 0, none⟩) E.length cap) (.map (some hb)) held
  hold : HoldAt w3 hb E
  ans : AnsAt w3 ab nr
  ent : EntRow w3 g st E

theorem SwSt.step {w w3 w4 : World} {rb g ab sb hb : Nat} {st : Nat → Option (Int × Bool)} {E : List Nat} {cap nr : Nat} {ep held : Int} (h : SwSt w w3 rb g ab sb hb st E cap nr ep held) (hb4 : Below w3.heap.size w3 w4) : SwSt w w4 rb g ab sb hb st E cap nr ep held :=
  ⟨h.below.trans (hb4.mono h.below.size), h.swp.stay (hb4.block _ h.swp.lt), h.hold.stay (hb4.block _ h.hold.fn.lt), h.ans.stay (hb4.block _ h.ans.lt), h.ent.stay (hb4.block _ h.ent.lt)⟩

theorem SwSt.of_newed {w w2 w3 : World} {gd rb ni nd : Nat} {its : List Item} {ds : List Int} {ep pr : Int} {at_ : Option Addr} {nt ct : Nat} {ts : List Int} (h : Built (w.alloc cell0) w2 w.heap.size gd rb ni nd its ds false ep pr (.slice at_ nt ct)) {st : Nat → Option (Int × Bool)} {E : List Nat} {g ab sb hb cap nr : Nat}
    (hs : Newed w2 w3 w.heap.size (w.heap.size + 1) gd rb g ab sb hb nd st E cap nr ep pr at_ nt ct ts) : SwSt w w3 rb g ab sb hb st E cap nr ep (tickAt ts nt 1) :=
  ⟨(h.keep0 hs.keep).1, hs.swp, hs.hold, hs.ans, hs.ent⟩

/-- What the checks read. -/
structure SwAll (w wr : World) (rb g ab sb hb tb : Nat) (st : Nat → Option (Int × Bool)) (E : List Nat) (a : Option Addr) (cap nr : Nat) (ep held : Int) : Prop where
  sw : SwSt w wr rb g ab sb hb st E cap nr ep held
  st : StRow wr tb st
  exp : ExpIn wr a E
theorem SwAll.step {w w3 w4 : World} {rb g ab sb hb tb : Nat} {st : Nat → Option (Int × Bool)} {E : List Nat} {a : Option Addr} {cap nr : Nat} {ep held : Int} (h : SwAll w w3 rb g ab sb hb tb st E a cap nr ep held) (hb4 : Below w3.heap.size w3 w4) : SwAll w w4 rb g ab sb hb tb st E a cap nr ep held :=
  ⟨h.sw.step hb4, h.st.stay (hb4.block _ h.st.lt), h.exp.step hb4⟩

/-- 'p != p' of pointers to a replica. -/
theorem neq26 (a : Addr) (W : World) : (binOp .neq 26 (.pointer (some a)) (.pointer (some a))).run Yba.prog W = .ok (.bool false) W := by
  obtain ⟨j, hte⟩ := Option.isSome_iff_exists.1 (show (Yba.prog.info? 84).isSome = true by kernel_rfl)
  have h : ∀ d : Nat, (Op.equalIn (d + 1) 26 (.pointer (some a)) (.pointer (some a))).run Yba.prog W = .ok true W := fun d => by
    simp [Op.equalIn, run_underlying Yba.underlying26, sizeOf, typeInfo, hte, run_sameAddr_same]
  simp only [binOp]
  simp [Op.equal, Op.maxDepth, h 9999]

set_option maxHeartbeats 4000000 in
set_option maxRecDepth 100000 in
theorem sweep3 (ai : Option Addr) (ni ci : Nat) (its : List Item) (ad : Option Addr) (nd cd : Nat) (ds : List Int) (cat : Bool) (ep pr : Int) (at_ : Option Addr) (nt ct : Nat) (ts : List Int) (nr : Nat) (w : World)
    (hnr : nr ≤ 255) (hI : ItemsAt w ai ni its) (hD : DelsAt w ad nd ds) (hT : TicksAt w at_ nt ts) :
    Calls Yba.prog 3 #[.slice ai ni ci, .slice ad nd cd, .bool cat, .int .u64 ep, .int .u64 pr, .slice at_ nt ct, .int .u8 nr] w (SweepPost w) := by
  by_cases h1 : ni ≤ 4096
  case neg =>
    clear hI hD hT
    go_enter Yba.func3, Yba.ntmps3
    go_wp2
    go_ret
    exact ⟨rfl, Below.refl _ _⟩
  by_cases h2 : nd ≤ 4096
  case neg =>
    clear hI hD hT
    go_enter Yba.func3, Yba.ntmps3
    go_wp2
    go_ret
    exact ⟨rfl, Below.refl _ _⟩
  by_cases h3 : nt ≤ 4096
  case neg =>
    clear hI hD hT
    go_enter Yba.func3, Yba.ntmps3
    go_wp2
    go_ret
    exact ⟨rfl, Below.refl _ _⟩
  have hIa := hI.below (W := w.alloc cell0) ((Below.refl _ _).alloc (Nat.le_refl _) _)
  have hDa := hD.below (W := w.alloc cell0) ((Below.refl _ _).alloc (Nat.le_refl _) _)
  have HH := hidE (And.intro hI (And.intro hD (And.intro hT (And.intro hIa hDa))))
  clear hI hD hT hIa hDa
  have HS24 := hidE (@Yba.size34)
  go_enter Yba.func3, Yba.ntmps3
  go_wp2_with fail
  refine (build5 ai ni ci its ad nd cd ds cat ep pr at_ nt ct w.heap.size _ h1 h2 HH.out.2.2.2.1 HH.out.2.2.2.2).mono ?_
  rintro e w2 ⟨gd, rb, rfl, hB⟩
  have HB := hidE hB
  clear hB
  go_wp2_with fail
  cases cat with
  | true =>
    refine (new_catching w.heap.size (w.heap.size + 1) gd rb ni nd its ds ep pr 0 0 0 at_ nt ct ts _ _ _ (HB.out.repl HH.out.2.2.1)).mono ?_
    rintro e w3 ⟨rfl, h3', hk3⟩
    have hC := CatchSt.mk' HB.out h3' hk3
    have HC := hidE hC
    clear hC h3' hk3
    go_wp2_with fail
    refine (model7 ai ni ci its ad nd cd ds _ h1 h2 (HH.out.1.below HC.out.below) (HH.out.2.1.below HC.out.below)).mono ?_
    rintro e w4 ⟨ev, cur, rfl, hst, hown, hb4⟩
    have hC4 := HC.out.step hb4
    have hsz := hst.size
    have hsc : (storeCells ⟨w4.heap.size, 0, none⟩ cur.toList 0).run Yba.prog (w4.alloc (.cells st0 34)) = .ok () (w4.alloc (.cells cur 34)) := run_storeCells_new w4 34 st0 cur (by rw [hsz]; exact HS24.out) (by rw [hsz]; rfl) hst.one
    unfold st0 at hsc
    have H4 := hidE hC4
    clear hC4 hown hb4 hst HC HB HH
    go_wp2
    go_ret
    exact ⟨rfl, (H4.out.alloc _).below⟩
  | false =>
    by_cases hE : expK its ni ds nd = []
    · refine (new_empty w.heap.size (w.heap.size + 1) gd rb ni nd its ds ep pr at_ nt ct ts _ _ h2 (HB.out.repl HH.out.2.2.1) HB.out.row hE).mono ?_
      rintro e w3 ⟨rfl, hs⟩
      obtain ⟨x1, x4, hf⟩ := FreeSt.of_swept HB.out hs
      have HF := hidE hf
      have HE := hidE hE
      clear hs hf hE
      go_wp2_with fail
      refine (model7 ai ni ci its ad nd cd ds _ h1 h2 (HH.out.1.below HF.out.below) (HH.out.2.1.below HF.out.below)).mono ?_
      rintro e w4 ⟨ev, cur, rfl, hst, hown, hb4⟩
      rw [HE.out] at hown
      have hF4 := HF.out.step hb4
      obtain ⟨a, c, rfl, hev⟩ := ExpIn.of_own hown
      have hsz := hst.size
      have hsc : (storeCells ⟨w4.heap.size, 0, none⟩ cur.toList 0).run Yba.prog (w4.alloc (.cells st0 34)) = .ok () (w4.alloc (.cells cur 34)) := run_storeCells_new w4 34 st0 cur (by rw [hsz]; exact HS24.out) (by rw [hsz]; rfl) hst.one
      unfold st0 at hsc
      have H4 := hidE hF4
      clear hF4 hown hb4 hst HF HB HH hev
      go_wp2
      go_ret
      exact ⟨rfl, (H4.out.alloc _).below⟩
    · refine (new_some w.heap.size (w.heap.size + 1) gd rb ni nd its ds ep pr at_ nt ct ts _ _ h2 hnr (HB.out.repl HH.out.2.2.1) HB.out.row hE).mono ?_
      rintro e w3 ⟨g, ab, sb, hb, cap, rfl, hs⟩
      have hS := SwSt.of_newed HB.out hs
      have HS := hidE hS
      clear hs hS
      go_wp2_with fail
      refine (model7 ai ni ci its ad nd cd ds _ h1 h2 (HH.out.1.below HS.out.below) (HH.out.2.1.below HS.out.below)).mono ?_
      rintro e w4 ⟨ev, cur, rfl, hst, hown, hb4⟩
      have hS4 := HS.out.step hb4
      obtain ⟨a, c, rfl, hev⟩ := ExpIn.of_own hown
      have hsz := hst.size
      have hsc : (storeCells ⟨w4.heap.size, 0, none⟩ cur.toList 0).run Yba.prog (w4.alloc (.cells st0 34)) = .ok () (w4.alloc (.cells cur 34)) := run_storeCells_new w4 34 st0 cur (by rw [hsz]; exact HS24.out) (by rw [hsz]; rfl) hst.one
      unfold st0 at hsc
      have hA : SwAll w (w4.alloc (.cells cur 34)) rb g ab sb hb w4.heap.size (stTo its ni) (expK its ni ds nd) a cap nr ep (tickAt ts nt 1) :=
        ⟨hS4.step ((Below.refl _ _).alloc (Nat.le_refl _) _), ⟨cur, heap_alloc_new _ _, hst⟩, hev.step ((Below.refl _ _).alloc (Nat.le_refl _) _)⟩
      have hok : ExpOk (isDel (stTo its ni)) (expK its ni ds nd) nd := expTo_ok (isDel (stTo its ni)) ds nd
      have hE8 := hok.le8
      have Hok := hidE hok
      have hpos : 0 < (expK its ni ds nd).length := List.length_pos_iff.2 hE
      have HA := hidE hA
      have HT := hidE HH.out.2.2.1
      clear hok hE hS4 hev hown hb4 hst hA HS HB HH
      generalize expK its ni ds nd = E at *
      generalize stTo its ni = st at *
      generalize hel : E.length = el at *
      have Hel := hidE hel
      clear hel
      have hne : ((el : Int) == 0) = false := by simp; omega
      go_upto_region 7 with fail
      generalize hW5 : w4.alloc (.cells cur 34) = w5 at *
      clear hW5
      generalize w4.heap.size = tb at *
      clear hsc
      obtain ⟨hld, hlv⟩ : ∃ held, held = tickAt ts nt 1 := ⟨_, rfl⟩
      have c0 : w5.cell? ⟨sb, 0, none⟩ = some (.pointer (some ⟨rb, 0, none⟩)) := HA.out.sw.swp.cell 0
      have c1 : w5.cell? ⟨sb, 1, none⟩ = some (.int .i64 1) := HA.out.sw.swp.cell 1
      have c2 : w5.cell? ⟨sb, 2, none⟩ = some (.int .u64 ep) := HA.out.sw.swp.cell 2
      have c3 : w5.cell? ⟨sb, 3, none⟩ = some (.int .u64 0) := HA.out.sw.swp.cell 3
      have c4 : w5.cell? ⟨sb, 4, none⟩ = some (.int .i64 1) := HA.out.sw.swp.cell 4
      have c5 : w5.cell? ⟨sb, 5, none⟩ = some (.slice (some ⟨ab, 0, none⟩) nr nr) := HA.out.sw.swp.cell 5
      have c6 : w5.cell? ⟨sb, 6, none⟩ = some (.int .i64 0) := HA.out.sw.swp.cell 6
      have c9 : w5.cell? ⟨sb, 9, none⟩ = some (.slice none 0 0) := HA.out.sw.swp.cell 9
      have c10 : w5.cell? ⟨sb, 10, none⟩ = some (.int .i64 hld) := by rw [hlv]; exact HA.out.sw.swp.cell 10
      have c11 : w5.cell? ⟨sb, 11, none⟩ = some (.int .u64 0) := HA.out.sw.swp.cell 11
      have c12 : w5.cell? ⟨sb, 12, none⟩ = some (.int .i64 0) := HA.out.sw.swp.cell 12
      have c13 : w5.cell? ⟨sb, 13, none⟩ = some .nilIface := HA.out.sw.swp.cell 13
      have hsl := HA.out.sw.swp.lt
      have HLV := hidE hlv
      clear hlv
      have hn26 := neq26
      have hgo : hld = if 1 < nt then ts.getD 1 0 else 0 := HLV.out
      by_cases hnt : 1 < nt
      · rw [if_pos hnt] at hgo
        obtain ⟨bt, off, rfl, htb, htc⟩ : ∃ b off, at_ = some ⟨b, off, none⟩ ∧ b < w.heap.size ∧ ∀ i, i < nt → w.cell? ⟨b, off + i, none⟩ = some (.int .i64 (ts.getD i 0)) := by
          rcases HT.out.2 with h | h
          · omega
          · exact h
        have t1 : w5.cell? ⟨bt, off + 1, none⟩ = some (.int .i64 hld) := by
          rw [hgo, HA.out.sw.below.cell (p := ⟨bt, off + 1, none⟩) htb]
          exact htc 1 hnt
        clear htc hgo HLV HT
        have hdn : decide ((1 : Int) < (nt : Int)) = true := decide_eq_true (by omega)
        go_wp2
        go_loopw [162] (fun i wr => ∃ k : Nat, k ≤ nr ∧ i = .int .i64 k ∧ SwAll w wr rb g ab sb hb tb st E a cap nr ep (tickAt ts nt 1)) (fun i _ => nr - (intOf i).toNat)
        case atStart => exact ⟨0, Nat.zero_le _, rfl, HA.out⟩
        case round =>
          clear c0 c1 c2 c3 c4 c5 c6 c9 c10 c11 c12 c13 HA hsl
          obtain ⟨k, hk, rfl, hA⟩ := hrel
          by_cases hlt : k < nr
          · have hc := hA.sw.ans.read hlt
            have HA := hidE hA
            clear hA
            go_wp2
            go_roundw
            case rel => exact ⟨k + 1, by omega, by go_num, HA.out⟩
            case measure => simp [intOf]; omega
          · have he : nr = k := by omega
            subst he
            have d7 : wr.cell? ⟨sb, 7, none⟩ = some (.slice (some ⟨g, 0, none⟩) el cap) := by rw [← Hel.out]; exact hA.sw.swp.cell 7
            have d8 : wr.cell? ⟨sb, 8, none⟩ = some (.map (some hb)) := hA.sw.swp.cell 8
            have hlen := hA.sw.hold.len
            rw [Hel.out] at hlen
            have HA := hidE hA
            clear hA
            go_wp2
            go_loopw [188] (fun i wr => ∃ k : Nat, k ≤ el ∧ i = .int .i64 k ∧ SwAll w wr rb g ab sb hb tb st E a cap nr ep (tickAt ts nt 1)) (fun i _ => el - (intOf i).toNat)
            case atStart => exact ⟨0, Nat.zero_le _, rfl, HA.out⟩
            case round =>
              clear d7 d8 hlen HA
              obtain ⟨k, hk, rfl, hA⟩ := hrel
              by_cases hlt : k < el
              · have hlt' : k < E.length := by rw [Hel.out]; exact hlt
                obtain ⟨ge, rfl, hc0⟩ := hA.exp.pos hlt'
                have d7 : wr.cell? ⟨sb, 7, none⟩ = some (.slice (some ⟨g, 0, none⟩) el cap) := by rw [← Hel.out]; exact hA.sw.swp.cell 7
                have d8 : wr.cell? ⟨sb, 8, none⟩ = some (.map (some hb)) := hA.sw.swp.cell 8
                have hsl := hA.sw.swp.lt
                have hgl := hA.sw.ent.lt
                have htl := hA.st.lt
                have hj8 : E[k] < 8 := Hok.out.lt _ (List.getElem_mem hlt')
                have hmem : E[k] ∈ E := List.getElem_mem hlt'
                have p0 : wr.cell? ⟨g, k * 6, none⟩ = some (.string (keyS E[k])) := hA.sw.ent.read hlt' (o := 0) (by omega)
                have p1 : wr.cell? ⟨g, k * 6 + 1, none⟩ = some (.int .u64 (seqOf st E[k])) := hA.sw.ent.read hlt' (o := 1) (by omega)
                have p2 : wr.cell? ⟨g, k * 6 + 2, none⟩ = some (.int .u64 0) := hA.sw.ent.read hlt' (o := 2) (by omega)
                have p3 : wr.cell? ⟨g, k * 6 + 3, none⟩ = some (.int .u64 0) := hA.sw.ent.read hlt' (o := 3) (by omega)
                have p4 : wr.cell? ⟨g, k * 6 + 4, none⟩ = some (.slice none 0 0) := hA.sw.ent.read hlt' (o := 4) (by omega)
                have p5 : wr.cell? ⟨g, k * 6 + 5, none⟩ = some (.bool true) := hA.sw.ent.read hlt' (o := 5) (by omega)
                obtain ⟨_, _, s2⟩ := hA.st.read hj8
                have hl : ∀ O n, (Instr.lookup 39 (.map (some hb)) (.string (keyS E[k])) true).run Yba.prog ((wr.alloc O).drewN n) = .ok (.tuple #[.int .i64 0, .bool true]) ((wr.alloc O).drewN n) := fun O n => by
                  have hst := hA.sw.hold.stay (w' := (wr.alloc O).drewN n) ((below_drewN ((Below.refl wr.heap.size wr).alloc (Nat.le_refl _) O) n).block _ hA.sw.hold.fn.lt)
                  have := hst.fn.look Yba.underlying39 (zero3 _) (keyS_le E[k])
                  rw [holdF_yes E hj8 hmem] at this
                  exact this
                have hix := ix_small hj8
                have HA := hidE hA
                clear hA hmem
                generalize E[k] = j at *
                generalize seqOf st j = sq at *
                have hj0 : (0 : Int) ≤ (j : Int) := by omega
                have hj1 : (j : Int) ≤ 255 := by omega
                go_wp2_with fail
                refine (key8 _ _ (by omega) (by omega)).mono ?_
                rintro e w' ⟨rfl, hw'⟩
                subst hw'
                rw [hix]
                go_wp2
                go_quiet (fail)
                go_wp2
                go_roundw
                case rel => exact ⟨k + 1, by omega, by go_num, HA.out.step (below_drewN ((Below.refl _ _).alloc (Nat.le_refl _) _) _)⟩
                case measure => simp [intOf]; omega
              · have he : el = k := by omega
                subst he
                have HA := hidE hA
                clear hA
                go_wp2
                go_ret
                exact ⟨rfl, HA.out.sw.below⟩
      · rw [if_neg hnt] at hgo
        subst hgo
        clear HLV HT
        go_wp2
        go_loopw [162] (fun i wr => ∃ k : Nat, k ≤ nr ∧ i = .int .i64 k ∧ SwAll w wr rb g ab sb hb tb st E a cap nr ep (tickAt ts nt 1)) (fun i _ => nr - (intOf i).toNat)
        case atStart => exact ⟨0, Nat.zero_le _, rfl, HA.out⟩
        case round =>
          clear c0 c1 c2 c3 c4 c5 c6 c9 c10 c11 c12 c13 HA hsl
          obtain ⟨k, hk, rfl, hA⟩ := hrel
          by_cases hlt : k < nr
          · have hc := hA.sw.ans.read hlt
            have HA := hidE hA
            clear hA
            go_wp2
            go_roundw
            case rel => exact ⟨k + 1, by omega, by go_num, HA.out⟩
            case measure => simp [intOf]; omega
          · have he : nr = k := by omega
            subst he
            have d7 : wr.cell? ⟨sb, 7, none⟩ = some (.slice (some ⟨g, 0, none⟩) el cap) := by rw [← Hel.out]; exact hA.sw.swp.cell 7
            have d8 : wr.cell? ⟨sb, 8, none⟩ = some (.map (some hb)) := hA.sw.swp.cell 8
            have hlen := hA.sw.hold.len
            rw [Hel.out] at hlen
            have HA := hidE hA
            clear hA
            go_wp2
            go_loopw [188] (fun i wr => ∃ k : Nat, k ≤ el ∧ i = .int .i64 k ∧ SwAll w wr rb g ab sb hb tb st E a cap nr ep (tickAt ts nt 1)) (fun i _ => el - (intOf i).toNat)
            case atStart => exact ⟨0, Nat.zero_le _, rfl, HA.out⟩
            case round =>
              clear d7 d8 hlen HA
              obtain ⟨k, hk, rfl, hA⟩ := hrel
              by_cases hlt : k < el
              · have hlt' : k < E.length := by rw [Hel.out]; exact hlt
                obtain ⟨ge, rfl, hc0⟩ := hA.exp.pos hlt'
                have d7 : wr.cell? ⟨sb, 7, none⟩ = some (.slice (some ⟨g, 0, none⟩) el cap) := by rw [← Hel.out]; exact hA.sw.swp.cell 7
                have d8 : wr.cell? ⟨sb, 8, none⟩ = some (.map (some hb)) := hA.sw.swp.cell 8
                have hsl := hA.sw.swp.lt
                have hgl := hA.sw.ent.lt
                have htl := hA.st.lt
                have hj8 : E[k] < 8 := Hok.out.lt _ (List.getElem_mem hlt')
                have hmem : E[k] ∈ E := List.getElem_mem hlt'
                have p0 : wr.cell? ⟨g, k * 6, none⟩ = some (.string (keyS E[k])) := hA.sw.ent.read hlt' (o := 0) (by omega)
                have p1 : wr.cell? ⟨g, k * 6 + 1, none⟩ = some (.int .u64 (seqOf st E[k])) := hA.sw.ent.read hlt' (o := 1) (by omega)
                have p2 : wr.cell? ⟨g, k * 6 + 2, none⟩ = some (.int .u64 0) := hA.sw.ent.read hlt' (o := 2) (by omega)
                have p3 : wr.cell? ⟨g, k * 6 + 3, none⟩ = some (.int .u64 0) := hA.sw.ent.read hlt' (o := 3) (by omega)
                have p4 : wr.cell? ⟨g, k * 6 + 4, none⟩ = some (.slice none 0 0) := hA.sw.ent.read hlt' (o := 4) (by omega)
                have p5 : wr.cell? ⟨g, k * 6 + 5, none⟩ = some (.bool true) := hA.sw.ent.read hlt' (o := 5) (by omega)
                obtain ⟨_, _, s2⟩ := hA.st.read hj8
                have hl : ∀ O n, (Instr.lookup 39 (.map (some hb)) (.string (keyS E[k])) true).run Yba.prog ((wr.alloc O).drewN n) = .ok (.tuple #[.int .i64 0, .bool true]) ((wr.alloc O).drewN n) := fun O n => by
                  have hst := hA.sw.hold.stay (w' := (wr.alloc O).drewN n) ((below_drewN ((Below.refl wr.heap.size wr).alloc (Nat.le_refl _) O) n).block _ hA.sw.hold.fn.lt)
                  have := hst.fn.look Yba.underlying39 (zero3 _) (keyS_le E[k])
                  rw [holdF_yes E hj8 hmem] at this
                  exact this
                have hix := ix_small hj8
                have HA := hidE hA
                clear hA hmem
                generalize E[k] = j at *
                generalize seqOf st j = sq at *
                have hj0 : (0 : Int) ≤ (j : Int) := by omega
                have hj1 : (j : Int) ≤ 255 := by omega
                go_wp2_with fail
                refine (key8 _ _ (by omega) (by omega)).mono ?_
                rintro e w' ⟨rfl, hw'⟩
                subst hw'
                rw [hix]
                go_wp2
                go_quiet (fail)
                go_wp2
                go_roundw
                case rel => exact ⟨k + 1, by omega, by go_num, HA.out.step (below_drewN ((Below.refl _ _).alloc (Nat.le_refl _) _) _)⟩
                case measure => simp [intOf]; omega
              · have he : el = k := by omega
                subst he
                have HA := hidE hA
                clear hA
                go_wp2
                go_ret
                exact ⟨rfl, HA.out.sw.below⟩

end Go.Proofs.Ybulkcdpm
