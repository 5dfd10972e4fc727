/-
  'Rows.LawS3978CPicksLongestSaid' proved: the row's step over the walk.
-/
import Derived.Test.YbulkcdjaRows
import Derived.Test.YbulkcdjaPickWalk
import Derived.WalkKit
import Derived.ProofKit
import Derived.OpenShut
import Derived.ShutString
import Derived.ChangeOld
import Derived.Below
import Derived.SizedLaws
import Derived.Deep.SlicePairs
namespace Go.Proofs.Ybulkcdja.lawS3978CPicksLongest
open Go.ChangeShapes Go.WideShapes Go.ChangeAt Go.RowKit Go.Deep
open Go.ChangeMaps (open_string shut_string)
set_option linter.unusedVariables false

theorem own : ownKnob Yba.prog.godebug = none := by kernel_rfl
theorem laidOut : laidOutB Yba.prog = true := by kernel_rfl
theorem cells34 : Yba.prog.cellsOf 34 = 2 := by kernel_rfl
theorem cells9 : Yba.prog.cellsOf 9 = 1 := by kernel_rfl
theorem cells5 : Yba.prog.cellsOf 5 = 1 := by kernel_rfl

/-- A row of numbers that fit a byte, as bytes. -/
def toBytes (zs : List Int) : List UInt8 := zs.map fun z => UInt8.ofNat z.toNat
theorem toBytes_get {zs : List Int} (hw : ∀ z ∈ zs, (Lit.int .u8 z).wf = true) {j : Nat} (hj : j < zs.length) : (((toBytes zs).getD j 0).toNat : Int) = zs.getD j 0 := by
  have h := hw zs[j] (List.getElem_mem hj)
  have hb : 0 ≤ zs[j] ∧ zs[j] ≤ 255 := by simpa [Lit.wf, IntKind.min, IntKind.max, IntKind.bits, IntKind.signed] using h
  simp [toBytes, List.getD, List.getElem?_eq_getElem hj]
  omega

theorem mem_weightsAll {H : Type} {P : Program} {e : TypeId} : ∀ {l : List (DataW H)} {d : DataW H}, d ∈ l → ∀ n ∈ d.weights P e, n ∈ DataW.weightsAll P e l
  | x :: r, d, hd, n, hn => by
    simp only [DataW.weightsAll, List.mem_append]
    rcases List.mem_cons.1 hd with rfl | hd
    · exact .inl hn
    · exact .inr (mem_weightsAll hd n hn)

/-- The first string of each pair lies within the form's reach. -/
theorem sized_first {H : Type} {ts : List TypeId} {ds : List (DataW H)} (h : (DataW.weightsEach Yba.prog ts ds).all (· ≤ reachBytes) = true) {j : Nat} {elems spare : List (DataW H)} (ht : ts[j]? = some 30) (hd : ds[j]? = some (.slice elems spare))
    {bytes : List UInt8} {d1 : DataW H} (hm : DataW.agg [.lit (.string bytes), d1] ∈ elems) : bytes.length ≤ reachBytes := by
  have h1 : bytes.length ∈ (DataW.agg [DataW.lit (Lit.string bytes), d1] : DataW H).weights Yba.prog 34 := by
    simp [DataW.weights, Yba.underlying34, DataW.weightsEach]
  have h2 : bytes.length ∈ (DataW.slice elems spare).weights Yba.prog 30 := by
    simp only [DataW.weights, Yba.underlying30, List.mem_cons, List.mem_append]
    exact .inr (.inl (mem_weightsAll hm _ h1))
  have := List.all_eq_true.1 h _ (DataW.weights_mem_each ht hd _ h2)
  simpa using this

set_option maxRecDepth 100000 in
theorem lifted (os : Os) (started : os.Started) (H : Type) (enc : TypeId × Value → H) :
    ReturnsInHanded {} Yba.checked os 5 .any (Rows.lawS3978CPicksLongestSpec.pre6 enc Yba.prog Yba.f5 Rows.lawS3978CPicksLongestRow.domain false) (Rows.lawS3978CPicksLongestSpec.post enc Yba.prog Yba.f5 false true false false) := by
  refine returnsInHanded_of_change_sized (C := Yba.checked) own started (by kernel_rfl) Yba.func5
    (ChangeSpec.witness6 (enc := enc) (C := Yba.checked) false ⟨#[], #[.slice none 0 0, .slice none 0 0, .int .u16 0], []⟩ 8 (by kernel_rfl) (by kernel_rfl) (by kernel_rfl) (by kernel_rfl)) ?_
  intro W base args ds gs before hval0 hW hcnd hsz0 _
  have hval : ∀ (j : Nat) t v, Yba.f5.params[j]? = some t → args[j]? = some v → Value.okWide Yba.prog W .any base t v := hval0
  have hsz : (DataW.weightsEach Yba.prog (Yba.f5.params.toList ++ Rows.lawS3978CPicksLongestSpec.plain.varTypes Yba.prog) (ds ++ gs)).all (· ≤ reachBytes) = true := hsz0
  have hW' := hW
  obtain ⟨p, q, hA0, hV, rfl, hfz, hnd⟩ := hW
  have hA : DataW.TrodAll enc Yba.prog W 0 (fun _ => true) true Yba.f5.params.toList args.toList ds p := hA0
  rw [Yba.params5] at hA hval hsz
  obtain ⟨v0, vs0, d0, ds0, p0, q0, hargs, rfl, rfl, h0, r0⟩ := trodAll_cons hA
  obtain ⟨v1, vs1, d1, ds1, p1, q1, rfl, rfl, rfl, h1, r1⟩ := trodAll_cons r0
  obtain ⟨v2, vs2, d2, ds2, p2, q2, rfl, rfl, rfl, h2, r2⟩ := trodAll_cons r1
  obtain ⟨rfl, rfl, rfl⟩ := trodAll_nil r2
  obtain rfl : args = #[v0, v1, v2] := by cases args; simp_all
  obtain ⟨rfl, rfl⟩ := trodVars_none hV
  obtain ⟨a0, len0, cap0, rfl⟩ := okWide_slice Yba.underlying29 (hval 0 29 v0 rfl rfl)
  have k0 := h0
  have lt0 : ∀ x ∈ p0, x.block < W.heap.size := by obtain ⟨m, hm⟩ := k0; exact DataW.trod_lt m _ _ _ hm
  obtain ⟨l, w0⟩ : ∃ l, WAt W a0 len0 l := by
    obtain ⟨fuel, hf⟩ := h0
    rcases open_ints Yba.underlying29 Yba.underlying5 (by kernel_rfl) hf with ⟨hcs, _⟩ | ⟨x, ln, c, zs, hcs, _, hl, hm, hz, _, hcell, hwz⟩
    · simp [Value.cells] at hcs
      obtain ⟨rfl, rfl, rfl⟩ := hcs
      exact ⟨[], rfl, .inl ⟨rfl, rfl⟩⟩
    · simp [Value.cells] at hcs
      obtain ⟨rfl, rfl, rfl⟩ := hcs
      have hz' : zs.length = cap0 := by simpa using hz
      refine ⟨(toBytes zs).take len0, by simp [toBytes]; omega, .inr ⟨x, rfl, fun j hj => ?_⟩⟩
      rw [hcell j (by omega)]
      have := toBytes_get hwz (j := j) (by omega)
      rw [← this]
      simp [List.getD, hj]
  obtain ⟨a1, len1, cap1, rfl⟩ := okWide_slice Yba.underlying30 (hval 1 30 v1 rfl rfl)
  have k1 := h1
  have lt1 : ∀ x ∈ p1, x.block < W.heap.size := by obtain ⟨m, hm⟩ := k1; exact DataW.trod_lt m _ _ _ hm
  obtain ⟨rs, w1, hsr⟩ : ∃ rs, RsAt W a1 len1 rs ∧ ∀ i, i < len1 → (rs.getD i nilRl).1.size ≤ 140737488351232 := by
    obtain ⟨fuel, hf⟩ := h1
    rcases open_slice_pairs Yba.underlying30 Yba.underlying34 cells34 rfl rfl cells9 cells9 hf with ⟨hcs, _⟩ | ⟨x, ln, c, m, n, V0, V1, D0, D1, P0, P1, hcs, _, hl, hm, hmm, hx, hcell⟩
    · simp [Value.cells] at hcs
      obtain ⟨rfl, rfl, rfl⟩ := hcs
      exact ⟨[], ⟨rfl, .inl rfl⟩, fun i hi => absurd hi (Nat.not_lt_zero _)⟩
    · simp [Value.cells] at hcs
      obtain ⟨rfl, rfl, rfl⟩ := hcs
      have hmm' : m = cap1 := by simpa using hmm
      subst hmm'
      simp only [Prod.mk.injEq] at hx
      obtain ⟨hd, hpl⟩ := hx
      have hstr : ∀ i, i < len1 → ∃ q : Rl, V0 i = .string q.1 ∧ V1 i = .string q.2 ∧ D0 i = .lit (.string q.1.data.toList) := by
        intro i hi
        obtain ⟨_, _, g0, g1⟩ := hcell i (by omega)
        obtain ⟨s0, e0, e1, _⟩ := DataW.trod_string Yba.underlying9 g0
        obtain ⟨s1, e2, _, _⟩ := DataW.trod_string Yba.underlying9 g1
        simp only [List.cons.injEq, and_true] at e0 e2
        simp only [Prod.mk.injEq] at e1
        exact ⟨(s0, s1), e0, e2, e1.1⟩
      obtain ⟨f, hff⟩ := choose_lt hstr
      have hget : ∀ i, i < len1 → (((List.range len1).map f).getD i nilRl) = f i := fun i hi => by simp [List.getD, hi]
      refine ⟨(List.range len1).map f, ⟨by simp, ?_⟩, fun i hi => ?_⟩
      · by_cases hl0 : len1 = 0
        · exact .inl hl0
        · have hs := World.cell?_spot (hcell 0 (by omega)).1
          have hlt := World.block_lt_of_cell? W _ (hcell 0 (by omega)).1
          obtain ⟨b, off, spot⟩ := x
          have hs : spot = none := by simpa [Addr.add] using hs
          subst hs
          refine .inr ⟨b, off, rfl, by simpa [Addr.add_lit] using hlt, fun i hi => ?_⟩
          have hi' : i < len1 := by simpa using hi
          obtain ⟨c0, c1, _, _⟩ := hcell i (by omega)
          rw [Addr.add_lit] at c0 c1
          rw [hget i hi', ← (hff i hi').1, ← (hff i hi').2.1]
          exact ⟨c0, by rw [Nat.add_assoc]; exact c1⟩
      · rw [hget i hi]
        have := sized_first hsz (j := 1) rfl (by rw [hd]; rfl) (bytes := (f i).1.data.toList) (d1 := D1 i) (by
          refine List.mem_map.2 ⟨i, List.mem_range.2 hi, ?_⟩
          rw [(hff i hi).2.2])
        simpa [reachBytes] using this
  obtain ⟨pk, rfl, rfl, rfl, wx⟩ := open_int Yba.underlying31 (hval 2 31 v2 rfl rfl) h2
  have hpk : 0 ≤ pk ∧ pk ≤ 65535 := by simpa [Lit.wf, IntKind.min, IntKind.max, IntKind.bits, IntKind.signed] using wx
  clear hA0 hval0
  refine (pick_walk a0 len0 cap0 l a1 len1 cap1 rs pk W hpk.1 (by omega) w0 w1 hsr).mono fun e W' ⟨he, bel⟩ => ?_
  subst he
  exact ⟨_, rfl, _, _, _, [], _, [], hW', trodAll_mk1 (shut_bool Yba.underlying4 _), (trodAll_cons_mk (Below.trod laidOut (by kernel_rfl) (of_decide_eq_true (by kernel_rfl)) k0 bel lt0) (trodAll_cons_mk (Below.trod laidOut (by kernel_rfl) (of_decide_eq_true (by kernel_rfl)) k1 bel lt1) (trodAll_cons_mk (shut_int Yba.underlying31 wx) trodAll_mk0))), rfl, bel.frame _, fun h => by cases h⟩

theorem over : Rows.lawS3978CPicksLongestRow.holds Yba.pinned (OpenSpec.ofChange Rows.lawS3978CPicksLongestSpec) :=
  OpenClaim.holds_of_wide 5 Yba.f5 rfl rfl rfl rfl rfl rfl rfl ⟨rfl, rfl, rfl, rfl, rfl⟩ rfl rfl rfl rfl rfl (by kernel_rfl) Yba.func5 (by kernel_rfl)
    (of_decide_eq_true (by kernel_rfl)) (by unfold Func.isWrapper; first | (rw [if_pos (by decide +kernel)]; kernel_rfl) | (rw [if_neg (by decide +kernel)]; exact ⟨rfl, rfl⟩))
    (fun os started H enc _ => lifted os started H enc)

/-- ████ THE STATEMENT ████ -/
theorem proved : Rows.LawS3978CPicksLongestSaid := over
end Go.Proofs.Ybulkcdja.lawS3978CPicksLongest
