/-
  'Rows.LawS3978AIdealFreeSaid' proved. The frame is the shell's; the walk is ours.
-/
import Derived.Test.YbulkcdjaRows
import Derived.WalkKit
import Derived.ProofKit
import Derived.OpenShut
import Derived.ShutString
import Derived.ChangeOld
import Derived.Below
import Derived.Test.YbulkcdjaEqual
import Derived.WalkSpells
import Derived.WalkLawsBesides
namespace Go.Proofs.Ybulkcdja.lawS3978AIdealFree
open Go.ChangeShapes Go.WideShapes Go.ChangeAt Go.RowKit
open Go.ChangeMaps (open_string shut_string)
set_option linter.unusedVariables false

theorem own : ownKnob Yba.prog.godebug = none := by kernel_rfl
theorem laidOut : laidOutB Yba.prog = true := by kernel_rfl

/-- WHAT THE WALK IS TOLD OF A SLICE OF INTEGERS THAT CAME IN: it is nil; or it leads to a row of 'cap' cells, the numbers 'zs' (the first 'len' are its elements, the rest its spare room), each fitting its kind. -/
def IsRow (k : IntKind) (w : World) (a : Option Addr) (len cap : Nat) (zs : List Int) : Prop :=
  (a = none ∧ len = 0 ∧ cap = 0 ∧ zs = []) ∨
  ∃ x, a = some x ∧ len ≤ cap ∧ cap ≤ maxLen ∧ zs.length = cap ∧ (∀ i, i < zs.length → w.cell? (x.add i) = some (.int k (zs.getD i 0))) ∧ ∀ n ∈ zs, (Lit.int k n).wf = true

theorem reads_of_row {w : World} {a : Option Addr} {len cap : Nat} {zs : List Int} (h : IsRow .i64 w a len cap zs) : Reads w a len (zs.take len) := by
  rcases h with ⟨rfl, rfl, rfl, rfl⟩ | ⟨x, rfl, hl, hm, hz, hc, hw⟩
  · exact ⟨rfl, .inl rfl⟩
  · refine ⟨by simp; omega, ?_⟩
    by_cases h0 : len = 0
    · exact .inl h0
    · have hs := World.cell?_spot (hc 0 (by omega))
      obtain ⟨b, off, spot⟩ := x
      have hs : spot = none := by simpa [Addr.add] using hs
      subst hs
      refine .inr ⟨b, off, rfl, World.block_lt_of_cell? w _ (hc 0 (by omega)), fun j hj => ?_⟩
      have := hc j (by omega)
      rw [Addr.add_lit] at this
      rw [this]
      simp [List.getD, hj]

theorem rr_self (zs : List Int) (n : Nat) (hn : n ≤ 4096) : FloatKind.f64.format.order (rrBits (posTo zs n)) (rrBits (posTo zs n)) = some .eq := by
  have h := posTo_le zs n
  by_cases h0 : posTo zs n = 0
  · rw [h0, rrBits_zero]; exact zero_self
  · rw [rrBits_pos h0]; exact recip_self (by omega) (by omega)
theorem rr_first (zs : List Int) (n : Nat) (hn : 0 < n) (h : 0 < zs.getD 0 0) : FloatKind.f64.format.order (rrBits (posTo zs n)) oneBits = some .eq := by
  rw [posTo_hit zs 0 n hn rfl h, rrBits_pos (by omega)]; exact recip_one
theorem posTo_ne_one (zs : List Int) (n : Nat) (h : ¬ 0 < zs.getD 0 0) : posTo zs n ≠ 1 := by
  induction n with
  | zero => simp [posTo]
  | succ k ih =>
    by_cases hk : k = 0
    · subst hk; simp only [posTo, if_true, if_neg h]; omega
    · simp only [posTo]; split <;> (try split) <;> omega
theorem rr_rest (zs : List Int) (n : Nat) (hn : n ≤ 4096) (h : n = 0 ∨ ¬ 0 < zs.getD 0 0) :
    FloatKind.f64.format.order (rrBits (posTo zs n)) oneBits = some .lt ∧ (FloatKind.f64.format.order (rrBits (posTo zs n)) 0 == some .gt || FloatKind.f64.format.order (rrBits (posTo zs n)) 0 == some .eq) = true := by
  have hle := posTo_le zs n
  have hne : posTo zs n ≠ 1 := by
    rcases h with h | h
    · omega
    · exact posTo_ne_one zs n h
  by_cases h0 : posTo zs n = 0
  · rw [h0, rrBits_zero]; exact ⟨zero_one, by rw [zero_self]; rfl⟩
  · rw [rrBits_pos h0]; exact ⟨recip_lt (by omega) (by omega), by rw [recip_pos (by omega) (by omega)]; rfl⟩

set_option maxHeartbeats 1000000 in
theorem walk (a0 : Option Addr) (len0 cap0 : Nat) (z0 : List Int) (a1 : Option Addr) (len1 cap1 : Nat) (z1 : List Int) (w : World) (w0 : IsRow .i64 w a0 len0 cap0 z0) (w1 : IsRow .i64 w a1 len1 cap1 z1) :
    Calls Yba.prog 4 #[.slice a0 len0 cap0, .slice a1 len1 cap1] w fun e w' => e = .returned (.bool true) ∧ Below w.heap.size w w' := by
  have r0 := reads_of_row w0
  have r1 := reads_of_row w1
  clear w0 w1
  generalize z0.take len0 = zs at r0
  generalize z1.take len1 = ys at r1
  by_cases h0 : 4096 < len0
  · have hd : decide ((4096 : Int) < (len0 : Int)) = true := decide_eq_true (by omega)
    go_enter Yba.func4, Yba.ntmps4
    go_wp2
    go_ret
    exact ⟨rfl, Below.refl _ _⟩
  have hd : decide ((4096 : Int) < (len0 : Int)) = false := decide_eq_false (by omega)
  by_cases h1 : 4096 < len1
  · have hd1 : decide ((4096 : Int) < (len1 : Int)) = true := decide_eq_true (by omega)
    go_enter Yba.func4, Yba.ntmps4
    go_wp2
    go_ret
    exact ⟨rfl, Below.refl _ _⟩
  have hd1 : decide ((4096 : Int) < (len1 : Int)) = false := decide_eq_false (by omega)
  have HS : Hid (_) := rr_self zs len0 (by omega)
  have HF : Hid (_) := rr_first zs len0
  have HR : Hid (_) := rr_rest zs len0 (by omega)
  go_enter Yba.func4, Yba.ntmps4
  go_wp2_with fail
  refine (clone_any a0 len0 cap0 zs _ (by omega) r0).mono ?_
  rintro e wa ⟨ga, gc, rfl, hRg, hba⟩
  have r0a := r0.below hba
  have r1a := r1.below hba
  clear r0 r1
  go_wp2_with fail
  refine (clone_any a1 len1 cap1 ys _ (by omega) r1a).mono ?_
  rintro e wb ⟨ia, ic, rfl, hRi, hbb⟩
  have r0b := r0a.below hbb
  have r1b := r1a.below hbb
  have hRgb := hRg.below hbb
  have hB : Below w.heap.size w wb := hba.trans (hbb.mono hba.size)
  clear r0a r1a hRg hba hbb
  go_wp2_with fail
  refine (rank_any ga len0 gc _ zs _ (by omega) hRgb).mono ?_
  rintro e wc ⟨rfl, hbc⟩
  have r0c := r0b.below hbc
  have r1c := r1b.below hbc
  have hRgc := hRgb.below hbc
  have hRic := hRi.below hbc
  have hB' : Below w.heap.size w wc := hB.trans (hbc.mono hB.size)
  clear r0b r1b hRgb hRi hB hbc
  go_wp2_with fail
  refine (rank_any ga len0 gc _ zs _ (by omega) hRgc).mono ?_
  rintro e wd ⟨rfl, hbd⟩
  have r0d := r0c.below hbd
  have r1d := r1c.below hbd
  have hRgd := hRgc.below hbd
  have hRid := hRic.below hbd
  have hB : Below w.heap.size w wd := hB'.trans (hbd.mono hB'.size)
  clear r0c r1c hRgc hRic hB' hbd
  have hs := HS.out
  clear HS
  generalize rrBits (posTo zs len0) = r at *
  go_wp2_with fail
  refine (equal_any ga a0 len0 gc cap0 zs _ (by omega) hRgd r0d).mono ?_
  rintro e we ⟨rfl, hbe⟩
  have r0e := r0d.below hbe
  have r1e := r1d.below hbe
  have hRie := hRid.below hbe
  have hB' : Below w.heap.size w we := hB.trans (hbe.mono hB.size)
  clear r0d r1d hRgd hRid hB hbe
  go_wp2_with fail
  refine (equal_any ia a1 len1 ic cap1 ys _ (by omega) hRie r1e).mono ?_
  rintro e wf ⟨rfl, hbf⟩
  have r0f := r0e.below hbf
  have hB : Below w.heap.size w wf := hB'.trans (hbf.mono hB'.size)
  clear r0e r1e hRie hB' hbf
  by_cases hl0 : 0 < len0
  · obtain ⟨b, off, rfl, hb, hc⟩ : ∃ b off, a0 = some ⟨b, off, none⟩ ∧ b < wf.heap.size ∧ ∀ j, j < len0 → wf.cell? ⟨b, off + j, none⟩ = some (.int .i64 (zs.getD j 0)) := by
      rcases r0f.2 with h | h
      · omega
      · exact h
    have hc0 : wf.cell? ⟨b, off, none⟩ = some (.int .i64 (zs.getD 0 0)) := hc 0 hl0
    clear hc r0f
    by_cases hp : 0 < zs.getD 0 0
    · have h1 := HF.out hl0 hp
      clear HF HR
      unfold oneBits at h1
      generalize zs.getD 0 0 = z at *
      have hd2 : decide ((0 : Int) < (len0 : Int)) = true := decide_eq_true (by omega)
      go_wp2
      go_ret
      exact ⟨rfl, hB⟩
    · obtain ⟨h1, h2⟩ := HR.out (.inr (by omega))
      clear HF HR
      unfold oneBits at h1
      generalize zs.getD 0 0 = z at *
      have hd2 : decide ((0 : Int) < (len0 : Int)) = true := decide_eq_true (by omega)
      go_wp2
      go_ret
      exact ⟨rfl, hB⟩
  · obtain ⟨h1, h2⟩ := HR.out (.inl (by omega))
    clear HF HR r0f
    unfold oneBits at h1
    have hd2 : decide ((0 : Int) < (len0 : Int)) = false := decide_eq_false (by omega)
    go_wp2
    go_ret
    exact ⟨rfl, hB⟩

/-! ### THE ROW's STEP: WRITTEN OUT: LEAVE IT -/
set_option maxRecDepth 100000 in
theorem lifted (os : Os) (started : os.Started) (H : Type) (enc : TypeId × Value → H) :
    ReturnsInHanded {} Yba.checked os 4 .any (Rows.lawS3978AIdealFreeSpec.pre6 enc Yba.prog Yba.f4 Rows.lawS3978AIdealFreeRow.domain false) (Rows.lawS3978AIdealFreeSpec.post enc Yba.prog Yba.f4 false true false false) := by
  refine returnsInHanded_of_change (C := Yba.checked) own started (by kernel_rfl) Yba.func4
    (ChangeSpec.witness6 (enc := enc) (C := Yba.checked) false ⟨#[], #[.slice none 0 0, .slice none 0 0], []⟩ 8 (by kernel_rfl) (by kernel_rfl) (by kernel_rfl) (by kernel_rfl)) ?_
  intro W base args ds gs before hval0 hW hcnd _
  have hval : ∀ (j : Nat) t v, Yba.f4.params[j]? = some t → args[j]? = some v → Value.okWide Yba.prog W .any base t v := hval0
  have hW' := hW
  obtain ⟨p, q, hA0, hV, rfl, hfz, hnd⟩ := hW
  have hA : DataW.TrodAll enc Yba.prog W 0 (fun _ => true) true Yba.f4.params.toList args.toList ds p := hA0
  rw [Yba.params4] at hA hval
  obtain ⟨v0, vs0, d0, ds0, p0, q0, hargs, rfl, rfl, h0, r0⟩ := trodAll_cons hA
  obtain ⟨v1, vs1, d1, ds1, p1, q1, rfl, rfl, rfl, h1, r1⟩ := trodAll_cons r0
  obtain ⟨rfl, rfl, rfl⟩ := trodAll_nil r1
  obtain rfl : args = #[v0, v1] := by cases args; simp_all
  obtain ⟨rfl, rfl⟩ := trodVars_none hV
  obtain ⟨a0, len0, cap0, rfl⟩ := okWide_slice Yba.underlying22 (hval 0 22 v0 rfl rfl)
  have k0 := h0
  have lt0 : ∀ x ∈ p0, x.block < W.heap.size := by obtain ⟨m, hm⟩ := k0; exact DataW.trod_lt m _ _ _ hm
  obtain ⟨z0, w0⟩ : ∃ zs, IsRow .i64 W a0 len0 cap0 zs := by
    obtain ⟨fuel, hf⟩ := h0
    rcases open_ints Yba.underlying22 Yba.underlying3 (by kernel_rfl) hf with ⟨hcs, _⟩ | ⟨x, l, c, zs, hcs, _, hl, hm, hz, _, hcell, hwz⟩
    · simp [Value.cells] at hcs
      obtain ⟨rfl, rfl, rfl⟩ := hcs
      exact ⟨[], .inl ⟨rfl, rfl, rfl, rfl⟩⟩
    · simp [Value.cells] at hcs
      obtain ⟨rfl, rfl, rfl⟩ := hcs
      exact ⟨zs, .inr ⟨_, rfl, hl, hm, by simpa using hz, hcell, hwz⟩⟩
  obtain ⟨a1, len1, cap1, rfl⟩ := okWide_slice Yba.underlying22 (hval 1 22 v1 rfl rfl)
  have k1 := h1
  have lt1 : ∀ x ∈ p1, x.block < W.heap.size := by obtain ⟨m, hm⟩ := k1; exact DataW.trod_lt m _ _ _ hm
  obtain ⟨z1, w1⟩ : ∃ zs, IsRow .i64 W a1 len1 cap1 zs := by
    obtain ⟨fuel, hf⟩ := h1
    rcases open_ints Yba.underlying22 Yba.underlying3 (by kernel_rfl) hf with ⟨hcs, _⟩ | ⟨x, l, c, zs, hcs, _, hl, hm, hz, _, hcell, hwz⟩
    · simp [Value.cells] at hcs
      obtain ⟨rfl, rfl, rfl⟩ := hcs
      exact ⟨[], .inl ⟨rfl, rfl, rfl, rfl⟩⟩
    · simp [Value.cells] at hcs
      obtain ⟨rfl, rfl, rfl⟩ := hcs
      exact ⟨zs, .inr ⟨_, rfl, hl, hm, by simpa using hz, hcell, hwz⟩⟩
  clear hA0 hval0
  refine (walk a0 len0 cap0 z0 a1 len1 cap1 z1 W w0 w1).mono fun e W' ⟨he, bel⟩ => ?_
  subst he
  exact ⟨_, rfl, _, _, _, [], _, [], hW', trodAll_mk1 (shut_bool Yba.underlying4 _), (trodAll_cons_mk (Below.trod laidOut (by kernel_rfl) (of_decide_eq_true (by kernel_rfl)) k0 bel lt0) (trodAll_cons_mk (Below.trod laidOut (by kernel_rfl) (of_decide_eq_true (by kernel_rfl)) k1 bel lt1) trodAll_mk0)), rfl, bel.frame _, fun h => by cases h⟩

theorem over : Rows.lawS3978AIdealFreeRow.holds Yba.pinned (OpenSpec.ofChange Rows.lawS3978AIdealFreeSpec) :=
  OpenClaim.holds_of_wide 4 Yba.f4 rfl rfl rfl rfl rfl rfl rfl ⟨rfl, rfl, rfl, rfl, rfl⟩ rfl rfl rfl rfl rfl (by kernel_rfl) Yba.func4 (by kernel_rfl)
    (of_decide_eq_true (by kernel_rfl)) (by unfold Func.isWrapper; first | (rw [if_pos (by decide +kernel)]; kernel_rfl) | (rw [if_neg (by decide +kernel)]; exact ⟨rfl, rfl⟩))
    (fun os started H enc _ => lifted os started H enc)

/-- ████ THE STATEMENT ████ -/
theorem proved : Rows.LawS3978AIdealFreeSaid := over
end Go.Proofs.Ybulkcdja.lawS3978AIdealFree
