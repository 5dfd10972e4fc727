/-
  'Rows.LawS3978AExactSaid' proved. The frame is the shell's; the walk is ours.
-/
import Derived.Test.YbulkcdjaRows
import Derived.WalkKit
import Derived.ProofKit
import Derived.OpenShut
import Derived.ShutString
import Derived.ChangeOld
import Derived.Below
import Derived.Test.YbulkcdjaRank
import Derived.WalkSpells
import Derived.WalkLawsBesides
namespace Go.Proofs.Ybulkcdja.lawS3978AExact
open Go.ChangeShapes Go.WideShapes Go.ChangeAt Go.RowKit
open Go.ChangeMaps (open_string shut_string)
set_option linter.unusedVariables false

theorem own : ownKnob Yba.prog.godebug = none := by kernel_rfl
theorem laidOut : laidOutB Yba.prog = true := by kernel_rfl

/-- WHAT THE WALK IS TOLD OF A SLICE OF INTEGERS THAT CAME IN: it is nil; or it leads to a row of 'cap' cells, the numbers 'zs' (the first 'len' are its elements, the rest its spare room), each fitting its kind. -/
def IsRow (k : IntKind) (w : World) (a : Option Addr) (len cap : Nat) (zs : List Int) : Prop :=
  (a = none ∧ len = 0 ∧ cap = 0 ∧ zs = []) ∨
  ∃ x, a = some x ∧ len ≤ cap ∧ cap ≤ maxLen ∧ zs.length = cap ∧ (∀ i, i < zs.length → w.cell? (x.add i) = some (.int k (zs.getD i 0))) ∧ ∀ n ∈ zs, (Lit.int k n).wf = true

theorem reads_of_row {w : World} {a : Option Addr} {len cap : Nat} {zs : List Int} (h : IsRow .i64 w a len cap zs) : Reads w a len (zs.take len) := by
  rcases h with ⟨rfl, rfl, rfl, rfl⟩ | ⟨x, rfl, hl, hm, hz, hc, hw⟩
  · exact ⟨rfl, .inl rfl⟩
  · refine ⟨by simp; omega, ?_⟩
    by_cases h0 : len = 0
    · exact .inl h0
    · have hs := World.cell?_spot (hc 0 (by omega))
      obtain ⟨b, off, spot⟩ := x
      have hs : spot = none := by simpa [Addr.add] using hs
      subst hs
      refine .inr ⟨b, off, rfl, World.block_lt_of_cell? w _ (hc 0 (by omega)), fun j hj => ?_⟩
      have := hc j (by omega)
      rw [Addr.add_lit] at this
      rw [this]
      simp [List.getD, hj]

set_option maxHeartbeats 1000000 in
theorem walk (a0 : Option Addr) (len0 cap0 : Nat) (z0 : List Int) (a1 : Option Addr) (len1 cap1 : Nat) (z1 : List Int) (w : World) (w0 : IsRow .i64 w a0 len0 cap0 z0) (w1 : IsRow .i64 w a1 len1 cap1 z1) :
    Calls Yba.prog 3 #[.slice a0 len0 cap0, .slice a1 len1 cap1] w fun e w' => e = .returned (.bool true) ∧ Below w.heap.size w w' := by
  have r0 := reads_of_row w0
  have r1 := reads_of_row w1
  clear w0 w1
  generalize z0.take len0 = zs at r0
  generalize z1.take len1 = ys at r1
  by_cases h0 : 4096 < len0
  · have hd : decide ((4096 : Int) < (len0 : Int)) = true := decide_eq_true (by omega)
    go_enter Yba.func3, Yba.ntmps3
    go_wp2
    go_ret
    exact ⟨rfl, Below.refl _ _⟩
  have hd : decide ((4096 : Int) < (len0 : Int)) = false := decide_eq_false (by omega)
  by_cases h1 : 4096 < len1
  · have hd1 : decide ((4096 : Int) < (len1 : Int)) = true := decide_eq_true (by omega)
    go_enter Yba.func3, Yba.ntmps3
    go_wp2
    go_ret
    exact ⟨rfl, Below.refl _ _⟩
  have hd1 : decide ((4096 : Int) < (len1 : Int)) = false := decide_eq_false (by omega)
  go_enter Yba.func3, Yba.ntmps3
  go_wp2_with fail
  refine (clone_any a0 len0 cap0 zs _ (by omega) r0).mono ?_
  rintro e wa ⟨ga, gc, rfl, hR, hba⟩
  have r1a := r1.below hba
  have r0a := r0.below hba
  go_wp2_with fail
  refine (clone_any a1 len1 cap1 ys _ (by omega) r1a).mono ?_
  rintro e wb ⟨ia, ic, rfl, hRi, hbb⟩
  have hRb := hR.below hbb
  have r0b := r0a.below hbb
  go_wp2_with fail
  refine (rank_any ga len0 gc _ zs _ (by omega) hRb).mono ?_
  rintro e wc ⟨rfl, hbc⟩
  have r0c := r0b.below hbc
  have hB : Below w.heap.size w wc := hba.trans ((hbb.mono hba.size).trans (hbc.mono (Nat.le_trans hba.size hbb.size)))
  clear hR hRi hRb hba hbb hbc r0 r0a r0b r1 r1a
  go_wp2_with fail
  obtain ⟨hl, hr⟩ := r0c
  go_loop [8, 9] (fun p i => ∃ k : Nat, k ≤ len0 ∧ i = .int .i64 k ∧ p = .int .i64 0 ∧ posTo zs k = 0) (fun _ i => len0 - (intOf i).toNat)
  case atStart => exact ⟨0, Nat.zero_le _, rfl, rfl, rfl⟩
  case round =>
    obtain ⟨k, hk, rfl, rfl, hp⟩ := hrel
    by_cases hlt : k < len0
    · obtain ⟨b, off, rfl, hb, hc⟩ : ∃ b off, a0 = some ⟨b, off, none⟩ ∧ b < wc.heap.size ∧ ∀ j, j < len0 → wc.cell? ⟨b, off + j, none⟩ = some (.int .i64 (zs.getD j 0)) := by
        rcases hr with h | h
        · omega
        · exact h
      have hck := hc k hlt
      clear hc
      by_cases hpos : 0 < zs.getD k 0
      · have H : posTo zs len0 = k + 1 := posTo_hit zs k len0 hlt hp hpos
        clear hp
        rw [H, rrBits_pos (by omega)]
        clear H
        generalize zs.getD k 0 = z at *
        have hbk : ∀ w : World, (binOp .quo 24 (.float .f64 4607182418800017408) (.float .f64 (floatOfInt .f64 ((k : Int) + 1)))).run Yba.prog w = .ok (.float .f64 (recip (k + 1))) w := fun w => by
          have := run_float_arith (P := Yba.prog) w .quo 24 .f64 _ _ _ (recip_bits (n := k + 1) (by omega) (by omega))
          rwa [show ((k + 1 : Nat) : Int) = (k : Int) + 1 by omega] at this
        have h1 := recip_self (n := k + 1) (by omega) (by omega)
        have h2 := recip_pos (n := k + 1) (by omega) (by omega)
        have h3 : (FloatKind.f64.format.order (recip (k + 1)) 4607182418800017408 == some .lt || FloatKind.f64.format.order (recip (k + 1)) 4607182418800017408 == some .eq) = true := by
          by_cases hk0 : k = 0
          · subst hk0; have := recip_one; unfold oneBits at this; rw [this]; rfl
          · have := recip_lt (n := k + 1) (by omega) (by omega); unfold oneBits at this; rw [this]; rfl
        go_wp2
        go_ret
        exact ⟨rfl, hB⟩
      · have H : Hid (posTo zs (k + 1) = 0) := posTo_miss zs k hp hpos
        clear hp
        generalize zs.getD k 0 = z at *
        go_wp2
        go_round
        case rel => exact ⟨k + 1, by omega, by go_num, rfl, H.out⟩
        case measure => simp [intOf]; omega
    · have he : k = len0 := by omega
      subst he
      rw [hp, rrBits_zero]
      clear hp
      have h0 := zero_self
      go_wp2
      go_ret
      exact ⟨rfl, hB⟩

/-! ### THE ROW's STEP: WRITTEN OUT: LEAVE IT -/
set_option maxRecDepth 100000 in
theorem lifted (os : Os) (started : os.Started) (H : Type) (enc : TypeId × Value → H) :
    ReturnsInHanded {} Yba.checked os 3 .any (Rows.lawS3978AExactSpec.pre6 enc Yba.prog Yba.f3 Rows.lawS3978AExactRow.domain false) (Rows.lawS3978AExactSpec.post enc Yba.prog Yba.f3 false true false false) := by
  refine returnsInHanded_of_change (C := Yba.checked) own started (by kernel_rfl) Yba.func3
    (ChangeSpec.witness6 (enc := enc) (C := Yba.checked) false ⟨#[], #[.slice none 0 0, .slice none 0 0], []⟩ 8 (by kernel_rfl) (by kernel_rfl) (by kernel_rfl) (by kernel_rfl)) ?_
  intro W base args ds gs before hval0 hW hcnd _
  have hval : ∀ (j : Nat) t v, Yba.f3.params[j]? = some t → args[j]? = some v → Value.okWide Yba.prog W .any base t v := hval0
  have hW' := hW
  obtain ⟨p, q, hA0, hV, rfl, hfz, hnd⟩ := hW
  have hA : DataW.TrodAll enc Yba.prog W 0 (fun _ => true) true Yba.f3.params.toList args.toList ds p := hA0
  rw [Yba.params3] at hA hval
  obtain ⟨v0, vs0, d0, ds0, p0, q0, hargs, rfl, rfl, h0, r0⟩ := trodAll_cons hA
  obtain ⟨v1, vs1, d1, ds1, p1, q1, rfl, rfl, rfl, h1, r1⟩ := trodAll_cons r0
  obtain ⟨rfl, rfl, rfl⟩ := trodAll_nil r1
  obtain rfl : args = #[v0, v1] := by cases args; simp_all
  obtain ⟨rfl, rfl⟩ := trodVars_none hV
  obtain ⟨a0, len0, cap0, rfl⟩ := okWide_slice Yba.underlying22 (hval 0 22 v0 rfl rfl)
  have k0 := h0
  have lt0 : ∀ x ∈ p0, x.block < W.heap.size := by obtain ⟨m, hm⟩ := k0; exact DataW.trod_lt m _ _ _ hm
  obtain ⟨z0, w0⟩ : ∃ zs, IsRow .i64 W a0 len0 cap0 zs := by
    obtain ⟨fuel, hf⟩ := h0
    rcases open_ints Yba.underlying22 Yba.underlying3 (by kernel_rfl) hf with ⟨hcs, _⟩ | ⟨x, l, c, zs, hcs, _, hl, hm, hz, _, hcell, hwz⟩
    · simp [Value.cells] at hcs
      obtain ⟨rfl, rfl, rfl⟩ := hcs
      exact ⟨[], .inl ⟨rfl, rfl, rfl, rfl⟩⟩
    · simp [Value.cells] at hcs
      obtain ⟨rfl, rfl, rfl⟩ := hcs
      exact ⟨zs, .inr ⟨_, rfl, hl, hm, by simpa using hz, hcell, hwz⟩⟩
  obtain ⟨a1, len1, cap1, rfl⟩ := okWide_slice Yba.underlying22 (hval 1 22 v1 rfl rfl)
  have k1 := h1
  have lt1 : ∀ x ∈ p1, x.block < W.heap.size := by obtain ⟨m, hm⟩ := k1; exact DataW.trod_lt m _ _ _ hm
  obtain ⟨z1, w1⟩ : ∃ zs, IsRow .i64 W a1 len1 cap1 zs := by
    obtain ⟨fuel, hf⟩ := h1
    rcases open_ints Yba.underlying22 Yba.underlying3 (by kernel_rfl) hf with ⟨hcs, _⟩ | ⟨x, l, c, zs, hcs, _, hl, hm, hz, _, hcell, hwz⟩
    · simp [Value.cells] at hcs
      obtain ⟨rfl, rfl, rfl⟩ := hcs
      exact ⟨[], .inl ⟨rfl, rfl, rfl, rfl⟩⟩
    · simp [Value.cells] at hcs
      obtain ⟨rfl, rfl, rfl⟩ := hcs
      exact ⟨zs, .inr ⟨_, rfl, hl, hm, by simpa using hz, hcell, hwz⟩⟩
  clear hA0 hval0
  refine (walk a0 len0 cap0 z0 a1 len1 cap1 z1 W w0 w1).mono fun e W' ⟨he, bel⟩ => ?_
  subst he
  exact ⟨_, rfl, _, _, _, [], _, [], hW', trodAll_mk1 (shut_bool Yba.underlying4 _), (trodAll_cons_mk (Below.trod laidOut (by kernel_rfl) (of_decide_eq_true (by kernel_rfl)) k0 bel lt0) (trodAll_cons_mk (Below.trod laidOut (by kernel_rfl) (of_decide_eq_true (by kernel_rfl)) k1 bel lt1) trodAll_mk0)), rfl, bel.frame _, fun h => by cases h⟩

theorem over : Rows.lawS3978AExactRow.holds Yba.pinned (OpenSpec.ofChange Rows.lawS3978AExactSpec) :=
  OpenClaim.holds_of_wide 3 Yba.f3 rfl rfl rfl rfl rfl rfl rfl ⟨rfl, rfl, rfl, rfl, rfl⟩ rfl rfl rfl rfl rfl (by kernel_rfl) Yba.func3 (by kernel_rfl)
    (of_decide_eq_true (by kernel_rfl)) (by unfold Func.isWrapper; first | (rw [if_pos (by decide +kernel)]; kernel_rfl) | (rw [if_neg (by decide +kernel)]; exact ⟨rfl, rfl⟩))
    (fun os started H enc _ => lifted os started H enc)

/-- ████ THE STATEMENT ████ -/
theorem proved : Rows.LawS3978AExactSaid := over
end Go.Proofs.Ybulkcdja.lawS3978AExact
