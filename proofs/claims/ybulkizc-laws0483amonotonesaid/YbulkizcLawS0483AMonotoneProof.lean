/-
  THE PROOF OF 'Rows.LawS0483AMonotoneSaid'; the walk by its eight cases (YbulkizcMonotone).
-/
import Derived.Test.YbulkizcRows
import Derived.Test.YbulkizcMonotone
import Derived.WalkKit
import Derived.ProofKit
import Derived.OpenShut
import Derived.ShutString
namespace Go.Proofs.Ybulkizc.lawS0483AMonotone
open Go.ChangeShapes Go.WideShapes Go.ChangeAt Go.RowKit
open Go.ChangeMaps (open_string shut_string)
set_option linter.unusedVariables false      -- a walk need not use every 'w<i>' (that an integer argument fits its kind)

theorem own : ownKnob Yba.prog.godebug = none := by kernel_rfl

/-! ### THE WALK: the eight cases of YbulkizcMonotone -/
theorem walk (a0 : Int) (a1 : Int) (a2 : Int) (a3 : Int) (w0 : (Lit.int .i64 a0).wf = true) (w1 : (Lit.int .i64 a1).wf = true) (w2 : (Lit.int .i64 a2).wf = true) (w3 : (Lit.int .i64 a3).wf = true) (w : World) :
    Calls Yba.prog 4 #[.int .i64 a0, .int .i64 a1, .int .i64 a2, .int .i64 a3] w fun e w' => e = .returned (.bool true) ∧ Below w.heap.size w w' := by
  have b0 := bounds_i64 w0
  have b1 := bounds_i64 w1
  by_cases z0 : a0 = 0
  · subst z0
    by_cases z1 : a1 = 0
    · subst z1
      exact Walks.mono_both_zero 0 0 a2 a3 _ _ w Walks.leads_zero Walks.leads_zero rfl rfl
    · exact Walks.mono_left_zero 0 a1 a2 a3 _ _ _ _ w Walks.leads_zero (Walks.leads_set a1 b1.1 b1.2 z1) rfl (by simp [z1]) (by rw [decide_eq_false_iff_not]; omega) (by rw [beq_eq_false_iff_ne]; omega)
  · by_cases z1 : a1 = 0
    · subst z1
      have hS : a0 / 1000000000 + -62135596800 < 9223372036854775807 := by omega
      exact Walks.mono_right_zero a0 0 a2 a3 _ _ _ _ w (Walks.leads_set a0 b0.1 b0.2 z0) Walks.leads_zero (by simp [z0]) rfl hS (by rw [beq_eq_false_iff_ne]; omega)
    · have L0 := Walks.leads_set a0 b0.1 b0.2 z0
      have L1 := Walks.leads_set a1 b1.1 b1.2 z1
      have y0 : (a0 == 0) = false := by simp [z0]
      have y1 : (a1 == 0) = false := by simp [z1]
      rcases Int.lt_trichotomy (a0 / 1000000000) (a1 / 1000000000) with hq | hq | hq
      · exact Walks.mono_sec_less a0 a1 a2 a3 _ _ _ _ w L0 L1 y0 y1 (by omega) (by rw [beq_eq_false_iff_ne]; omega) (by omega) (by rw [beq_eq_false_iff_ne]; omega)
      · rcases Int.lt_trichotomy (a0 % 1000000000) (a1 % 1000000000) with hr | hr | hr
        · rw [← hq] at L1
          exact Walks.mono_nsec_less a0 a1 a2 a3 _ _ _ w L0 L1 y0 y1 hr (by rw [beq_eq_false_iff_ne]; omega) (by omega) (by rw [beq_eq_false_iff_ne]; omega)
        · obtain rfl : a0 = a1 := by omega
          exact Walks.mono_same a0 a2 a3 _ _ w L0 L0 y0
        · rw [← hq] at L1
          exact Walks.mono_nsec_more a0 a1 a2 a3 _ _ _ w L0 L1 y0 y1 (by rw [decide_eq_false_iff_not]; omega) (by rw [beq_eq_false_iff_ne]; omega) (by rw [decide_eq_false_iff_not]; omega) (by rw [beq_eq_false_iff_ne]; omega)
      · exact Walks.mono_sec_more a0 a1 a2 a3 _ _ _ _ w L0 L1 y0 y1 (by rw [decide_eq_false_iff_not]; omega) (by rw [beq_eq_false_iff_ne]; omega) (by rw [decide_eq_false_iff_not]; omega) (by rw [beq_eq_false_iff_ne]; omega)

/-! ### THE ROW's STEP: the template's, but for its end: the walk leaves 'Below' in the place of 'Grown', so the post is given limb by limb -/
set_option maxRecDepth 100000 in
theorem lifted (os : Os) (started : os.Started) (H : Type) (enc : TypeId × Value → H) :
    ReturnsInHanded {} Yba.checked os 4 .any (Rows.lawS0483AMonotoneSpec.pre6 enc Yba.prog Yba.f4 Rows.lawS0483AMonotoneRow.domain false) (Rows.lawS0483AMonotoneSpec.post enc Yba.prog Yba.f4 false true false false) := by
  refine returnsInHanded_of_change (C := Yba.checked) own started (by kernel_rfl) Yba.func4
    (ChangeSpec.witness6 (enc := enc) (C := Yba.checked) false ⟨#[], #[.int .i64 0, .int .i64 0, .int .i64 0, .int .i64 0], []⟩ 8 (by kernel_rfl) (by kernel_rfl) (by kernel_rfl) (by kernel_rfl)) ?_
  intro W base args ds gs before hval0 hW hcnd _
  have hval : ∀ (j : Nat) t v, Yba.f4.params[j]? = some t → args[j]? = some v → Value.okWide Yba.prog W .any base t v := hval0
  have hW' := hW
  obtain ⟨p, q, hA0, hV, rfl, hfz, hnd⟩ := hW
  have hA : DataW.TrodAll enc Yba.prog W 0 (fun _ => true) true Yba.f4.params.toList args.toList ds p := hA0
  rw [Yba.params4] at hA hval
  obtain ⟨v0, vs0, d0, ds0, p0, q0, hargs, rfl, rfl, h0, r0⟩ := trodAll_cons hA
  obtain ⟨v1, vs1, d1, ds1, p1, q1, rfl, rfl, rfl, h1, r1⟩ := trodAll_cons r0
  obtain ⟨v2, vs2, d2, ds2, p2, q2, rfl, rfl, rfl, h2, r2⟩ := trodAll_cons r1
  obtain ⟨v3, vs3, d3, ds3, p3, q3, rfl, rfl, rfl, h3, r3⟩ := trodAll_cons r2
  obtain ⟨rfl, rfl, rfl⟩ := trodAll_nil r3
  obtain rfl : args = #[v0, v1, v2, v3] := by cases args; simp_all
  obtain ⟨rfl, rfl⟩ := trodVars_none hV
  obtain ⟨a0, rfl, rfl, rfl, w0⟩ := open_int Yba.underlying2 (hval 0 2 v0 rfl rfl) h0
  obtain ⟨a1, rfl, rfl, rfl, w1⟩ := open_int Yba.underlying2 (hval 1 2 v1 rfl rfl) h1
  obtain ⟨a2, rfl, rfl, rfl, w2⟩ := open_int Yba.underlying3 (hval 2 3 v2 rfl rfl) h2
  obtain ⟨a3, rfl, rfl, rfl, w3⟩ := open_int Yba.underlying3 (hval 3 3 v3 rfl rfl) h3
  clear hA0 hval0
  refine (walk a0 a1 a2 a3 w0 w1 w2 w3 W).mono fun e W' ⟨he, bel⟩ => ?_
  subst he
  exact ⟨_, rfl, _, _, _, [], [], [], hW', trodAll_mk1 (shut_bool Yba.underlying4 _), (trodAll_cons_mk (shut_int Yba.underlying2 w0) (trodAll_cons_mk (shut_int Yba.underlying2 w1) (trodAll_cons_mk (shut_int Yba.underlying3 w2) (trodAll_cons_mk (shut_int Yba.underlying3 w3) trodAll_mk0)))), rfl, bel.frame _, fun h => by cases h⟩

theorem over : Rows.lawS0483AMonotoneRow.holds Yba.pinned (OpenSpec.ofChange Rows.lawS0483AMonotoneSpec) :=
  OpenClaim.holds_of_wide 4 Yba.f4 rfl rfl rfl rfl rfl rfl rfl ⟨rfl, rfl, rfl, rfl, rfl⟩ rfl rfl rfl rfl rfl (by kernel_rfl) Yba.func4 (by kernel_rfl)
    (of_decide_eq_true (by kernel_rfl)) (by unfold Func.isWrapper; first | (rw [if_pos (by decide +kernel)]; kernel_rfl) | (rw [if_neg (by decide +kernel)]; exact ⟨rfl, rfl⟩))
    (fun os started H enc _ => lifted os started H enc)

/-- ████ THE STATEMENT ████ -/
theorem proved : Rows.LawS0483AMonotoneSaid :=
  over
#print axioms proved
end Go.Proofs.Ybulkizc.lawS0483AMonotone
