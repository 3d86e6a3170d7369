/-
  THE STATEMENT Rows.FnCycleThroughIsLexLeastShortestCycleSaid, PROVED.
-/
import Derived.Test.Qxb6603026aOpen
import Derived.Test.Qxb6603026aMain
namespace Go.Proofs.Qxb6603026a.CycRow
open Go.ChangeShapes Go.WideShapes Go.ChangeAt Go.RowKit
set_option linter.unusedVariables false

set_option maxRecDepth 100000 in
theorem lifted (os : Os) (started : os.Started) (H : Type) (enc : TypeId × Value → H) :
    ReturnsInHanded {} Try.checked os 5 .any (Rows.fnCycleThroughIsLexLeastShortestCycleSpec.pre6 enc Try.prog Try.f5 Rows.fnCycleThroughIsLexLeastShortestCycleRow.domain false) (Rows.fnCycleThroughIsLexLeastShortestCycleSpec.post enc Try.prog Try.f5 false true false false) := by
  refine returnsInHanded_of_change (C := Try.checked) own started (by kernel_rfl) Try.func5
    (ChangeSpec.witness6 (enc := enc) (C := Try.checked) false ⟨#[], #[.slice none 0 0, .int .i64 0, .slice none 0 0], []⟩ 8 (by kernel_rfl) (by kernel_rfl) (by kernel_rfl) (by kernel_rfl)) ?_
  intro W base args ds gs before hval0 hW hcnd _
  have hval : ∀ (j : Nat) t v, Try.f5.params[j]? = some t → args[j]? = some v → Value.okWide Try.prog W .any base t v := hval0
  have hW' := hW
  obtain ⟨p, q, hA0, hV, rfl, hfz, hnd⟩ := hW
  have hA : DataW.TrodAll enc Try.prog W 0 (fun _ => true) true Try.f5.params.toList args.toList ds p := hA0
  rw [Try.params5] at hA hval
  obtain ⟨v0, vs0, d0, ds0, p0, q0, hargs, rfl, rfl, h0, r0⟩ := trodAll_cons hA
  obtain ⟨v1, vs1, d1, ds1, p1, q1, rfl, rfl, rfl, h1, r1⟩ := trodAll_cons r0
  obtain ⟨v2, vs2, d2, ds2, p2, q2, rfl, rfl, rfl, h2, r2⟩ := trodAll_cons r1
  obtain ⟨rfl, rfl, rfl⟩ := trodAll_nil r2
  obtain rfl : args = #[v0, v1, v2] := by cases args; simp_all
  obtain ⟨rfl, rfl⟩ := trodVars_none hV
  obtain ⟨a0, len0, cap0, rfl⟩ := okWide_slice Try.underlying22 (hval 0 22 v0 rfl rfl)
  have lt0 : ∀ x ∈ p0, x.block < W.heap.size := by obtain ⟨m, hm⟩ := h0; exact DataW.trod_lt m _ _ _ hm
  obtain ⟨D, o0, l0, g0⟩ : ∃ l, IsRows (· < W.heap.size) W (.slice a0 len0 cap0) l ∧ l.length ≤ 9223372036854775807 ∧ ∀ a ∈ l, a.length ≤ 9223372036854775807 := by
    obtain ⟨m, hm⟩ := h0; exact open_rows22 hm
  obtain ⟨a1, rfl, rfl, rfl, w1⟩ := open_int Try.underlying3 (hval 1 3 v1 rfl rfl) h1
  obtain ⟨a2, len2, cap2, rfl⟩ := okWide_slice Try.underlying26 (hval 2 26 v2 rfl rfl)
  have lt2 : ∀ x ∈ p2, x.block < W.heap.size := by obtain ⟨m, hm⟩ := h2; exact DataW.trod_lt m _ _ _ hm
  obtain ⟨G, o2, l2, g2⟩ : ∃ l, IsInts (· < W.heap.size) W (.slice a2 len2 cap2) l ∧ l.length ≤ 9223372036854775807 ∧ ∀ a ∈ l, (Lit.int .i64 a).wf = true := by
    obtain ⟨m, hm⟩ := h2; exact open_ints26 hm
  clear hA0 hval0
  refine (law_any _ _ a1 D G W o0 o2 g2 l0 g0 l2).mono fun e W' hLaw => ?_
  obtain ⟨he, bel⟩ := hLaw
  subst he
  exact ⟨_, rfl, _, _, _, [], _, [], hW', trodAll_mk1 (shut_bool Try.underlying4 _), (trodAll_cons_mk (Below.trod laidOut (by kernel_rfl) (of_decide_eq_true (by kernel_rfl)) h0 bel lt0) (trodAll_cons_mk (shut_int Try.underlying3 w1) (trodAll_cons_mk (Below.trod laidOut (by kernel_rfl) (of_decide_eq_true (by kernel_rfl)) h2 bel lt2) trodAll_mk0))), rfl, bel.frame _, fun h => by cases h⟩

theorem over : Rows.fnCycleThroughIsLexLeastShortestCycleRow.holds Try.pinned (OpenSpec.ofChange Rows.fnCycleThroughIsLexLeastShortestCycleSpec) :=
  OpenClaim.holds_of_wide 5 Try.f5 rfl rfl rfl rfl rfl rfl rfl ⟨rfl, rfl, rfl, rfl, rfl⟩ rfl rfl rfl rfl rfl (by kernel_rfl) Try.func5 (by kernel_rfl)
    (of_decide_eq_true (by kernel_rfl)) (by unfold Func.isWrapper; first | (rw [if_pos (by decide +kernel)]; kernel_rfl) | (rw [if_neg (by decide +kernel)]; exact ⟨rfl, rfl⟩))
    (fun os started H enc _ => lifted os started H enc)

end Go.Proofs.Qxb6603026a.CycRow
namespace Go.Proofs.Qxb6603026a
/-- THE STATEMENT. -/
theorem cycleThrough_proved : Rows.FnCycleThroughIsLexLeastShortestCycleSaid := CycRow.over
end Go.Proofs.Qxb6603026a
