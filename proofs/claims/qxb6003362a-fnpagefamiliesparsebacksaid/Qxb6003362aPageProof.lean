/-
  THE STATEMENT Rows.FnPageFamiliesParseBackSaid, PROVED.
-/
import Derived.Test.Qxb6003362aRows
import Derived.Test.Qxb6003362aMain
import Derived.ProofKit
import Derived.OpenShut
import Derived.ChangeOld
import Derived.Deep.Slices
namespace Go.Proofs.Qxb6003362a
open Go.ChangeShapes Go.WideShapes Go.ChangeAt Go.RowKit
set_option linter.unusedVariables false

theorem own : ownKnob Try.prog.godebug = none := by kernel_rfl
theorem laidOut : laidOutB Try.prog = true := by kernel_rfl
theorem cells9 : Try.prog.cellsOf 9 = 1 := by kernel_rfl
theorem cells4 : Try.prog.cellsOf 4 = 1 := by kernel_rfl

/-- A slice that came in, of one-cell elements of one shape. -/
theorem open_seq {H : Type} {enc : TypeId × Value → H} {W : World} {t e : TypeId} {α : Type} [Inhabited α] (mk : α → Value) (ht : Try.prog.underlying t = some (.slice e)) (hc : Try.prog.cellsOf e = 1)
    (hmk : ∀ n v x, DataW.trod enc Try.prog W 0 (fun _ => true) true n e [v] = some x → ∃ b, v = mk b)
    {ao : Option Addr} {len cap : Nat} {d : DataW H} {p : List MemPlace} (h : DataW.Trod enc Try.prog W 0 (fun _ => true) true t (.slice ao len cap) d p) :
    len ≤ 9223372036854775807 ∧ (ao = none → len = 0) ∧ ∃ f : Nat → α, SeqAt W.heap.size W ao len (fun j => mk (f j)) := by
  obtain ⟨fuel, hf⟩ := h
  rcases Deep.open_slice1 ht hc hf with ⟨hcs, _⟩ | ⟨a, len', cap', m, n, V, D, Pl, hcs, _, hl, hm, hmm, _, hx⟩
  · simp [Value.cells] at hcs
    obtain ⟨rfl, rfl, rfl⟩ := hcs
    exact ⟨by omega, fun _ => rfl, fun _ => default, fun h => by omega⟩
  · simp [Value.cells] at hcs
    obtain ⟨rfl, rfl, rfl⟩ := hcs
    simp only [if_true] at hmm
    subst hmm
    unfold maxLen at hm
    refine ⟨by omega, (fun h => by simp at h), ?_⟩
    obtain ⟨f, hF⟩ := Deep.choose_lt (α := α) (n := m) (p := fun i b => V i = mk b) (fun i hi => hmk _ _ _ (hx i hi).2)
    refine ⟨f, fun hpos => ?_⟩
    obtain ⟨b, off, spot⟩ := a
    have hspot : spot = none := by simpa [Addr.add] using World.cell?_spot (hx 0 (by omega)).1
    subst hspot
    refine ⟨b, off, rfl, ?_, fun j hj => ?_⟩
    · have := World.block_lt_of_cell? _ _ (hx 0 (by omega)).1
      simpa [Addr.add] using this
    · have := (hx j (by omega)).1
      rw [hF j (by omega), add_plain] at this
      exact this

set_option maxRecDepth 100000 in
theorem lifted (os : Os) (started : os.Started) (H : Type) (enc : TypeId × Value → H) :
    ReturnsInHanded {} Try.checked os 4 .any (Rows.fnPageFamiliesParseBackSpec.pre6 enc Try.prog Try.f4 Rows.fnPageFamiliesParseBackRow.domain false) (Rows.fnPageFamiliesParseBackSpec.post enc Try.prog Try.f4 false true false false) := by
  refine returnsInHanded_of_change (C := Try.checked) own started (by kernel_rfl) Try.func4
    (ChangeSpec.witness6 (enc := enc) (C := Try.checked) false ⟨#[], #[.slice none 0 0, .slice none 0 0, .slice none 0 0], []⟩ 8 (by kernel_rfl) (by kernel_rfl) (by kernel_rfl) (by kernel_rfl)) ?_
  intro W base args ds gs before hval0 hW hcnd _
  have hval : ∀ (j : Nat) t v, Try.f4.params[j]? = some t → args[j]? = some v → Value.okWide Try.prog W .any base t v := hval0
  have hW' := hW
  obtain ⟨p, q, hA0, hV, rfl, hfz, hnd⟩ := hW
  have hA : DataW.TrodAll enc Try.prog W 0 (fun _ => true) true Try.f4.params.toList args.toList ds p := hA0
  rw [Try.params4] at hA hval
  obtain ⟨v0, vs0, d0, ds0, p0, q0, hargs, rfl, rfl, h0, r0⟩ := trodAll_cons hA
  obtain ⟨v1, vs1, d1, ds1, p1, q1, rfl, rfl, rfl, h1, r1⟩ := trodAll_cons r0
  obtain ⟨v2, vs2, d2, ds2, p2, q2, rfl, rfl, rfl, h2, r2⟩ := trodAll_cons r1
  obtain ⟨rfl, rfl, rfl⟩ := trodAll_nil r2
  obtain rfl : args = #[v0, v1, v2] := by cases args; simp_all
  obtain ⟨rfl, rfl⟩ := trodVars_none hV
  obtain ⟨a0, len0, cap0, rfl⟩ := okWide_slice Try.underlying28 (hval 0 28 v0 rfl rfl)
  obtain ⟨a1, len1, cap1, rfl⟩ := okWide_slice Try.underlying28 (hval 1 28 v1 rfl rfl)
  obtain ⟨a2, len2, cap2, rfl⟩ := okWide_slice Try.underlying29 (hval 2 29 v2 rfl rfl)
  have lt0 : ∀ x ∈ p0, x.block < W.heap.size := by obtain ⟨m, hm⟩ := h0; exact DataW.trod_lt m _ _ _ hm
  have lt1 : ∀ x ∈ p1, x.block < W.heap.size := by obtain ⟨m, hm⟩ := h1; exact DataW.trod_lt m _ _ _ hm
  have lt2 : ∀ x ∈ p2, x.block < W.heap.size := by obtain ⟨m, hm⟩ := h2; exact DataW.trod_lt m _ _ _ hm
  obtain ⟨b0, z0, f0, s0⟩ := open_seq Value.string Try.underlying28 cells9 (fun n v x hx => by obtain ⟨s, hs, _⟩ := DataW.trod_string Try.underlying9 hx; simp at hs; exact ⟨s, hs⟩) h0
  obtain ⟨b1, z1, f1, s1⟩ := open_seq Value.string Try.underlying28 cells9 (fun n v x hx => by obtain ⟨s, hs, _⟩ := DataW.trod_string Try.underlying9 hx; simp at hs; exact ⟨s, hs⟩) h1
  obtain ⟨b2, z2, f2, s2⟩ := open_seq Value.bool Try.underlying29 cells4 (fun n v x hx => by obtain ⟨s, hs, _⟩ := DataW.trod_bool Try.underlying4 hx; simp at hs; exact ⟨s, hs⟩) h2
  clear hA0 hval0
  refine (main_any a0 a1 a2 len0 cap0 len1 cap1 len2 cap2 f0 f1 f2 W b0 b1 b2 z0 z1 z2 s0 s1 s2).mono fun e W' hL => ?_
  obtain ⟨he, bel⟩ := hL
  subst he
  exact ⟨_, rfl, _, _, _, [], _, [], hW', trodAll_mk1 (shut_bool Try.underlying4 _), (trodAll_cons_mk (Below.trod laidOut (by kernel_rfl) (of_decide_eq_true (by kernel_rfl)) h0 bel lt0) (trodAll_cons_mk (Below.trod laidOut (by kernel_rfl) (of_decide_eq_true (by kernel_rfl)) h1 bel lt1) (trodAll_cons_mk (Below.trod laidOut (by kernel_rfl) (of_decide_eq_true (by kernel_rfl)) h2 bel lt2) trodAll_mk0))), rfl, bel.frame _, fun h => by cases h⟩

theorem over : Rows.fnPageFamiliesParseBackRow.holds Try.pinned (OpenSpec.ofChange Rows.fnPageFamiliesParseBackSpec) :=
  OpenClaim.holds_of_wide 4 Try.f4 rfl rfl rfl rfl rfl rfl rfl ⟨rfl, rfl, rfl, rfl, rfl⟩ rfl rfl rfl rfl rfl (by kernel_rfl) Try.func4 (by kernel_rfl)
    (of_decide_eq_true (by kernel_rfl)) (by unfold Func.isWrapper; first | (rw [if_pos (by decide +kernel)]; kernel_rfl) | (rw [if_neg (by decide +kernel)]; exact ⟨rfl, rfl⟩))
    (fun os started H enc _ => lifted os started H enc)

/-- THE STATEMENT. -/
theorem pageFamilies_proved : Rows.FnPageFamiliesParseBackSaid := over
end Go.Proofs.Qxb6003362a
