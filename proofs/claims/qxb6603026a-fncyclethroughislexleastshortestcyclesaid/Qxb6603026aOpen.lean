/-
  WHAT CAME IN: bytes, attributes, transforms, proposals, as data that read.
-/
import Derived.Test.Qxb6603026aRows
import Derived.Test.Qxb6603026aMem
import Derived.ProofKit
import Derived.OpenShut
import Derived.ChangeOld
import Derived.Deep.Slices
namespace Go.Proofs.Qxb6603026a
open Go.ChangeShapes Go.WideShapes Go.ChangeAt Go.RowKit

theorem own : ownKnob Try.prog.godebug = none := by kernel_rfl
theorem laidOut : laidOutB Try.prog = true := by kernel_rfl
theorem cells3 : Try.prog.cellsOf 3 = 1 := by kernel_rfl
theorem cells26 : Try.prog.cellsOf 26 = 1 := by kernel_rfl

/-- A slice whose elements have s cells. -/
theorem open_sl {H : Type} {enc : TypeId × Value → H} {W : World} {t e : TypeId} {α : Type} [Inhabited α] (s : Nat) (hs : 0 < s) (el : Nat → Nat → α → Prop) (good : α → Prop) (ht : Try.prog.underlying t = some (.slice e)) (hc : Try.prog.cellsOf e = s)
    (hel : ∀ n b o cs x, b < W.heap.size → cs.length = s → (∀ i, i < s → W.cell? ⟨b, o + i, none⟩ = cs[i]?) → DataW.trod enc Try.prog W 0 (fun _ => true) true n e cs = some x → ∃ a, el b o a ∧ good a)
    {fuel : Nat} {v : Value} {x : DataW H × List MemPlace} (hf : DataW.trod enc Try.prog W 0 (fun _ => true) true fuel t [v] = some x) :
    ∃ l : List α, IsSl (· < W.heap.size) s el v l ∧ l.length ≤ 9223372036854775807 ∧ ∀ a ∈ l, good a := by
  rcases Deep.open_slice ht hf with ⟨hcs, _⟩ | ⟨a, len, cap, m, n, D, Pl, hcs, _, hl, hm, hmm, _, hx⟩
  · simp at hcs
    exact ⟨[], ⟨none, 0, hcs, fun _ => rfl, fun h => by simp at h⟩, by simp, fun a h => by simp at h⟩
  · simp at hcs
    simp only [if_true] at hmm
    subst hmm
    unfold maxLen at hm
    by_cases hpos : 0 < len
    · obtain ⟨b, off, spot⟩ := a
      rw [hc] at hx
      obtain ⟨cs0, h0, -⟩ := hx 0 (by omega)
      obtain ⟨-, hln, hcell⟩ := World.cells?_some h0
      have h00 := hcell 0 hs
      rw [List.getElem?_eq_getElem (by omega)] at h00
      have hspot : spot = none := by simpa [Addr.add] using World.cell?_spot h00
      subst hspot
      have hb : b < W.heap.size := by simpa [Addr.add] using World.block_lt_of_cell? _ _ h00
      obtain ⟨f, hF⟩ := Deep.choose_lt (α := α) (n := len) (p := fun i a => el b (off + i * s) a ∧ good a) (fun i hi => by
        obtain ⟨cs', h1, h2⟩ := hx i (by omega)
        obtain ⟨-, hln', hcell'⟩ := World.cells?_some h1
        refine hel _ _ _ cs' _ hb hln' (fun j hj => ?_) h2
        have := hcell' j hj
        rw [add_plain, add_plain] at this
        exact this)
      refine ⟨(List.range len).map f, ⟨some ⟨b, off, none⟩, m, by rw [hcs]; simp, fun h => by simp at h, fun _ => ⟨b, off, rfl, hb, fun j hj => ?_⟩⟩, by simp; omega, fun a ha => ?_⟩
      · simp only [List.length_map, List.length_range] at hj
        simp only [List.getElem_map, List.getElem_range]
        exact (hF j hj).1
      · obtain ⟨i, hi, rfl⟩ := List.mem_map.1 ha
        exact (hF i (by simpa using hi)).2
    · have : len = 0 := by omega
      subst this
      exact ⟨[], ⟨some a, m, by rw [hcs]; simp, fun h => by simp at h, fun h => by simp at h⟩, by simp, fun a h => by simp at h⟩

section
variable {H : Type} {enc : TypeId × Value → H} {W : World} {fuel : Nat} {v : Value} {x : DataW H × List MemPlace}

theorem open_ints26 (h : DataW.trod enc Try.prog W 0 (fun _ => true) true fuel 26 [v] = some x) : ∃ l, IsInts (· < W.heap.size) W v l ∧ l.length ≤ 9223372036854775807 ∧ ∀ a ∈ l, (Lit.int .i64 a).wf = true := 
  open_sl 1 (by omega) (elInt W) (fun a => (Lit.int .i64 a).wf = true) Try.underlying26 cells3 (fun n b o cs x hb hl hc hx => by
    obtain ⟨c, hcs, _, hw⟩ := DataW.trod_int Try.underlying3 hx
    subst hcs
    exact ⟨c, (by simpa using hc 0 (by omega) : W.cell? ⟨b, o, none⟩ = some (.int .i64 c)), hw⟩) h

theorem open_rows22 (h : DataW.trod enc Try.prog W 0 (fun _ => true) true fuel 22 [v] = some x) : ∃ l, IsRows (· < W.heap.size) W v l ∧ l.length ≤ 9223372036854775807 ∧ ∀ a ∈ l, a.length ≤ 9223372036854775807 :=
  open_sl 1 (by omega) (elRow (· < W.heap.size) W) (fun a => a.length ≤ 9223372036854775807) Try.underlying22 cells26 (fun n b o cs x hb hl hc hx => by
    match cs, hl with
    | [c0], _ =>
      obtain ⟨l, h1, h2, -⟩ := open_ints26 (v := c0) hx
      exact ⟨l, ⟨c0, by simpa using hc 0 (by omega), h1⟩, h2⟩) h
end
end Go.Proofs.Qxb6603026a
