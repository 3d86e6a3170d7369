/-
  WHAT CAME IN: slices of one-cell elements; slices of slices of int8.
-/
import Derived.Test.Qxb6003464aRows
import Derived.Test.Qxb6003464aPlain
import Derived.ProofKit
import Derived.OpenShut
import Derived.ChangeOld
import Derived.Deep.Slices
namespace Go.Proofs.Qxb6003464a
open Go.ChangeShapes Go.WideShapes Go.ChangeAt Go.RowKit

theorem own : ownKnob Try.prog.godebug = none := by kernel_rfl
theorem laidOut : laidOutB Try.prog = true := by kernel_rfl
theorem cells22 : Try.prog.cellsOf 22 = 1 := by kernel_rfl
theorem cells23 : Try.prog.cellsOf 23 = 1 := by kernel_rfl
theorem cells3 : Try.prog.cellsOf 3 = 1 := by kernel_rfl
theorem cells4 : Try.prog.cellsOf 4 = 1 := by kernel_rfl

/-- A slice value that reads as data, its elements of one cell, each of a known kind. -/
theorem open_with {H : Type} {enc : TypeId × Value → H} {W : World} {t e : TypeId} {α : Type} [Inhabited α] (Q : Value → α → Prop) (ht : Try.prog.underlying t = some (.slice e)) (hc : Try.prog.cellsOf e = 1)
    (hmk : ∀ n v x, DataW.trod enc Try.prog W 0 (fun _ => true) true n e [v] = some x → ∃ b, Q v b)
    {fuel : Nat} {v : Value} {x : DataW H × List MemPlace} (hf : DataW.trod enc Try.prog W 0 (fun _ => true) true fuel t [v] = some x) :
    ∃ ao len cap, v = .slice ao len cap ∧ len ≤ 9223372036854775807 ∧ (ao = none → len = 0) ∧ ∃ (V : Nat → Value) (f : Nat → α), SeqOn (· < W.heap.size) W ao len V ∧ ∀ j, j < len → Q (V j) (f j) := by
  rcases Deep.open_slice1 ht hc hf with ⟨hcs, _⟩ | ⟨a, len', cap', m, n, V, D, Pl, hcs, _, hl, hm, hmm, _, hx⟩
  · simp at hcs
    exact ⟨none, 0, 0, hcs, by omega, fun _ => rfl, fun _ => .bool false, fun _ => default, (fun h => by omega), (fun j hj => by omega)⟩
  · simp at hcs
    simp only [if_true] at hmm
    subst hmm
    unfold maxLen at hm
    obtain ⟨f, hF⟩ := Deep.choose_lt (α := α) (n := m) (p := fun i b => Q (V i) b) (fun i hi => hmk _ _ _ (hx i hi).2)
    refine ⟨some a, len', m, hcs, by omega, (fun h => by simp at h), V, f, fun hpos => ?_, fun j hj => hF j (by omega)⟩
    obtain ⟨b, off, spot⟩ := a
    have hspot : spot = none := by simpa [Addr.add] using World.cell?_spot (hx 0 (by omega)).1
    subst hspot
    refine ⟨b, off, rfl, ?_, fun j hj => ?_⟩
    · have := World.block_lt_of_cell? _ _ (hx 0 (by omega)).1
      simpa [Addr.add] using this
    · have := (hx j (by omega)).1
      rw [add_plain] at this
      exact this

theorem open_cells {H : Type} {enc : TypeId × Value → H} {W : World} {t e : TypeId} {α : Type} [Inhabited α] (mk : α → Value) (ht : Try.prog.underlying t = some (.slice e)) (hc : Try.prog.cellsOf e = 1)
    (hmk : ∀ n v x, DataW.trod enc Try.prog W 0 (fun _ => true) true n e [v] = some x → ∃ b, v = mk b)
    {fuel : Nat} {v : Value} {x : DataW H × List MemPlace} (hf : DataW.trod enc Try.prog W 0 (fun _ => true) true fuel t [v] = some x) :
    ∃ ao len cap, v = .slice ao len cap ∧ len ≤ 9223372036854775807 ∧ (ao = none → len = 0) ∧ ∃ f : Nat → α, SeqOn (· < W.heap.size) W ao len (fun j => mk (f j)) := by
  obtain ⟨ao, len, cap, hv, hl, hz, V, f, hs, hq⟩ := open_with (fun v b => v = mk b) ht hc hmk hf
  refine ⟨ao, len, cap, hv, hl, hz, f, fun hpos => ?_⟩
  obtain ⟨b, off, e1, e2, e3⟩ := hs hpos
  exact ⟨b, off, e1, e2, fun j hj => by rw [e3 j hj, hq j hj]⟩

theorem is_i8 {H : Type} {enc : TypeId × Value → H} {W : World} : ∀ n v x, DataW.trod enc Try.prog W 0 (fun _ => true) true n 23 [v] = some x → ∃ b, v = Value.int .i8 b := fun n v x hx => by
  obtain ⟨s, hs, _⟩ := DataW.trod_int Try.underlying23 hx; simp at hs; exact ⟨s, hs⟩
theorem is_i64 {H : Type} {enc : TypeId × Value → H} {W : World} : ∀ n v x, DataW.trod enc Try.prog W 0 (fun _ => true) true n 3 [v] = some x → ∃ b, v = Value.int .i64 b := fun n v x hx => by
  obtain ⟨s, hs, _⟩ := DataW.trod_int Try.underlying3 hx; simp at hs; exact ⟨s, hs⟩
theorem is_bool {H : Type} {enc : TypeId × Value → H} {W : World} : ∀ n v x, DataW.trod enc Try.prog W 0 (fun _ => true) true n 4 [v] = some x → ∃ b, v = Value.bool b := fun n v x hx => by
  obtain ⟨s, hs, _⟩ := DataW.trod_bool Try.underlying4 hx; simp at hs; exact ⟨s, hs⟩

/-- An argument that is such a slice. -/
theorem open_arg {H : Type} {enc : TypeId × Value → H} {W : World} {t e : TypeId} {α : Type} [Inhabited α] (mk : α → Value) (ht : Try.prog.underlying t = some (.slice e)) (hc : Try.prog.cellsOf e = 1)
    (hmk : ∀ n v x, DataW.trod enc Try.prog W 0 (fun _ => true) true n e [v] = some x → ∃ b, v = mk b)
    {ao : Option Addr} {len cap : Nat} {d : DataW H} {p : List MemPlace} (h : DataW.Trod enc Try.prog W 0 (fun _ => true) true t (.slice ao len cap) d p) :
    len ≤ 9223372036854775807 ∧ (ao = none → len = 0) ∧ ∃ f : Nat → α, SeqOn (· < W.heap.size) W ao len (fun j => mk (f j)) := by
  obtain ⟨fuel, hf⟩ := h
  obtain ⟨ao', len', cap', hv, h1, h2, h3⟩ := open_cells mk ht hc hmk (v := .slice ao len cap) hf
  simp at hv
  obtain ⟨rfl, rfl, rfl⟩ := hv
  exact ⟨h1, h2, h3⟩

/-- What is known of a row. -/
def RowQ (W : World) (v : Value) (q : Option Addr × Nat × Nat × (Nat → Int)) : Prop :=
  v = .slice q.1 q.2.1 q.2.2.1 ∧ q.2.1 ≤ 9223372036854775807 ∧ (q.1 = none → q.2.1 = 0) ∧ SeqOn (· < W.heap.size) W q.1 q.2.1 (fun j => .int .i8 (q.2.2.2 j))

/-- A slice of slices of int8 that came in. -/
theorem open_rows {H : Type} {enc : TypeId × Value → H} {W : World} {ao : Option Addr} {n cap : Nat} {d : DataW H} {p : List MemPlace} (h : DataW.Trod enc Try.prog W 0 (fun _ => true) true 38 (.slice ao n cap) d p) :
    n ≤ 9223372036854775807 ∧ (ao = none → n = 0) ∧ ∃ L G, (∀ r, r < n → L r ≤ 9223372036854775807) ∧ RowsOn (· < W.heap.size) W ao n L G := by
  obtain ⟨fuel, hf⟩ := h
  obtain ⟨ao', n', cap', hv, hn, hz, V, f, hs, hq⟩ := open_with (RowQ W) Try.underlying38 cells22 (fun n v x hx => by
    obtain ⟨ao, len, cap, hv, h1, h2, f, h3⟩ := open_cells (Value.int .i8) Try.underlying22 cells23 is_i8 hx
    exact ⟨(ao, len, cap, f), hv, h1, h2, h3⟩) (v := .slice ao n cap) hf
  simp at hv
  obtain ⟨rfl, rfl, rfl⟩ := hv
  refine ⟨hn, hz, fun r => (f r).2.1, fun r => (f r).2.2.2, fun r hr => (hq r hr).2.1, fun r => (f r).1, fun r => (f r).2.2.1, fun hpos => ?_, fun r hr => ⟨(hq r hr).2.2.1, (hq r hr).2.2.2⟩⟩
  obtain ⟨b, off, e1, e2, e3⟩ := hs hpos
  exact ⟨b, off, e1, e2, fun j hj => by rw [e3 j hj, (hq j hj).1]⟩
end Go.Proofs.Qxb6003464a
