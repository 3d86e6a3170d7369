/-
  A TABLE THAT IS BEING FILLED: elements of s cells in one new block.
-/
import Derived.Test.Qxb6603026aMem
namespace Go.Proofs.Qxb6603026a
open Go.RowKit

structure Tab (w wr : World) (T s n : Nat) : Prop where
  own : ∃ xs, wr.ownsRow w.heap.size T s (.slice (some ⟨w.heap.size, 0, none⟩) n n) n xs
  bel : Below w.heap.size w wr

section
variable {w wr w1 : World} {T s n : Nat}

theorem Tab.lt (h : Tab w wr T s n) : w.heap.size < wr.heap.size := by
  obtain ⟨xs, ho⟩ := h.own
  exact (ho.lt _ rfl).2
theorem Tab.frz (h : Tab w wr T s n) (o : Nat) : wr.frozen? ⟨w.heap.size, o, none⟩ = false := by
  obtain ⟨xs, ho⟩ := h.own
  exact ho.frozenAt o
theorem Tab.cell (h : Tab w wr T s n) (o : Nat) (ho : o < n * s) : ∃ v, wr.cell? ⟨w.heap.size, o, none⟩ = some v := by
  obtain ⟨xs, hx⟩ := h.own
  have := hx.1
  rw [hx.cellAt _ ho]
  exact ⟨_, List.getElem?_eq_getElem (by omega)⟩
theorem Tab.set (h : Tab w wr T s n) (o : Nat) (u : Value) : Tab w (wr.setCell ⟨w.heap.size, o, none⟩ u) T s n := by
  obtain ⟨xs, ho⟩ := h.own
  exact ⟨⟨_, (ho.stored o u).1⟩, h.bel.setCell (Nat.le_refl _) _⟩
theorem Tab.later (h : Tab w wr T s n) (hb : Below wr.heap.size wr w1) : Tab w w1 T s n := by
  have hlt := h.lt
  obtain ⟨xs, ho⟩ := h.own
  exact ⟨⟨xs, own_below ho hb hlt⟩, h.bel.trans (hb.mono (by omega))⟩
/-- A store into a block above. -/
theorem Tab.setUp (h : Tab w wr T s n) {g o : Nat} (hg : w.heap.size < g) (u : Value) : Tab w (wr.setCell ⟨g, o, none⟩ u) T s n := by
  have hlt := h.lt
  obtain ⟨xs, ho⟩ := h.own
  refine ⟨⟨xs, ho.1, ?_⟩, h.bel.setCell (by simp; omega) _⟩
  rcases ho.2 with hn | ⟨g', cap', cur, hv, hb', hgg, rest⟩
  · exact .inl hn
  · refine .inr ⟨g', cap', cur, hv, hb', ?_, rest⟩
    simp at hv
    obtain ⟨rfl, _⟩ := hv
    rw [heap_set _ (by omega)]; exact hgg
end

/-- What is told of an element hangs on its own s cells and on the blocks that p names. -/
def Stable {α : Type} (s : Nat) (el : (Nat → Prop) → World → Nat → Nat → α → Prop) : Prop :=
  ∀ (p p' : Nat → Prop) (w w' : World) (b o : Nat) (a : α), el p w b o a → (∀ i, i < s → w'.cell? ⟨b, o + i, none⟩ = w.cell? ⟨b, o + i, none⟩) → (∀ b, p b → p' b ∧ w'.heap[b]? = w.heap[b]?) → el p' w' b o a

theorem stableR : Stable 1 elRow := fun _ _ _ _ _ _ _ h hc hk => by
  obtain ⟨v, e, hv⟩ := h.c0
  exact ⟨v, (hc 0 (by omega)).trans e, hv.move hk⟩

/-- k elements of l are laid, in block w.heap.size; what they lead to lies above that block. -/
structure Filling {α : Type} (s T : Nat) (el : (Nat → Prop) → World → Nat → Nat → α → Prop) (w wr : World) (l : List α) (k : Nat) : Prop where
  tab : Tab w wr T s l.length
  each : ∀ i, (h : i < l.length) → i < k → el (fun b => w.heap.size < b ∧ b < wr.heap.size) wr w.heap.size (i * s) l[i]

theorem Filling.next {α : Type} {s T : Nat} {el : (Nat → Prop) → World → Nat → Nat → α → Prop} {w wr W : World} {l : List α} {k : Nat} (st : Stable s el) (h : Filling s T el w wr l k) (hk : k < l.length) (ht : Tab w W T s l.length)
    (hsz : wr.heap.size ≤ W.heap.size) (hh : ∀ b, w.heap.size < b → b < wr.heap.size → W.heap[b]? = wr.heap[b]?) (hc : ∀ o, (o < k * s ∨ k * s + s ≤ o) → W.cell? ⟨w.heap.size, o, none⟩ = wr.cell? ⟨w.heap.size, o, none⟩)
    (he : el (fun b => w.heap.size < b ∧ b < W.heap.size) W w.heap.size (k * s) l[k]) : Filling s T el w W l (k + 1) := by
  refine ⟨ht, fun i hi hik => ?_⟩
  by_cases e : i = k
  · subst e; exact he
  · refine st _ _ _ _ _ _ _ (h.each i hi (by omega)) (fun j hj => hc _ (.inl ?_)) (fun b hb => ⟨⟨hb.1, Nat.lt_of_lt_of_le hb.2 hsz⟩, hh b hb.1 hb.2⟩)
    have : (i + 1) * s ≤ k * s := Nat.mul_le_mul_right s (by omega)
    rw [Nat.add_mul] at this
    omega

theorem Filling.done {α : Type} {s T : Nat} {el : (Nat → Prop) → World → Nat → Nat → α → Prop} {w wr : World} {l : List α} (st : Stable s el) (h : Filling s T el w wr l l.length) :
    IsSl (fun b => w.heap.size ≤ b ∧ b < wr.heap.size) s (el (fun b => w.heap.size ≤ b ∧ b < wr.heap.size) wr) (.slice (some ⟨w.heap.size, 0, none⟩) l.length l.length) l :=
  ⟨_, _, rfl, (fun h => by simp at h), fun _ => ⟨w.heap.size, 0, rfl, ⟨Nat.le_refl _, h.tab.lt⟩, fun j hj => by
    rw [Nat.zero_add]
    exact st _ _ _ _ _ _ _ (h.each j hj hj) (fun _ _ => rfl) (fun b hb => ⟨⟨by omega, hb.2⟩, rfl⟩)⟩⟩

end Go.Proofs.Qxb6603026a
