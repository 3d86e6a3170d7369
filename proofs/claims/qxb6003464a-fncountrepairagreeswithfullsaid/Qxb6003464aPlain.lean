/-
  PLAIN FACTS for seat b6003464a: slices told by their cells; rows that are being filled.
-/
import Derived.WalkKit
import Derived.Deep.Draws
namespace Go.Proofs.Qxb6003464a
open Go.RowKit

theorem hide {p : Prop} (h : p) : Hid p := h
theorem unhide {p : Prop} (h : Hid p) : p := h

/-- A slice of one-cell elements: if it has an element, it leads to a row in a block of which p holds, whose cells hold f. -/
def SeqOn (p : Nat → Prop) (w : World) (ao : Option Addr) (n : Nat) (f : Nat → Value) : Prop :=
  0 < n → ∃ b off, ao = some ⟨b, off, none⟩ ∧ p b ∧ ∀ j, j < n → w.cell? ⟨b, off + j, none⟩ = some (f j)

section
variable {p p' : Nat → Prop} {w w' : World} {ao : Option Addr} {n : Nat} {f : Nat → Value}

theorem SeqOn.keep (h : SeqOn p w ao n f) (hk : ∀ b, p b → w'.heap[b]? = w.heap[b]?) : SeqOn p w' ao n f := fun hn => by
  obtain ⟨b, off, e, hp, hc⟩ := h hn
  exact ⟨b, off, e, hp, fun j hj => (World.cell?_of_block (a := ⟨b, off + j, none⟩) (hk b hp)).trans (hc j hj)⟩

theorem SeqOn.mono (h : SeqOn p w ao n f) (hp : ∀ b, p b → p' b) : SeqOn p' w ao n f := fun hn => by
  obtain ⟨b, off, e, h1, hc⟩ := h hn
  exact ⟨b, off, e, hp b h1, hc⟩

theorem SeqOn.below {B : Nat} (h : SeqOn p w ao n f) (hb : Below B w w') (hp : ∀ b, p b → b < B) : SeqOn p w' ao n f :=
  h.keep fun b h1 => hb.block b (hp b h1)
end

/-- A row that is being filled: the first k cells hold f, the others z. -/
def fillTo (f : Nat → Value) (z : Value) (n k : Nat) : List Value := (List.range n).map fun j => if j < k then f j else z

theorem fillTo_zero (f : Nat → Value) (z : Value) (n : Nat) : fillTo f z n 0 = List.replicate n z := by
  apply List.ext_getElem
  · simp [fillTo]
  · intro i h1 h2
    simp [fillTo]

theorem fillTo_set (f : Nat → Value) (z : Value) (n k : Nat) : (fillTo f z n k).set k (f k) = fillTo f z n (k + 1) := by
  apply List.ext_getElem
  · simp [fillTo]
  · intro i h1 h2
    simp only [fillTo, List.getElem_set, List.getElem_map, List.getElem_range]
    by_cases h : k = i
    · subst h; simp
    · rw [if_neg h]
      by_cases h3 : i < k
      · rw [if_pos h3, if_pos (by omega)]
      · rw [if_neg h3, if_neg (by omega)]

theorem fillTo_at (f : Nat → Value) (z : Value) (n k j : Nat) (hj : j < n) (hk : j < k) : (fillTo f z n k)[j]? = some (f j) := by
  simp [fillTo, hj, hk]

theorem fillTo_any (f : Nat → Value) (z : Value) (n k j : Nat) (hj : j < n) : (fillTo f z n k)[j]? = some (if j < k then f j else z) := by
  simp [fillTo, hj]

theorem fillTo_congr {f g : Nat → Value} (z : Value) (n k : Nat) (h : ∀ j, j < k → f j = g j) : fillTo f z n k = fillTo g z n k := by
  unfold fillTo
  apply List.map_congr_left
  intro j _
  by_cases hj : j < k
  · rw [if_pos hj, if_pos hj, h j hj]
  · rw [if_neg hj, if_neg hj]

/-- A slice of slices of int8 that came in, or was copied. -/
def RowsOn (p : Nat → Prop) (w : World) (ao : Option Addr) (n : Nat) (L : Nat → Nat) (G : Nat → Nat → Int) : Prop :=
  ∃ (A : Nat → Option Addr) (C : Nat → Nat), SeqOn p w ao n (fun r => .slice (A r) (L r) (C r)) ∧ ∀ r, r < n → (A r = none → L r = 0) ∧ SeqOn p w (A r) (L r) (fun i => .int .i8 (G r i))

theorem RowsOn.keep {p : Nat → Prop} {w w' : World} {ao : Option Addr} {n : Nat} {L : Nat → Nat} {G : Nat → Nat → Int} (h : RowsOn p w ao n L G) (hk : ∀ b, p b → w'.heap[b]? = w.heap[b]?) : RowsOn p w' ao n L G := by
  obtain ⟨A, C, h1, h2⟩ := h
  exact ⟨A, C, h1.keep hk, fun r hr => ⟨(h2 r hr).1, (h2 r hr).2.keep hk⟩⟩

theorem RowsOn.below {p : Nat → Prop} {w w' : World} {ao : Option Addr} {n : Nat} {L : Nat → Nat} {G : Nat → Nat → Int} {B : Nat} (h : RowsOn p w ao n L G) (hb : Below B w w') (hp : ∀ b, p b → b < B) : RowsOn p w' ao n L G :=
  h.keep fun b h1 => hb.block b (hp b h1)

theorem RowsOn.mono {p p' : Nat → Prop} {w : World} {ao : Option Addr} {n : Nat} {L : Nat → Nat} {G : Nat → Nat → Int} (h : RowsOn p w ao n L G) (hp : ∀ b, p b → p' b) : RowsOn p' w ao n L G := by
  obtain ⟨A, C, h1, h2⟩ := h
  exact ⟨A, C, h1.mono hp, fun r hr => ⟨(h2 r hr).1, (h2 r hr).2.mono hp⟩⟩

end Go.Proofs.Qxb6003464a
