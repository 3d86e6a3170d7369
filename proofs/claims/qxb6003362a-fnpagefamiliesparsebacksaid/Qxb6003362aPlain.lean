/-
  PLAIN FACTS for seat b6003362a: bytes in memory, told as lists; slices that came in.
-/
import Derived.WalkKit
import Derived.Deep.Draws
namespace Go.Proofs.Qxb6003362a
open Go.RowKit

theorem hide {p : Prop} (h : p) : Hid p := h
theorem unhide {p : Prop} (h : Hid p) : p := h

/-- A byte as a cell. -/
def bv (c : UInt8) : Value := .int .u8 (c.toNat : Int)

/-- The cells from ⟨g, pos⟩ on hold the bytes l. -/
def Seg (w : World) (g pos : Nat) (l : List UInt8) : Prop := ∀ j, (h : j < l.length) → w.cell? ⟨g, pos + j, none⟩ = some (bv l[j])

theorem Seg.append {w : World} {g pos : Nat} {a b : List UInt8} : Seg w g pos (a ++ b) ↔ Seg w g pos a ∧ Seg w g (pos + a.length) b := by
  constructor
  · intro h
    refine ⟨fun j hj => ?_, fun j hj => ?_⟩
    · have := h j (by simp; omega)
      rwa [List.getElem_append_left hj] at this
    · have := h (a.length + j) (by simp; omega)
      rw [List.getElem_append_right (by omega)] at this
      simp only [Nat.add_sub_cancel_left] at this
      rwa [← Nat.add_assoc] at this
  · rintro ⟨h1, h2⟩ j hj
    by_cases hja : j < a.length
    · rw [List.getElem_append_left hja]; exact h1 j hja
    · rw [List.getElem_append_right (by omega)]
      have := h2 (j - a.length) (by simp at hj; omega)
      rwa [show pos + a.length + (j - a.length) = pos + j by omega] at this

theorem Seg.drewN {w : World} {g pos n : Nat} {l : List UInt8} (h : Seg w g pos l) : Seg (w.drewN n) g pos l := fun j hj => by
  have := h j hj
  simpa using this

theorem Seg.below {B : Nat} {w w' : World} {g pos : Nat} {l : List UInt8} (h : Seg w g pos l) (hb : Below B w w') (hg : g < B) : Seg w' g pos l := fun j hj =>
  (hb.cell (p := ⟨g, pos + j, none⟩) hg).trans (h j hj)

/-- A slice of one-cell elements: if it has an element, it leads to a row below block B whose cells hold f. -/
def SeqAt (B : Nat) (w : World) (ao : Option Addr) (n : Nat) (f : Nat → Value) : Prop :=
  0 < n → ∃ b off, ao = some ⟨b, off, none⟩ ∧ b < B ∧ ∀ j, j < n → w.cell? ⟨b, off + j, none⟩ = some (f j)

theorem SeqAt.below {B B' : Nat} {w w' : World} {ao : Option Addr} {n : Nat} {f : Nat → Value} (h : SeqAt B w ao n f) (hb : Below B' w w') (hB : B ≤ B') : SeqAt B w' ao n f := fun hn => by
  obtain ⟨b, off, e, hlt, hc⟩ := h hn
  exact ⟨b, off, e, hlt, fun j hj => (hb.cell (p := ⟨b, off + j, none⟩) (by exact Nat.lt_of_lt_of_le hlt hB)).trans (hc j hj)⟩

theorem SeqAt.mono {B B' : Nat} {w : World} {ao : Option Addr} {n : Nat} {f : Nat → Value} (h : SeqAt B w ao n f) (hB : B ≤ B') : SeqAt B' w ao n f := fun hn => by
  obtain ⟨b, off, e, hlt, hc⟩ := h hn
  exact ⟨b, off, e, by omega, hc⟩

/-- A row that is being filled: the first k cells hold f, the others z. -/
def fillTo (f : Nat → Value) (z : Value) (n k : Nat) : List Value := (List.range n).map fun j => if j < k then f j else z

theorem fillTo_zero (f : Nat → Value) (z : Value) (n : Nat) : fillTo f z n 0 = List.replicate n z := by
  apply List.ext_getElem
  · simp [fillTo]
  · intro i h1 h2
    simp [fillTo]

theorem fillTo_length (f : Nat → Value) (z : Value) (n k : Nat) : (fillTo f z n k).length = n := by simp [fillTo]

theorem fillTo_set (f : Nat → Value) (z : Value) (n k : Nat) : (fillTo f z n k).set k (f k) = fillTo f z n (k + 1) := by
  apply List.ext_getElem
  · simp [fillTo]
  · intro i h1 h2
    simp only [fillTo, List.getElem_set, List.getElem_map, List.getElem_range]
    by_cases h : k = i
    · subst h; simp
    · rw [if_neg h]
      by_cases h3 : i < k
      · rw [if_pos h3, if_pos (by omega)]
      · rw [if_neg h3, if_neg (by omega)]

theorem fillTo_at (f : Nat → Value) (z : Value) (n k j : Nat) (hj : j < n) (hk : j < k) : (fillTo f z n k)[j]? = some (f j) := by
  simp [fillTo, hj, hk]

/-- One byte of a help text, as it is escaped. -/
def esc1 (c : UInt8) : List UInt8 := if c = 92 then [92, 92] else if c = 10 then [92, 110] else [c]
def esc (l : List UInt8) : List UInt8 := l.flatMap esc1

theorem esc_append (a b : List UInt8) : esc (a ++ b) = esc a ++ esc b := by simp [esc]
theorem esc_take (l : List UInt8) (k : Nat) (h : k < l.length) : esc (l.take (k + 1)) = esc (l.take k) ++ esc1 l[k] := by
  rw [List.take_succ_eq_append_getElem h, esc_append]; simp [esc]
theorem esc1_len (c : UInt8) : (esc1 c).length ≤ 2 := by unfold esc1; split <;> (try split) <;> simp
theorem esc_len (l : List UInt8) : (esc l).length ≤ 2 * l.length := by
  induction l with
  | nil => simp [esc]
  | cons c l ih =>
    have := esc1_len c
    have e : esc (c :: l) = esc1 c ++ esc l := by simp [esc]
    rw [e]; simp; omega
theorem esc_no10 (l : List UInt8) : ∀ c ∈ esc l, c ≠ 10 := by
  intro c hc
  simp only [esc, List.mem_flatMap] at hc
  obtain ⟨d, _, hd⟩ := hc
  unfold esc1 at hd
  split at hd
  · simp at hd; subst hd; decide
  · split at hd
    · simp at hd; rcases hd with rfl | rfl <;> decide
    · simp at hd; subst hd; assumption

/-- The bytes that an append has laid behind the others. -/
theorem own_next {w : World} {base : Nat} {v : Value} {A N : List UInt8} {m : Nat} {ns : List Value} (h : w.ownsRow base 5 1 v (A.length + m) (A.map bv ++ ns)) (hm : m = N.length) (hn : ns = N.map bv) : w.ownsRow base 5 1 v (A ++ N).length ((A ++ N).map bv) := by
  subst hm; subst hn
  simpa using h

end Go.Proofs.Qxb6003362a
