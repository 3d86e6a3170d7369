/-
  HOW ROWS OF INTS AND ROWS OF ROWS LIE IN MEMORY.
-/
import Derived.WalkKit
import Derived.Deep.Draws
namespace Go.Proofs.Qxb6603026a
open Go.RowKit

theorem hide {p : Prop} (h : p) : Hid p := h
theorem unhide {p : Prop} (h : Hid p) : p := h

/-- A slice value of elements of 'size' cells, each told by el; its array lies in a block of which p holds. -/
def IsSl {α : Type} (p : Nat → Prop) (size : Nat) (el : Nat → Nat → α → Prop) (v : Value) (l : List α) : Prop :=
  ∃ ao cap, v = .slice ao l.length cap ∧ (ao = none → l = []) ∧ (0 < l.length → ∃ b off, ao = some ⟨b, off, none⟩ ∧ p b ∧ ∀ j, (h : j < l.length) → el b (off + j * size) l[j])

theorem IsSl.move {α : Type} {p p' : Nat → Prop} {size : Nat} {el el' : Nat → Nat → α → Prop} {v : Value} {l : List α} (h : IsSl p size el v l) (hp : ∀ b, p b → p' b) (he : ∀ b o a, p b → a ∈ l → el b o a → el' b o a) : IsSl p' size el' v l := by
  obtain ⟨ao, cap, e, hz, hs⟩ := h
  refine ⟨ao, cap, e, hz, fun hn => ?_⟩
  obtain ⟨b, off, e1, h1, h2⟩ := hs hn
  exact ⟨b, off, e1, hp b h1, fun j hj => he _ _ _ h1 (List.getElem_mem hj) (h2 j hj)⟩

def elInt (w : World) (b o : Nat) (c : Int) : Prop := w.cell? ⟨b, o, none⟩ = some (.int .i64 c)
def IsInts (p : Nat → Prop) (w : World) (v : Value) (l : List Int) : Prop := IsSl p 1 (elInt w) v l

section
variable {p p' : Nat → Prop} {w w' : World} {v : Value}

theorem cell_keep {b o : Nat} (hk : w'.heap[b]? = w.heap[b]?) : w'.cell? ⟨b, o, none⟩ = w.cell? ⟨b, o, none⟩ := World.cell?_of_block (a := ⟨b, o, none⟩) hk

theorem IsInts.move {l : List Int} (h : IsInts p w v l) (hk : ∀ b, p b → p' b ∧ w'.heap[b]? = w.heap[b]?) : IsInts p' w' v l :=
  IsSl.move h (fun b hb => (hk b hb).1) fun b _ _ hb _ he => (cell_keep (hk b hb).2).trans he
/-- A row of rows. -/
structure elRow (p : Nat → Prop) (w : World) (b o : Nat) (l : List Int) : Prop where
  c0 : ∃ v, w.cell? ⟨b, o, none⟩ = some v ∧ IsInts p w v l
def IsRows (p : Nat → Prop) (w : World) (v : Value) (l : List (List Int)) : Prop := IsSl p 1 (elRow p w) v l
theorem elRow.move {b o : Nat} {a : List Int} (h : elRow p w b o a) (hb : p b) (hk : ∀ b, p b → p' b ∧ w'.heap[b]? = w.heap[b]?) : elRow p' w' b o a := by
  obtain ⟨v, e, hv⟩ := h.c0
  exact ⟨v, (cell_keep (hk b hb).2).trans e, hv.move hk⟩
theorem IsRows.move {l : List (List Int)} (h : IsRows p w v l) (hk : ∀ b, p b → p' b ∧ w'.heap[b]? = w.heap[b]?) : IsRows p' w' v l :=
  IsSl.move h (fun b hb => (hk b hb).1) fun _ _ _ hb _ he => he.move hb hk

/-- Below a world's size all is kept. -/
theorem keep_below {B : Nat} (hb : Below B w w') (hB : B ≤ w.heap.size) : ∀ b, b < B → b < w'.heap.size ∧ w'.heap[b]? = w.heap[b]? :=
  fun b h => ⟨Nat.lt_of_lt_of_le h (Nat.le_trans hB hb.size), hb.block b h⟩
end

/-- It answers a bool; the world is as it was; where it answers true, p holds. -/
def AnsB (w : World) (p : Prop) (e : Ending) (w' : World) : Prop := ∃ r : Bool, e = .returned (.bool r) ∧ w' = w ∧ (r = true → p)
theorem AnsB.no {w : World} {p : Prop} : AnsB w p (.returned (.bool false)) w := ⟨false, rfl, rfl, fun h => by cases h⟩
theorem AnsB.yes {w : World} {p : Prop} (h : p) : AnsB w p (.returned (.bool true)) w := ⟨true, rfl, rfl, fun _ => h⟩
/-- It answers an int between 0 and the limit + 1; the world is as it was. -/
def AnsI (w : World) (e : Ending) (w' : World) : Prop := ∃ t : Int, e = .returned (.int .i64 t) ∧ w' = w ∧ 0 ≤ t ∧ t ≤ 1048577
theorem AnsI.mk {w : World} (t : Int) (h0 : 0 ≤ t) (h1 : t ≤ 1048577) : AnsI w (.returned (.int .i64 t)) w := ⟨t, rfl, rfl, h0, h1⟩

theorem size_set (w : World) (a : Addr) (u : Value) : (w.setCell a u).heap.size = w.heap.size := by simp [World.setCell]
theorem cell_set {w : World} (a b : Addr) (u : Value) (h : b.block ≠ a.block) : (w.setCell a u).cell? b = w.cell? b := World.cell?_of_block (Below.heap_setCell w a u b.block h)
theorem cell_set_same {w : World} {Cb o : Nat} {v : Value} (u : Value) (h : w.cell? ⟨Cb, o, none⟩ = some v) : (w.setCell ⟨Cb, o, none⟩ u).cell? ⟨Cb, o, none⟩ = some u := World.cell?_setCell_same _ _ _ h
theorem cell_set_off {w : World} {Cb o o' : Nat} (u : Value) (h : o' ≠ o) : (w.setCell ⟨Cb, o, none⟩ u).cell? ⟨Cb, o', none⟩ = w.cell? ⟨Cb, o', none⟩ :=
  World.cell?_setCell_other _ _ _ _ (fun e => h (congrArg Addr.off e).symm)
theorem heap_set {w : World} {b o k : Nat} (u : Value) (h : k ≠ b) : (w.setCell ⟨b, o, none⟩ u).heap[k]? = w.heap[k]? := Below.heap_setCell _ _ _ _ h

theorem own_below {wr w1 : World} {base B : Nat} {e : TypeId} {size m cap g : Nat} {xs : List Value} (h : wr.ownsRow base e size (.slice (some ⟨g, 0, none⟩) m cap) m xs) (hb : Below B wr w1) (hg : g < B) : w1.ownsRow base e size (.slice (some ⟨g, 0, none⟩) m cap) m xs := by
  refine ⟨h.1, ?_⟩
  rcases h.2 with hn | ⟨g', cap', cur, hv, hb', hgg, rest⟩
  · exact .inl hn
  · refine .inr ⟨g', cap', cur, hv, hb', ?_, rest⟩
    simp at hv
    obtain ⟨rfl, _⟩ := hv
    rw [hb.block _ hg]; exact hgg

/-- A row that is being filled: the first k cells hold f, the others z. -/
def fillTo (f : Nat → Value) (z : Value) (n k : Nat) : List Value := (List.range n).map fun j => if j < k then f j else z
theorem fillTo_zero (f : Nat → Value) (z : Value) (n : Nat) : fillTo f z n 0 = List.replicate n z := by
  apply List.ext_getElem
  · simp [fillTo]
  · intro i h1 h2
    simp [fillTo]
theorem fillTo_set (f : Nat → Value) (z : Value) (n k : Nat) : (fillTo f z n k).set k (f k) = fillTo f z n (k + 1) := by
  apply List.ext_getElem
  · simp [fillTo]
  · intro i h1 h2
    simp only [fillTo, List.getElem_set, List.getElem_map, List.getElem_range]
    by_cases h : k = i
    · subst h; simp
    · rw [if_neg h]
      by_cases h3 : i < k
      · rw [if_pos h3, if_pos (by omega)]
      · rw [if_neg h3, if_neg (by omega)]
theorem fillTo_at (f : Nat → Value) (z : Value) (n k j : Nat) (hj : j < n) (hk : j < k) : (fillTo f z n k)[j]? = some (f j) := by
  simp [fillTo, hj, hk]
theorem fillTo_any (f : Nat → Value) (z : Value) (n k j : Nat) (hj : j < n) : (fillTo f z n k)[j]? = some (if j < k then f j else z) := by
  simp [fillTo, hj]

end Go.Proofs.Qxb6603026a
