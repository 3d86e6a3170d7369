/-
  A queue: a slice of ints AT AN OFFSET; append onto it, and its tail.
-/
import Derived.Test.Qxb6603026aArr
import Derived.Test.Qxb6603026aProg
import Derived.Test.Qxb6603026aClone
import Derived.Deep.AppendSrc
namespace Go.Proofs.Qxb6603026a
open Go.RowKit

structure Tail (w : World) (base b off len cap : Nat) (xs : List Nat) : Prop where
  len_eq : xs.length = len
  le : len ≤ cap
  cell : ∀ j, (h : j < xs.length) → w.cell? ⟨b, off + j, none⟩ = some (nv xs[j])
  room : ∀ j, j < cap → (w.cell? ⟨b, off + j, none⟩).isSome = true
  frz : ∀ o, w.frozen? ⟨b, o, none⟩ = false
  base : base ≤ b
  lt : b < w.heap.size

section
variable {w w' : World} {base b off len cap : Nat} {xs : List Nat}

theorem Tail.grown {row : Option Nat} (h : Tail w base b off len cap xs) (hg : w.grownBy w' row) (hr : row ≠ some b) : Tail w' base b off len cap xs := by
  have hk : w'.heap[b]? = w.heap[b]? := hg.block b h.lt (fun e => hr (by rw [e]))
  exact ⟨h.len_eq, h.le, fun j hj => by rw [cell_keep hk]; exact h.cell j hj, fun j hj => by rw [cell_keep hk]; exact h.room j hj, fun o => by rw [World.frozen?_of_block (a := ⟨b, o, none⟩) hk]; exact h.frz o, h.base, Nat.lt_of_lt_of_le h.lt hg.size⟩
theorem Tail.rest {x : Nat} (h : Tail w base b off (len + 1) (cap + 1) (x :: xs)) : Tail w base b (off + 1) len cap xs :=
  ⟨by have := h.len_eq; simpa using this, by have := h.le; omega, fun j hj => by
    have := h.cell (j + 1) (by simp; omega)
    rw [show off + 1 + j = off + (j + 1) by omega, this]; simp, fun j hj => by
    have := h.room (j + 1) (by omega)
    rw [show off + 1 + j = off + (j + 1) by omega]; exact this, h.frz, h.base, h.lt⟩

theorem Tail.append (h : Tail w base b off len cap xs) (u g : Nat) (ty : TypeId) (hg : w.cell? ⟨g, 0, none⟩ = some (nv u)) (hl : len + 1 ≤ 1099511627776) (hb : base ≤ w.heap.size) :
    ∃ b' off' cap' w', (Builtin.append_ #[26, 26] ty #[.slice (some ⟨b, off, none⟩) len cap, .slice (some ⟨g, 0, none⟩) 1 1]).run Try.prog w = .ok (.slice (some ⟨b', off', none⟩) (len + 1) cap') w' ∧ Tail w' base b' off' (len + 1) cap' (xs ++ [u]) ∧ w.grownBy w' (some b) := by
  obtain ⟨i0, hi, hz0, hz1, hz2⟩ := info_parts info3
  have hnews : ∀ (j : Nat) (x : Value), [nv u][j]? = some x → w.cell? ((⟨g, 0, none⟩ : Addr).add j) = some x := by
    intro j x hj
    cases j with
    | zero => simp at hj; subst hj; rw [show (⟨g, 0, none⟩ : Addr).add 0 = ⟨g, 0, none⟩ by unfold Addr.add; split <;> simp_all]; exact hg
    | succ j => simp at hj
  have hsrc : Src Try.prog i0.size 26 (.slice (some ⟨g, 0, none⟩) 1 1) 1 [nv u] w := Src.ofSlice w Try.underlying26 _ 1 1 [nv u] (by rw [hz1]; rfl) hnews (fun x hx => by simp at hx; subst hx; rfl)
  have hxl := h.len_eq
  by_cases hr : len + 1 ≤ cap
  · have hrun := run_append_room_src (P := Try.prog) w 26 26 ty 3 i0 Try.underlying26 hi b off len cap _ 1 [nv u] hsrc hr (fun j hj => by
      simp at hj; subst hj
      rw [hz1, Nat.mul_one]; exact h.room len (by omega)) (fun j hj => by rw [hz1]; exact h.frz _)
    rw [hz1, Nat.mul_one] at hrun
    refine ⟨b, off, cap, w.setCell ⟨b, off + len, none⟩ (nv u), hrun, ⟨by simp [hxl], hr, fun j hj => ?_, fun j hj => ?_, fun o => by rw [World.frozen?_setCell]; exact h.frz o, h.base, by rw [size_set]; exact h.lt⟩, ⟨rfl, rfl, rfl, by rw [size_set]; exact Nat.le_refl _, fun k _ hk => heap_set _ (fun e => hk (by rw [e]))⟩⟩
    · rw [List.length_append, List.length_singleton] at hj
      by_cases e : j = len
      · subst e
        obtain ⟨v, hv⟩ := Option.isSome_iff_exists.1 (h.room j (by omega))
        rw [cell_set_same _ hv]
        simp [← hxl]
      · rw [cell_set_off _ (by omega), h.cell j (by omega), List.getElem_append_left (by omega)]
    · by_cases e : j = len
      · subst e
        obtain ⟨v, hv⟩ := Option.isSome_iff_exists.1 (h.room j (by omega))
        rw [cell_set_same _ hv]; rfl
      · rw [cell_set_off _ (by omega)]; exact h.room j hj
  · have hle := h.le
    have hold : (Builtin.firstCells i0.size len (.slice (some ⟨b, off, none⟩) len cap)).run Try.prog w.drew = .ok (xs.map nv).toArray w.drew :=
      run_firstCells_some w.drew i0.size len ⟨b, off, none⟩ len cap (xs.map nv) (by rw [hz1]; simp [hxl]) (fun j x hj => by
        rw [List.getElem?_map] at hj
        obtain ⟨y, hy, rfl⟩ := Option.map_eq_some_iff.1 hj
        obtain ⟨hj2, rfl⟩ := List.getElem?_eq_some_iff.1 hy
        rw [show (⟨b, off, none⟩ : Addr).add j = ⟨b, off + j, none⟩ by unfold Addr.add; split <;> simp_all]
        exact h.cell j hj2)
    have hrun := run_append_grow_src (P := Try.prog) w 26 26 ty 3 i0 (.int .i64 0) Try.underlying26 hi hz0 (some ⟨b, off, none⟩) len cap (xs.map nv) hold _ 1 [nv u] hsrc (by omega) (by omega) (growslice_fits (by omega) (by rw [hz2]; omega))
    have hge := grownCap_ge w (len + 1) cap 3
    have hcz : (Value.cells (.int .i64 0)).size = 1 := rfl
    have hsz : (((xs.map nv ++ [nv u]).toArray ++ Builtin.zeroCells (Value.cells (.int .i64 0)) (grownCap w (len + 1) cap 3 - (len + 1)))).size = grownCap w (len + 1) cap 3 := by
      simp only [Array.size_append, List.size_toArray, size_zeroCells, hcz, List.length_append, List.length_map, hxl, List.length_singleton]
      omega
    have hget : ∀ j, j < len + 1 → (((xs.map nv ++ [nv u]).toArray ++ Builtin.zeroCells (Value.cells (.int .i64 0)) (grownCap w (len + 1) cap 3 - (len + 1))))[j]? = ((xs ++ [u]).map nv)[j]? := fun j hj => by
      rw [Array.getElem?_append_left (by simp; omega), List.getElem?_toArray, List.map_append]; rfl
    generalize (((xs.map nv ++ [nv u]).toArray ++ Builtin.zeroCells (Value.cells (.int .i64 0)) (grownCap w (len + 1) cap 3 - (len + 1)))) = cs at hrun hsz hget
    have hb' : (w.drew.alloc (.cells cs 3)).heap[w.heap.size]? = some (.cells cs 3 (0, 0)) := heap_alloc_new w.drew (.cells cs 3)
    have hcell : ∀ j, (w.drew.alloc (.cells cs 3)).cell? ⟨w.heap.size, 0 + j, none⟩ = cs[j]? := fun j => by
      rw [Nat.zero_add]
      simp only [World.cell?, hb']
      rfl
    refine ⟨w.heap.size, 0, _, _, hrun, ⟨by simp [hxl], hge, fun j hj => ?_, fun j hj => ?_, fun o => ?_, hb, ?_⟩, ⟨rfl, rfl, rfl, by simp, fun k hk _ => Below.heap_alloc w.drew _ k hk⟩⟩
    · rw [hcell j, hget j (by simp at hj; omega), List.getElem?_map, List.getElem?_eq_getElem hj]
      rfl
    · rw [hcell j, Array.getElem?_eq_getElem (by rw [hsz]; exact hj)]; rfl
    · simp only [World.frozen?, hb']
      simp
    · simp
end
end Go.Proofs.Qxb6603026a
