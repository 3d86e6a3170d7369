/-
  Arrays that are written: one block, each cell told by a function; rows of naturals.
-/
import Derived.Test.Qxb6603026aMem
import Derived.Test.Qxb6603026aEdges
namespace Go.Proofs.Qxb6603026a
open Go.RowKit

def nv (x : Nat) : Value := .int .i64 (x : Int)

structure Arr (w : World) (b n : Nat) (f : Nat → Value) : Prop where
  cell : ∀ o, o < n → w.cell? ⟨b, o, none⟩ = some (f o)
  frz : ∀ o, w.frozen? ⟨b, o, none⟩ = false
  lt : b < w.heap.size

section
variable {w w' : World} {b n : Nat} {f g : Nat → Value}
theorem Arr.congr (h : Arr w b n f) (he : ∀ o, o < n → f o = g o) : Arr w b n g := ⟨fun o ho => by rw [h.cell o ho, he o ho], h.frz, h.lt⟩
theorem Arr.set (h : Arr w b n f) (o : Nat) (ho : o < n) (u : Value) : Arr (w.setCell ⟨b, o, none⟩ u) b n (fun i => if i = o then u else f i) := by
  refine ⟨fun i hi => ?_, fun i => by rw [World.frozen?_setCell]; exact h.frz i, by rw [size_set]; exact h.lt⟩
  by_cases e : i = o
  · subst e; rw [if_pos rfl]; exact cell_set_same _ (h.cell i hi)
  · rw [if_neg e, cell_set_off _ e]; exact h.cell i hi
theorem Arr.other (h : Arr w b n f) {b' o : Nat} (hb : b ≠ b') (u : Value) : Arr (w.setCell ⟨b', o, none⟩ u) b n f :=
  ⟨fun i hi => by rw [cell_set _ _ _ hb]; exact h.cell i hi, fun i => by rw [World.frozen?_setCell]; exact h.frz i, by rw [size_set]; exact h.lt⟩
theorem Arr.later {B : Nat} (h : Arr w b n f) (hb : Below B w w') (hB : b < B) : Arr w' b n f :=
  ⟨fun i hi => by rw [hb.cell (p := ⟨b, i, none⟩) hB]; exact h.cell i hi, fun i => by rw [hb.frozen (p := ⟨b, i, none⟩) hB]; exact h.frz i, Nat.lt_of_lt_of_le h.lt hb.size⟩
theorem Arr.drewN (h : Arr w b n f) (q : Nat) : Arr (w.drewN q) b n f := ⟨h.cell, h.frz, h.lt⟩
theorem Arr.grown {row : Option Nat} (h : Arr w b n f) (hg : w.grownBy w' row) (hr : row ≠ some b) : Arr w' b n f := by
  have hk : w'.heap[b]? = w.heap[b]? := hg.block b h.lt (fun e => hr (by rw [e]))
  exact ⟨fun i hi => by rw [cell_keep hk]; exact h.cell i hi, fun i => by rw [World.frozen?_of_block (a := ⟨b, i, none⟩) hk]; exact h.frz i, Nat.lt_of_lt_of_le h.lt hg.size⟩
theorem Arr.made {B : Nat} {T : TypeId} {z : Value} {c : Nat} (h : w.ownsRow B T 1 (.slice (some ⟨b, 0, none⟩) n c) n (List.replicate n z)) : Arr w b n (fun _ => z) :=
  ⟨fun o ho => by rw [h.cellAt o (by omega)]; simp [ho], fun o => h.frozenAt o, (h.lt b rfl).2⟩
end

def elNat (w : World) (b o : Nat) (x : Nat) : Prop := w.cell? ⟨b, o, none⟩ = some (nv x)
def IsNats (p : Nat → Prop) (w : World) (v : Value) (l : List Nat) : Prop := IsSl p 1 (elNat w) v l
structure elRowN (p : Nat → Prop) (w : World) (b o : Nat) (l : List Nat) : Prop where
  c0 : ∃ v, w.cell? ⟨b, o, none⟩ = some v ∧ IsNats p w v l
def IsRowsN (p : Nat → Prop) (w : World) (v : Value) (l : List (List Nat)) : Prop := IsSl p 1 (elRowN p w) v l

section
variable {p p' : Nat → Prop} {w w' : World} {v : Value}
theorem IsNats.move {l : List Nat} (h : IsNats p w v l) (hk : ∀ b, p b → p' b ∧ w'.heap[b]? = w.heap[b]?) : IsNats p' w' v l :=
  IsSl.move h (fun b hb => (hk b hb).1) fun b _ _ hb _ he => (cell_keep (hk b hb).2).trans he
theorem elRowN.move {b o : Nat} {a : List Nat} (h : elRowN p w b o a) (hb : p b) (hk : ∀ b, p b → p' b ∧ w'.heap[b]? = w.heap[b]?) : elRowN p' w' b o a := by
  obtain ⟨v, e, hv⟩ := h.c0
  exact ⟨v, (cell_keep (hk b hb).2).trans e, hv.move hk⟩
theorem IsRowsN.move {l : List (List Nat)} (h : IsRowsN p w v l) (hk : ∀ b, p b → p' b ∧ w'.heap[b]? = w.heap[b]?) : IsRowsN p' w' v l :=
  IsSl.move h (fun b hb => (hk b hb).1) fun _ _ _ hb _ he => he.move hb hk

theorem IsSl.map {α β : Type} {s : Nat} {el : Nat → Nat → α → Prop} {el' : Nat → Nat → β → Prop} {l : List α} (g : α → β) (h : IsSl p s el v l) (he : ∀ b o a, a ∈ l → el b o a → el' b o (g a)) : IsSl p s el' v (l.map g) := by
  obtain ⟨ao, cap, e, hz, hs⟩ := h
  refine ⟨ao, cap, by rw [e]; simp, fun h => by rw [hz h]; rfl, fun hn => ?_⟩
  rw [List.length_map] at hn
  obtain ⟨b, off, e1, h1, h2⟩ := hs hn
  refine ⟨b, off, e1, h1, fun j hj => ?_⟩
  rw [List.length_map] at hj
  rw [List.getElem_map]
  exact he _ _ _ (List.getElem_mem hj) (h2 j hj)

theorem IsNats.ints {l : List Nat} (h : IsNats p w v l) : IsInts p w v (l.map Int.ofNat) := IsSl.map _ h fun _ _ _ _ he => he
theorem IsInts.nats {l : List Int} (h : IsInts p w v l) (h0 : ∀ x ∈ l, 0 ≤ x) : IsNats p w v (l.map Int.toNat) := IsSl.map _ h fun b o a ha he => by
  unfold elInt at he
  unfold elNat nv
  rw [he, Int.toNat_of_nonneg (h0 a ha)]
theorem IsRows.nats {D : List (List Int)} (h : IsRows p w v D) (h0 : ∀ r ∈ D, ∀ x ∈ r, 0 ≤ x) : IsRowsN p w v (D.map (List.map Int.toNat)) := IsSl.map _ h fun b o a ha he => by
  obtain ⟨v, e, hv⟩ := he.c0
  exact ⟨v, e, hv.nats (h0 a ha)⟩
end
theorem flat_len : ∀ (R : List (List Nat)), (∀ r ∈ R, r.length ≤ 1048576) → R.flatten.length ≤ R.length * 1048576
  | [], _ => by simp
  | r :: R, h => by
    have h1 := h r (by simp)
    have h2 := flat_len R (fun x hx => h x (by simp [hx]))
    rw [List.flatten_cons, List.length_append, List.length_cons]
    omega
end Go.Proofs.Qxb6603026a
