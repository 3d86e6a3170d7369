/-
  ZZNewChunk (13), zzB2EndAt (32), zzB2OldAt (38), zzB2MarkAt (39).
-/
import Derived.Test.Qxb6003464aPlain
import Derived.Test.Qxb6003464aProg
import Derived.WalkSpells
namespace Go.Proofs.Qxb6003464a
open Go.RowKit

theorem info68 : (Try.prog.info? 68).map (fun i => (i.zero, i.size, i.bytes)) = some (some (.agg #[.string ⟨#[]⟩, .string ⟨#[]⟩, .int .u64 0, .int .u64 0, .int .i64 0, .pointer none, .pointer none, .int .i8 0]), 8, 80) := by kernel_rfl

/-- What the i-th chunk gets. -/
def pick (n : Nat) (f : Nat → Int) (i : Nat) : Int := if i < n then f i else 0
def pickB (n : Nat) (f : Nat → Bool) (i : Nat) : Bool := if i < n then f i else false

theorem endAt_any (ao : Option Addr) (n c i : Nat) (f : Nat → Int) (w : World) (p : Nat → Prop) (hn : n ≤ 1048576) (hi : i ≤ 1048576) (h : SeqOn p w ao n (fun j => .int .i64 (f j))) :
    Calls Try.prog 32 #[.slice ao n c, .int .i64 i] w fun e w' => e = .returned (.int .i64 (pick n f i)) ∧ w' = w := by
  by_cases hlt : i < n
  · obtain ⟨b, off, rfl, -, hc⟩ := h (by omega)
    have hc1 := hc i hlt
    clear hc h
    have e : Hid (pick n f i = f i) := if_pos hlt
    go_enter Try.func32, Try.ntmps32
    go_wp2
    go_ret
    rw [unhide e]
    exact ⟨rfl, rfl⟩
  · clear h
    have e : Hid (pick n f i = 0) := if_neg hlt
    go_enter Try.func32, Try.ntmps32
    go_wp2
    go_ret
    rw [unhide e]
    exact ⟨rfl, rfl⟩

theorem oldAt_any (ao : Option Addr) (n c i : Nat) (f : Nat → Int) (w : World) (p : Nat → Prop) (hn : n ≤ 1048576) (hi : i ≤ 1048576) (h : SeqOn p w ao n (fun j => .int .i8 (f j))) :
    Calls Try.prog 38 #[.slice ao n c, .int .i64 i] w fun e w' => e = .returned (.int .i8 (pick n f i)) ∧ w' = w := by
  by_cases hlt : i < n
  · obtain ⟨b, off, rfl, -, hc⟩ := h (by omega)
    have hc1 := hc i hlt
    clear hc h
    have e : Hid (pick n f i = f i) := if_pos hlt
    go_enter Try.func38, Try.ntmps38
    go_wp2
    go_ret
    rw [unhide e]
    exact ⟨rfl, rfl⟩
  · clear h
    have e : Hid (pick n f i = 0) := if_neg hlt
    go_enter Try.func38, Try.ntmps38
    go_wp2
    go_ret
    rw [unhide e]
    exact ⟨rfl, rfl⟩

theorem markAt_any (ao : Option Addr) (n c i : Nat) (f : Nat → Bool) (w : World) (p : Nat → Prop) (hn : n ≤ 1048576) (hi : i ≤ 1048576) (h : SeqOn p w ao n (fun j => .bool (f j))) :
    Calls Try.prog 39 #[.slice ao n c, .int .i64 i] w fun e w' => e = .returned (.bool (pickB n f i)) ∧ w' = w := by
  by_cases hlt : i < n
  · obtain ⟨b, off, rfl, -, hc⟩ := h (by omega)
    have hc1 := hc i hlt
    clear hc h
    have e : Hid (pickB n f i = f i) := if_pos hlt
    go_enter Try.func39, Try.ntmps39
    go_wp2
    go_ret
    rw [unhide e]
    exact ⟨rfl, rfl⟩
  · clear h
    have e : Hid (pickB n f i = false) := if_neg hlt
    go_enter Try.func39, Try.ntmps39
    go_wp2
    go_ret
    rw [unhide e]
    exact ⟨rfl, rfl⟩

theorem size_set (w : World) (a : Addr) (u : Value) : (w.setCell a u).heap.size = w.heap.size := by simp [World.setCell]
theorem cell_set {w : World} (a b : Addr) (u : Value) (h : b.block ≠ a.block) : (w.setCell a u).cell? b = w.cell? b := World.cell?_of_block (Below.heap_setCell w a u b.block h)

/-- The result's own cell, as ZZNewChunk lays it first. -/
def Z28 : Obj := .cells #[.slice none 0 0, .int .i64 0, .int .i8 0, .bool false] 28

/-- The items filled so far. -/
structure Filled (w wr : World) (n : Nat) (G : Nat → Int) (k : Nat) : Prop where
  ex : ∃ xs : List Value, wr.ownsRow (w.heap.size + 1) 68 8 (.slice (some ⟨w.heap.size + 1, 0, none⟩) n n) n xs ∧ ∀ j, j < k → xs[j * 8 + 7]? = some (.int .i8 (G j))
  bel : Below (w.heap.size + 1) (w.alloc Z28) wr

theorem Filled.cell {w wr : World} {n : Nat} {G : Nat → Int} {k j : Nat} (h : Filled w wr n G k) (hj : j < n) : ∃ v, wr.cell? ⟨w.heap.size + 1, j * 8 + 7, none⟩ = some v := by
  obtain ⟨xs, ho, _⟩ := h.ex
  rw [ho.cellAt _ (by omega)]
  have := ho.1
  exact ⟨_, List.getElem?_eq_getElem (by omega)⟩
theorem Filled.frz {w wr : World} {n : Nat} {G : Nat → Int} {k : Nat} (h : Filled w wr n G k) (j : Nat) : wr.frozen? ⟨w.heap.size + 1, j, none⟩ = false := by
  obtain ⟨xs, ho, _⟩ := h.ex
  exact ho.frozenAt j
theorem Filled.next {w wr : World} {n : Nat} {G : Nat → Int} {k : Nat} (h : Filled w wr n G k) (hk : k < n) : Filled w (wr.setCell ⟨w.heap.size + 1, k * 8 + 7, none⟩ (.int .i8 (G k))) n G (k + 1) := by
  obtain ⟨xs, ho, hx⟩ := h.ex
  refine ⟨⟨_, (ho.stored _ _).1, fun j hj => ?_⟩, h.bel.setCell (Nat.le_refl _) _⟩
  have hl := ho.1
  rw [List.getElem?_set]
  by_cases e : j = k
  · subst e; simp; omega
  · rw [if_neg (by omega)]; exact hx j (by omega)
theorem Filled.done {w wr : World} {n : Nat} {G : Nat → Int} (h : Filled w wr n G n) : ∀ j, j < n → wr.cell? ⟨w.heap.size + 1, j * 8 + 7, none⟩ = some (.int .i8 (G j)) := fun j hj => by
  obtain ⟨xs, ho, hx⟩ := h.ex
  rw [ho.cellAt _ (by omega)]; exact hx j hj
theorem Filled.lt {w wr : World} {n : Nat} {G : Nat → Int} {k : Nat} (h : Filled w wr n G k) : w.heap.size + 1 < wr.heap.size := by
  obtain ⟨xs, ho, hx⟩ := h.ex
  exact (ho.lt _ rfl).2

set_option maxHeartbeats 1000000 in
theorem newChunk_any (ao : Option Addr) (n c : Nat) (G : Nat → Int) (en wd : Int) (sh : Bool) (w : World) (hn : n ≤ 1048576) (h : SeqOn (· < w.heap.size) w ao n (fun j => .int .i8 (G j))) :
    Calls Try.prog 13 #[.slice ao n c, .int .i64 en, .int .i8 wd, .bool sh] w fun e w' => e = .returned (.agg #[.slice (some ⟨w.heap.size + 1, 0, none⟩) n n, .int .i64 en, .int .i8 wd, .bool sh]) ∧
      Below w.heap.size w w' ∧ w.heap.size + 1 < w'.heap.size ∧ ∀ j, j < n → w'.cell? ⟨w.heap.size + 1, j * 8 + 7, none⟩ = some (.int .i8 (G j)) := by
  obtain ⟨i0, hi, hz0, hz1, hz2⟩ := info_parts info68
  go_enter Try.func13, Try.ntmps13
  go_wp2_with (at_make; go_must (refine wpList_make_full _ rfl _ _ 26 rfl (w.heap.size + 1) 68 i0 _ 8 Try.underlying26 hi hz0 hz1 .i64 .i64 (n : Int) (n : Int) n rfl rfl rfl rfl (by rw [hz2]; omega) (by unfold maxLen; omega) (by rw [World.size_alloc]; exact Nat.le_refl _) ?_))
  intro w1 hown hg
  have hF : Filled w w1 n G 0 := ⟨⟨_, by simpa using hown, fun j hj => by omega⟩, (Below.refl _ _).grown hg (by simp) (fun k h => by cases h)⟩
  clear hown hg
  go_wp2
  go_loopw [10] (fun i wr => ∃ k : Nat, k ≤ n ∧ i = .int .i64 k ∧ Filled w wr n G k) (fun i _ => n - (intOf i).toNat)
  case atStart => exact ⟨0, Nat.zero_le _, rfl, hF⟩
  case round =>
    clear hF
    obtain ⟨k, hk, rfl, hF⟩ := hrel
    by_cases hlt : k < n
    · obtain ⟨b, off, ha, hbl, hc⟩ := h (by omega)
      subst ha
      have hc1 : wr.cell? ⟨b, off + k, none⟩ = some (.int .i8 (G k)) := by
        rw [hF.bel.cell (p := ⟨b, off + k, none⟩) (by show b < _; omega), World.cell?_alloc_past _ _ _ hbl]
        exact hc k hlt
      obtain ⟨v, hc2⟩ := hF.cell hlt
      have hf2 := hF.frz (k * 8 + 7)
      have hN := hF.next hlt
      clear hF hc h
      go_wp2
      go_roundw
      case rel => exact ⟨k + 1, by omega, by go_num, hN⟩
      case measure => simp [intOf]; omega
    · have hkn : k = n := by omega
      subst hkn
      have hD := hide hF.done
      have hlt2 := hF.lt
      have c0 : wr.cell? ⟨w.heap.size, 0, none⟩ = some (.slice none 0 0) := by rw [hF.bel.cell (p := ⟨w.heap.size, 0, none⟩) (by simp)]; simp [Z28]
      have c1 : wr.cell? ⟨w.heap.size, 1, none⟩ = some (.int .i64 0) := by rw [hF.bel.cell (p := ⟨w.heap.size, 1, none⟩) (by simp)]; simp [Z28]
      have c2 : wr.cell? ⟨w.heap.size, 2, none⟩ = some (.int .i8 0) := by rw [hF.bel.cell (p := ⟨w.heap.size, 2, none⟩) (by simp)]; simp [Z28]
      have c3 : wr.cell? ⟨w.heap.size, 3, none⟩ = some (.bool false) := by rw [hF.bel.cell (p := ⟨w.heap.size, 3, none⟩) (by simp)]; simp [Z28]
      have f0 : ∀ o, wr.frozen? ⟨w.heap.size, o, none⟩ = false := fun o => by rw [hF.bel.frozen (p := ⟨w.heap.size, o, none⟩) (by simp)]; unfold World.frozen?; rw [heap_alloc_new]; simp [Z28]
      have hB : Below w.heap.size w wr := ((Below.refl _ _).alloc (Nat.le_refl _) Z28).trans (hF.bel.mono (by omega))
      clear hF h
      go_wp2
      refine bodyPost_ret (v := .agg #[.slice (some ⟨w.heap.size + 1, 0, none⟩) k k, .int .i64 en, .int .i8 wd, .bool sh]) (by simp [results, Try.results13, go_sem, c0, c1, c2, c3]) rfl ⟨rfl, ?_, ?_, fun j hj => ?_⟩
      · exact (((hB.setCell (Nat.le_refl _) _).setCell (Nat.le_refl _) _).setCell (Nat.le_refl _) _).setCell (Nat.le_refl _) _
      · simp only [size_set]; exact hlt2
      · rw [cell_set _ _ _ (by simp), cell_set _ _ _ (by simp), cell_set _ _ _ (by simp), cell_set _ _ _ (by simp)]
        exact unhide hD j hj
end Go.Proofs.Qxb6003464a
