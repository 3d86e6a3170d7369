/-
  zzDistinctTypes (20).
-/
import Derived.Test.Qxb6600910aMem
import Derived.Test.Qxb6600910aProg
namespace Go.Proofs.Qxb6600910a
open Go.RowKit

/-- The table of types seen, in block B. -/
structure Seen (B : Nat) (wr : World) (seen : Nat → Bool) : Prop where
  cell : ∀ c, c < 256 → wr.cell? ⟨B, c, none⟩ = some (.bool (seen c))
  frz : ∀ c, wr.frozen? ⟨B, c, none⟩ = false

theorem Seen.set {B : Nat} {wr : World} {seen : Nat → Bool} (h : Seen B wr seen) (x : Nat) (hx : x < 256) : Seen B (wr.setCell ⟨B, x, none⟩ (.bool true)) (fun c => if c = x then true else seen c) := by
  refine ⟨fun c hc => ?_, fun c => by rw [World.frozen?_setCell]; exact h.frz c⟩
  by_cases e : c = x
  · subst e; rw [cell_set_same _ (h.cell c hc)]; simp
  · rw [cell_set_off _ e, h.cell c hc]; simp [e]

/-- How zzDistinctTypes ends. -/
def Dist (w : World) (ts : List Trans) (e : Ending) (w' : World) : Prop := ∃ r : Bool, e = .returned (.bool r) ∧ Below w.heap.size w w' ∧ (r = true → (ts.map Trans.ty).Nodup)

def SeenIs (ts : List Trans) (k : Nat) (seen : Nat → Bool) : Prop := (∀ i, (h : i < ts.length) → i < k → seen ts[i].ty.toNat = true) ∧ ((ts.take k).map Trans.ty).Nodup ∧ ∀ c, seen c = true → ∃ i, ∃ h : i < ts.length, i < k ∧ ts[i].ty.toNat = c

theorem SeenIs.next {ts : List Trans} {k : Nat} {seen : Nat → Bool} (h : SeenIs ts k seen) (hk : k < ts.length) (hn : seen ts[k].ty.toNat = false) : SeenIs ts (k + 1) (fun c => if c = ts[k].ty.toNat then true else seen c) := by
  obtain ⟨h1, h2, h3⟩ := h
  refine ⟨fun i hi hik => ?_, ?_, fun c hc => ?_⟩
  · simp only
    by_cases e : i = k
    · subst e; simp
    · split
      · rfl
      · exact h1 i hi (by omega)
  · rw [List.take_succ_eq_append_getElem hk, List.map_append, List.nodup_append]
    refine ⟨h2, by simp, fun a ha b hb => ?_⟩
    simp at hb
    subst hb
    intro e
    subst e
    obtain ⟨t, ht, e⟩ := List.mem_map.1 ha
    obtain ⟨i, hi, rfl⟩ := List.getElem_of_mem ht
    simp only [List.length_take] at hi
    rw [List.getElem_take] at e
    have := h1 i (by omega) (by omega)
    rw [e] at this
    rw [this] at hn
    cases hn
  · simp only at hc
    split at hc
    · rename_i e; exact ⟨k, hk, by omega, e.symm⟩
    · obtain ⟨i, hi, h4, h5⟩ := h3 c hc
      exact ⟨i, hi, by omega, h5⟩

/-- The zero value of [256]bool. -/
def Z256 : Array Value := Array.replicate 256 (.bool false)
theorem zero67 (w : World) : (zeroValue 67).run Try.prog w = .ok (.agg Z256) w := by kernel_rfl
theorem Z256_at (c : Nat) (h : c < 256) : Z256[c]? = some (.bool false) := by simp [Z256, h]

set_option maxHeartbeats 4000000 in
set_option maxRecDepth 100000 in
theorem distinct_any (v : Value) (ts : List Trans) (w : World) (hl : ts.length ≤ 1048576) (h : IsTranses (· < w.heap.size) w v ts) : Calls Try.prog 20 #[v] w (Dist w ts) := by
  obtain ⟨ao, cap, rfl, hz, hs⟩ := h
  clear hz
  have z67 := zero67
  go_enter Try.func20, Try.ntmps20
  go_wp2
  have hS : Seen w.heap.size (w.alloc (.cells Z256 67)) (fun _ => false) := ⟨fun c hc => by simp [Z256_at c hc], fun c => by simp⟩
  have hB : Below w.heap.size w (w.alloc (.cells Z256 67)) := (Below.refl _ _).alloc (Nat.le_refl _) _
  go_loopw [4] (fun i wr => ∃ k seen, k ≤ ts.length ∧ i = .int .i64 (k : Nat) ∧ Seen w.heap.size wr seen ∧ Below w.heap.size w wr ∧ SeenIs ts k seen) (fun i _ => ts.length - (intOf i).toNat)
  case atStart => exact ⟨0, _, Nat.zero_le _, rfl, hS, hB, fun i _ h => by omega, by simp, fun c h => by cases h⟩
  case round =>
    clear hS hB z67
    obtain ⟨k, seen, hk, rfl, hS, hB, hI⟩ := hrel
    by_cases hlt : k < ts.length
    · obtain ⟨b, off, rfl, hbl, hel⟩ := hs (by omega)
      have hE : elTrans (· < w.heap.size) wr b (off + k * 3) ts[k] := (hel k hlt).move hbl (fun b hb => ⟨hb, hB.block b hb⟩)
      have t0 := hE.c0
      unfold bv at t0
      have hlt8 : ts[k].ty.toNat < 256 := ts[k].ty.toNat_lt
      have sc := hS.cell _ hlt8
      have sf := hS.frz ts[k].ty.toNat
      have hN := fun h => hide (hI.next hlt h)
      have HN := hide hN
      have hS2 := hide (hS.set _ hlt8)
      have hB2 := hide (hB.setCell (Nat.le_refl w.heap.size) (p := ⟨w.heap.size, ts[k].ty.toNat, none⟩) (.bool true))
      clear hel hE hN hS hI hs
      generalize ts[k] = tr at *
      have i1 : (tr.ty.toNat : Int) < 256 := by omega
      cases hsn : seen tr.ty.toNat
      · rw [hsn] at sc
        have HN2 := hide (unhide HN hsn)
        clear HN
        go_wp2
        go_roundw
        case rel => exact ⟨k + 1, _, by omega, by go_num, unhide hS2, unhide hB2, unhide HN2⟩
        case measure => simp [intOf]; omega
      · rw [hsn] at sc
        go_wp2
        go_ret
        exact ⟨false, rfl, hB, fun h => by cases h⟩
    · have hkn : k = ts.length := by omega
      subst hkn
      have hnd : (ts.map Trans.ty).Nodup := by
        have := hI.2.1
        rwa [List.take_of_length_le (Nat.le_refl _)] at this
      clear hs hS hI
      go_wp2
      go_ret
      exact ⟨true, rfl, hB, fun _ => hnd⟩
end Go.Proofs.Qxb6600910a
