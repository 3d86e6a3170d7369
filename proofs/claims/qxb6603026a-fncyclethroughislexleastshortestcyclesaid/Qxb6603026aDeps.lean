/-
  cloneDeps (12).
-/
import Derived.Test.Qxb6603026aClone
import Derived.Test.Qxb6603026aFill
namespace Go.Proofs.Qxb6603026a
open Go.RowKit

theorem info26 : (Try.prog.info? 26).map (fun i => (i.zero, i.size, i.bytes)) = some (some (.slice none 0 0), 1, 24) := by kernel_rfl

/-- How cloneDeps ends. -/
def ClonedD (w : World) (l : List (List Int)) (e : Ending) (w' : World) : Prop :=
  ∃ ao c, e = .returned (.slice ao l.length c) ∧ IsRows (fun b => w.heap.size ≤ b ∧ b < w'.heap.size) w' (.slice ao l.length c) l ∧ Below w.heap.size w w'

theorem row_put {w wr w5 : World} {k : Nat} {D : List (List Int)} {v : Value} (h : Filling 1 26 elRow w wr D k) (hk : k < D.length) (hb : Below wr.heap.size wr w5) (hv : IsInts (fun b => wr.heap.size ≤ b ∧ b < w5.heap.size) w5 v D[k]) : Filling 1 26 elRow w (w5.setCell ⟨w.heap.size, k, none⟩ v) D (k + 1) := by
  have hlt := h.tab.lt
  have ht5 := h.tab.later hb
  obtain ⟨x, hx⟩ := ht5.cell k (by omega)
  have hs := hb.size
  refine h.next stableR hk (ht5.set _ _) (by rw [size_set]; exact hs) (fun b h1 h2 => ?_) (fun o ho => ?_) ⟨v, ?_, ?_⟩
  · rw [heap_set _ (by omega), hb.block b h2]
  · rw [cell_set_off _ (by omega), hb.cell (p := ⟨w.heap.size, o, none⟩) hlt]
  · rw [Nat.mul_one]; exact cell_set_same _ hx
  · exact hv.move fun b hb' => ⟨⟨by omega, by rw [size_set]; exact hb'.2⟩, heap_set _ (by omega)⟩

set_option maxHeartbeats 4000000 in
set_option maxRecDepth 100000 in
theorem cloneDeps_any (v : Value) (D : List (List Int)) (w : World) (hl : D.length ≤ 1048576) (hT : ∀ r ∈ D, r.length ≤ 1048576) (h : IsRows (· < w.heap.size) w v D) : Calls Try.prog 12 #[v] w (ClonedD w D) := by
  have q0 : ∀ (w : World) (a : Option Addr) (n c n' c' : Nat), (binOp .eql 22 (.slice a n c) (.slice none n' c')).run Try.prog w = .ok (.bool a.isNone) w := fun w a n c n' c' => Lib.run_eql_slice_nil w _ _ a n c n' c' Try.underlying22
  obtain ⟨ao, cap, rfl, hz, hs⟩ := h
  cases ao with
  | none =>
    have := hz rfl
    subst this
    clear hs hT
    go_enter Try.func12, Try.ntmps12
    go_wp2
    go_ret
    exact ⟨none, 0, rfl, ⟨none, 0, rfl, fun _ => rfl, fun h => by simp at h⟩, Below.refl _ _⟩
  | some a =>
  have HT := hide hT
  clear hT hz
  obtain ⟨i0, hi, hz0, hz1, hz2⟩ := info_parts info26
  go_enter Try.func12, Try.ntmps12
  go_wp2_with (at_make; go_must (refine wpList_make_full _ rfl _ _ 22 rfl w.heap.size 26 i0 _ 1 Try.underlying22 hi hz0 hz1 .i64 .i64 (D.length : Int) (D.length : Int) D.length rfl rfl rfl rfl (by rw [hz2]; omega) (by unfold maxLen; omega) (Nat.le_refl _) ?_))
  intro w1 hown hg
  have hO : Filling 1 26 elRow w w1 D 0 := ⟨⟨⟨_, hown⟩, (Below.refl _ _).grown hg (Nat.le_refl _) (fun k h => by cases h)⟩, fun i _ h => by omega⟩
  clear hown hg hi hz0 hz1 hz2 q0
  go_wp2
  go_loopw [4] (fun i wr => ∃ k : Nat, k ≤ D.length ∧ i = .int .i64 k ∧ Filling 1 26 elRow w wr D k) (fun i _ => D.length - (intOf i).toNat)
  case atStart => exact ⟨0, Nat.zero_le _, rfl, hO⟩
  case round =>
    clear hO
    obtain ⟨k, hk, rfl, hO⟩ := hrel
    by_cases hlt : k < D.length
    · obtain ⟨b, off, ha, hbl, hel⟩ := hs (by omega)
      simp only [Option.some.injEq] at ha
      subst ha
      have hE : elRow (· < w.heap.size) wr b (off + k * 1) D[k] := (hel k hlt).move hbl (fun b hb => ⟨hb, hO.tab.bel.block b hb⟩)
      have hTr := unhide HT _ (List.getElem_mem hlt)
      have HP : Hid (∀ w5 v5, Below wr.heap.size wr w5 → IsInts (fun b => wr.heap.size ≤ b ∧ b < w5.heap.size) w5 v5 D[k] → Filling 1 26 elRow w (w5.setCell ⟨w.heap.size, k, none⟩ v5) D (k + 1)) := fun w5 v5 hb hv => row_put hO hlt hb hv
      have hOb := hO.tab.lt
      obtain ⟨x0, y0⟩ := hO.tab.cell k (by omega)
      have f0 := hO.tab.frz k
      obtain ⟨va, t0, hA⟩ := hE.c0
      rw [Nat.mul_one] at t0
      have HC := hide (cloneInts_any va D[k] wr hTr (hA.move fun b hb => ⟨by omega, rfl⟩))
      obtain ⟨aov, capv, rfl, -, -⟩ := hA
      clear hel hE hO hs
      generalize D[k] = t at *
      go_wp2_with fail
      refine (unhide HC).mono ?_
      rintro e w5 ⟨ao5, c5, rfl, hv5, hb5⟩
      have y5 : w5.cell? ⟨w.heap.size, k, none⟩ = some x0 := (hb5.cell (p := ⟨w.heap.size, k, none⟩) hOb).trans y0
      have f5 : w5.frozen? ⟨w.heap.size, k, none⟩ = false := (hb5.frozen (p := ⟨w.heap.size, k, none⟩) hOb).trans f0
      have HN := hide (unhide HP w5 _ hb5 hv5)
      clear HC HP hv5 hb5 y0 f0 t0
      go_wp2
      go_roundw
      case rel => exact ⟨k + 1, by omega, by go_num, unhide HN⟩
      case measure => simp [intOf]; omega
    · have hkn : k = D.length := by omega
      subst hkn
      have H1 := hide (hO.done stableR)
      have H2 := hide hO.tab.bel
      clear hO hs
      go_wp2
      go_ret
      exact ⟨_, _, rfl, H1, H2⟩
end Go.Proofs.Qxb6603026a
