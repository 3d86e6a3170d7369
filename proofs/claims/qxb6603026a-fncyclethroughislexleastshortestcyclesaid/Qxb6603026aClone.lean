/-
  cloneInts (20).
-/
import Derived.Test.Qxb6603026aMem
import Derived.Test.Qxb6603026aProg
import Derived.Lib.SliceRun
import Derived.WalkSpells
namespace Go.Proofs.Qxb6603026a
open Go.RowKit

theorem info3 : (Try.prog.info? 3).map (fun i => (i.zero, i.size, i.bytes)) = some (some (.int .i64 0), 1, 8) := by kernel_rfl

/-- How cloneInts ends. -/
def Cloned (w : World) (l : List Int) (e : Ending) (w' : World) : Prop :=
  ∃ ao c, e = .returned (.slice ao l.length c) ∧ IsInts (fun b => w.heap.size ≤ b ∧ b < w'.heap.size) w' (.slice ao l.length c) l ∧ Below w.heap.size w w'

set_option maxHeartbeats 400000 in
theorem cloneInts_any (v : Value) (l : List Int) (w : World) (hl : l.length ≤ 1048576) (h : IsInts (· < w.heap.size) w v l) : Calls Try.prog 20 #[v] w (Cloned w l) := by
  have q0 : ∀ (w : World) (a : Option Addr) (n c n' c' : Nat), (binOp .eql 26 (.slice a n c) (.slice none n' c')).run Try.prog w = .ok (.bool a.isNone) w := fun w a n c n' c' => Lib.run_eql_slice_nil w _ _ a n c n' c' Try.underlying26
  obtain ⟨ao, cap, rfl, hz, hs⟩ := h
  cases ao with
  | none =>
    have := hz rfl
    subst this
    go_enter Try.func20, Try.ntmps20
    go_wp2
    go_ret
    exact ⟨none, 0, rfl, ⟨none, 0, rfl, fun _ => rfl, fun h => by simp at h⟩, Below.refl _ _⟩
  | some a =>
  obtain ⟨i0, hi, hz0, hz1, hz2⟩ := info_parts info3
  go_enter Try.func20, Try.ntmps20
  go_wp2_with (at_make; go_must (refine wpList_make_full _ rfl _ _ 26 rfl w.heap.size 3 i0 (.int .i64 0) 1 Try.underlying26 hi hz0 hz1 .i64 .i64 (l.length : Int) (l.length : Int) l.length rfl rfl rfl rfl (by rw [hz2]; omega) (by unfold maxLen; omega) (Nat.le_refl _) ?_))
  intro w1 hown hg
  have hb1 : Below w.heap.size w w1 := (Below.refl _ _).grown hg (Nat.le_refl _) (fun k h => by cases h)
  have hown1 : w1.ownsRow w.heap.size 3 1 (.slice (some ⟨w.heap.size, 0, none⟩) l.length l.length) l.length (fillTo (fun j => Value.int .i64 (l.getD j 0)) (.int .i64 0) l.length 0) := by
    rw [fillTo_zero]; simpa [Value.cells, toList_madeCells_one] using hown
  clear hown hg q0 hz
  go_wp2
  go_loopw [4] (fun i wr => ∃ k : Nat, k ≤ l.length ∧ i = .int .i64 k ∧ wr.ownsRow w.heap.size 3 1 (.slice (some ⟨w.heap.size, 0, none⟩) l.length l.length) l.length (fillTo (fun j => Value.int .i64 (l.getD j 0)) (.int .i64 0) l.length k) ∧ Below w.heap.size w wr)
    (fun i _ => l.length - (intOf i).toNat)
  case atStart => exact ⟨0, Nat.zero_le _, rfl, hown1, hb1⟩
  case round =>
    clear hown1 hb1
    obtain ⟨k, hk, rfl, hown, hb⟩ := hrel
    have hsz := (hown.lt w.heap.size rfl).2
    by_cases hlt : k < l.length
    · obtain ⟨b, off, ha, hbl, hc⟩ := hs (by omega)
      simp only [Option.some.injEq] at ha
      subst ha
      have hc1 : wr.cell? ⟨b, off + k, none⟩ = some (.int .i64 l[k]) := by
        have := hc k hlt
        rw [Nat.mul_one] at this
        exact (hb.cell (p := ⟨b, off + k, none⟩) hbl).trans this
      have hc2 : wr.cell? ⟨w.heap.size, k, none⟩ = some (.int .i64 0) := by
        rw [hown.cellAt k (by omega), fillTo_any _ _ _ _ _ hlt, if_neg (by omega)]
      have hf2 : wr.frozen? ⟨w.heap.size, k, none⟩ = false := hown.frozenAt k
      have hst1 : (wr.setCell ⟨w.heap.size, k, none⟩ (.int .i64 l[k])).ownsRow w.heap.size 3 1 (.slice (some ⟨w.heap.size, 0, none⟩) l.length l.length) l.length (fillTo (fun j => Value.int .i64 (l.getD j 0)) (.int .i64 0) l.length (k + 1)) := by
        have := (hown.stored k ((fun j => Value.int .i64 (l.getD j 0)) k)).1
        rw [fillTo_set] at this
        have e : (fun j => Value.int .i64 (l.getD j 0)) k = .int .i64 l[k] := by simp [hlt]
        rw [e] at this
        exact this
      have H1 := hide hst1
      have H2 := hide (hb.setCell (Nat.le_refl w.heap.size) (p := ⟨w.heap.size, k, none⟩) (.int .i64 l[k]))
      generalize l[k] = x at *
      clear hst1 hc hs hown
      go_wp2
      go_roundw
      case rel => exact ⟨k + 1, by omega, by go_num, H1, H2⟩
      case measure => simp [intOf]; omega
    · have hkn : k = l.length := by omega
      subst hkn
      have hfin : IsInts (fun b => w.heap.size ≤ b ∧ b < wr.heap.size) wr (.slice (some ⟨w.heap.size, 0, none⟩) l.length l.length) l :=
        ⟨_, _, rfl, (fun h => by simp at h), fun _ => ⟨w.heap.size, 0, rfl, ⟨Nat.le_refl _, hsz⟩, fun j hj => by
          unfold elInt
          rw [Nat.zero_add, Nat.mul_one, hown.cellAt j (by omega), fillTo_at _ _ _ _ _ hj hj]
          simp [hj]⟩⟩
      have H1 := hide hfin
      clear hfin hown hs
      go_wp2
      go_ret
      exact ⟨_, _, rfl, H1, hb⟩
end Go.Proofs.Qxb6603026a
