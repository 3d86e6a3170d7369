/-
  zzB2CloneRow (12), zzB2CloneInts (24), zzB2CloneBools (35).
-/
import Derived.Test.Qxb6003464aPlain
import Derived.Test.Qxb6003464aProg
import Derived.Lib.SliceRun
import Derived.WalkSpells
namespace Go.Proofs.Qxb6003464a
open Go.RowKit

theorem info23 : (Try.prog.info? 23).map (fun i => (i.zero, i.size, i.bytes)) = some (some (.int .i8 0), 1, 1) := by kernel_rfl
theorem info3 : (Try.prog.info? 3).map (fun i => (i.zero, i.size, i.bytes)) = some (some (.int .i64 0), 1, 8) := by kernel_rfl
theorem info4 : (Try.prog.info? 4).map (fun i => (i.zero, i.size, i.bytes)) = some (some (.bool false), 1, 1) := by kernel_rfl

set_option maxHeartbeats 400000 in
theorem cloneRow_some (a : Addr) (n c : Nat) (f : Nat → Int) (w : World) (hn : n ≤ 1048576) (h : SeqOn (· < w.heap.size) w (some a) n (fun j => Value.int .i8 (f j))) :
    Calls Try.prog 12 #[.slice (some a) n c] w fun e w' => e = .returned (.slice (some ⟨w.heap.size, 0, none⟩) n n) ∧ Below w.heap.size w w' ∧ w.heap.size < w'.heap.size ∧
      ∀ j, j < n → w'.cell? ⟨w.heap.size, j, none⟩ = some (Value.int .i8 (f j)) := by
  have q0 : ∀ (w : World) (a : Option Addr) (n c n' c' : Nat), (binOp .eql 22 (.slice a n c) (.slice none n' c')).run Try.prog w = .ok (.bool a.isNone) w := fun w a n c n' c' => Lib.run_eql_slice_nil w _ _ a n c n' c' Try.underlying22
  obtain ⟨i0, hi, hz0, hz1, hz2⟩ := info_parts info23
  go_enter Try.func12, Try.ntmps12
  go_wp2_with (at_make; refine wpList_make_full _ rfl _ _ 22 rfl w.heap.size 23 i0 (Value.int .i8 0) 1 Try.underlying22 hi hz0 hz1 .i64 .i64 (n : Int) (n : Int) n rfl rfl rfl rfl (by rw [hz2]; omega) (by unfold maxLen; omega) (Nat.le_refl _) ?_)
  intro w1 hown hg
  have hb1 : Below w.heap.size w w1 := (Below.refl _ _).grown hg (Nat.le_refl _) (fun k h => by cases h)
  have hown1 : w1.ownsRow w.heap.size 23 1 (.slice (some ⟨w.heap.size, 0, none⟩) n n) n (fillTo (fun j => Value.int .i8 (f j)) (Value.int .i8 0) n 0) := by
    rw [fillTo_zero]; simpa [Value.cells, toList_madeCells_one] using hown
  have hsz : w.heap.size < w1.heap.size := by
    obtain ⟨_, h2⟩ := hown1.lt w.heap.size rfl
    exact h2
  clear hown hg q0
  go_wp2
  go_loopw [4] (fun i wr => ∃ k : Nat, k ≤ n ∧ i = .int .i64 k ∧ wr.ownsRow w.heap.size 23 1 (.slice (some ⟨w.heap.size, 0, none⟩) n n) n (fillTo (fun j => Value.int .i8 (f j)) (Value.int .i8 0) n k) ∧ Below w.heap.size w wr ∧ w.heap.size < wr.heap.size)
    (fun i _ => n - (intOf i).toNat)
  case atStart => exact ⟨0, Nat.zero_le _, rfl, hown1, hb1, hsz⟩
  case round =>
    clear hown1 hb1 hsz
    obtain ⟨k, hk, rfl, hown, hb, hsz⟩ := hrel
    by_cases hlt : k < n
    · obtain ⟨b, off, ha, hbl, hc⟩ := h (by omega)
      simp only [Option.some.injEq] at ha
      subst ha
      have hc1 : wr.cell? ⟨b, off + k, none⟩ = some (Value.int .i8 (f k)) := (hb.cell (p := ⟨b, off + k, none⟩) hbl).trans (hc k hlt)
      have hc2 : wr.cell? ⟨w.heap.size, k, none⟩ = some (Value.int .i8 0) := by
        rw [hown.cellAt k (by omega)]; simp [fillTo, hlt]
      have hf2 : wr.frozen? ⟨w.heap.size, k, none⟩ = false := hown.frozenAt k
      have hst := hown.stored k (Value.int .i8 (f k))
      rw [fillTo_set] at hst
      obtain ⟨hst1, hst2⟩ := hst
      have hb' : Below w.heap.size w (wr.setCell ⟨w.heap.size, k, none⟩ (Value.int .i8 (f k))) := hb.setCell (Nat.le_refl _) _
      have hsz' : w.heap.size < (wr.setCell ⟨w.heap.size, k, none⟩ (Value.int .i8 (f k))).heap.size := Nat.lt_of_lt_of_le hsz hst2.size
      have H1 : Hid _ := hst1
      have H2 : Hid _ := hb'
      have H3 : Hid _ := hsz'
      clear hst1 hst2 hb' hsz' hc h hown
      go_wp2
      go_roundw
      case rel => exact ⟨k + 1, by omega, by go_num, H1, H2, H3⟩
      case measure => simp [intOf]; omega
    · have hkn : k = n := by omega
      subst hkn
      have hfin : ∀ j, j < k → wr.cell? ⟨w.heap.size, j, none⟩ = some (Value.int .i8 (f j)) := fun j hj => by
        rw [hown.cellAt j (by omega), fillTo_at _ _ _ _ _ hj hj]
      have H1 : Hid _ := hfin
      clear hfin hown
      go_wp2
      go_ret
      exact ⟨rfl, hb, hsz, H1⟩

theorem cloneRow_none (n c : Nat) (w : World) : Calls Try.prog 12 #[.slice none n c] w fun e w' => e = .returned (.slice none 0 0) ∧ w' = w := by
  have q0 : ∀ (w : World) (a : Option Addr) (n c n' c' : Nat), (binOp .eql 22 (.slice a n c) (.slice none n' c')).run Try.prog w = .ok (.bool a.isNone) w := fun w a n c n' c' => Lib.run_eql_slice_nil w _ _ a n c n' c' Try.underlying22
  go_enter Try.func12, Try.ntmps12
  go_wp2
  go_ret
  exact ⟨rfl, rfl⟩

/-- The copy, nil or not. -/
theorem cloneRow_any (ao : Option Addr) (n c : Nat) (f : Nat → Int) (w : World) (hn : n ≤ 1048576) (hnil : ao = none → n = 0) (h : SeqOn (· < w.heap.size) w ao n (fun j => Value.int .i8 (f j))) :
    Calls Try.prog 12 #[.slice ao n c] w fun e w' => ∃ ao' c', e = .returned (.slice ao' n c') ∧ Below w.heap.size w w' ∧ (ao' = none → n = 0) ∧ SeqOn (fun b => w.heap.size ≤ b ∧ b < w'.heap.size) w' ao' n (fun j => Value.int .i8 (f j)) := by
  cases ao with
  | none =>
    obtain rfl := hnil rfl
    refine (cloneRow_none 0 c w).mono ?_
    rintro e w' ⟨rfl, rfl⟩
    exact ⟨none, 0, rfl, Below.refl _ _, fun _ => rfl, fun h => absurd h (by omega)⟩
  | some a =>
    refine (cloneRow_some a n c f w hn h).mono ?_
    rintro e w' ⟨rfl, h1, h2, h3⟩
    exact ⟨_, _, rfl, h1, fun h => by simp at h, fun _ => ⟨w.heap.size, 0, rfl, ⟨Nat.le_refl _, h2⟩, fun j hj => by rw [Nat.zero_add]; exact h3 j hj⟩⟩

set_option maxHeartbeats 400000 in
theorem cloneInts_some (a : Addr) (n c : Nat) (f : Nat → Int) (w : World) (hn : n ≤ 1048576) (h : SeqOn (· < w.heap.size) w (some a) n (fun j => Value.int .i64 (f j))) :
    Calls Try.prog 24 #[.slice (some a) n c] w fun e w' => e = .returned (.slice (some ⟨w.heap.size, 0, none⟩) n n) ∧ Below w.heap.size w w' ∧ w.heap.size < w'.heap.size ∧
      ∀ j, j < n → w'.cell? ⟨w.heap.size, j, none⟩ = some (Value.int .i64 (f j)) := by
  have q0 : ∀ (w : World) (a : Option Addr) (n c n' c' : Nat), (binOp .eql 39 (.slice a n c) (.slice none n' c')).run Try.prog w = .ok (.bool a.isNone) w := fun w a n c n' c' => Lib.run_eql_slice_nil w _ _ a n c n' c' Try.underlying39
  obtain ⟨i0, hi, hz0, hz1, hz2⟩ := info_parts info3
  go_enter Try.func24, Try.ntmps24
  go_wp2_with (at_make; refine wpList_make_full _ rfl _ _ 39 rfl w.heap.size 3 i0 (Value.int .i64 0) 1 Try.underlying39 hi hz0 hz1 .i64 .i64 (n : Int) (n : Int) n rfl rfl rfl rfl (by rw [hz2]; omega) (by unfold maxLen; omega) (Nat.le_refl _) ?_)
  intro w1 hown hg
  have hb1 : Below w.heap.size w w1 := (Below.refl _ _).grown hg (Nat.le_refl _) (fun k h => by cases h)
  have hown1 : w1.ownsRow w.heap.size 3 1 (.slice (some ⟨w.heap.size, 0, none⟩) n n) n (fillTo (fun j => Value.int .i64 (f j)) (Value.int .i64 0) n 0) := by
    rw [fillTo_zero]; simpa [Value.cells, toList_madeCells_one] using hown
  have hsz : w.heap.size < w1.heap.size := by
    obtain ⟨_, h2⟩ := hown1.lt w.heap.size rfl
    exact h2
  clear hown hg q0
  go_wp2
  go_loopw [4] (fun i wr => ∃ k : Nat, k ≤ n ∧ i = .int .i64 k ∧ wr.ownsRow w.heap.size 3 1 (.slice (some ⟨w.heap.size, 0, none⟩) n n) n (fillTo (fun j => Value.int .i64 (f j)) (Value.int .i64 0) n k) ∧ Below w.heap.size w wr ∧ w.heap.size < wr.heap.size)
    (fun i _ => n - (intOf i).toNat)
  case atStart => exact ⟨0, Nat.zero_le _, rfl, hown1, hb1, hsz⟩
  case round =>
    clear hown1 hb1 hsz
    obtain ⟨k, hk, rfl, hown, hb, hsz⟩ := hrel
    by_cases hlt : k < n
    · obtain ⟨b, off, ha, hbl, hc⟩ := h (by omega)
      simp only [Option.some.injEq] at ha
      subst ha
      have hc1 : wr.cell? ⟨b, off + k, none⟩ = some (Value.int .i64 (f k)) := (hb.cell (p := ⟨b, off + k, none⟩) hbl).trans (hc k hlt)
      have hc2 : wr.cell? ⟨w.heap.size, k, none⟩ = some (Value.int .i64 0) := by
        rw [hown.cellAt k (by omega)]; simp [fillTo, hlt]
      have hf2 : wr.frozen? ⟨w.heap.size, k, none⟩ = false := hown.frozenAt k
      have hst := hown.stored k (Value.int .i64 (f k))
      rw [fillTo_set] at hst
      obtain ⟨hst1, hst2⟩ := hst
      have hb' : Below w.heap.size w (wr.setCell ⟨w.heap.size, k, none⟩ (Value.int .i64 (f k))) := hb.setCell (Nat.le_refl _) _
      have hsz' : w.heap.size < (wr.setCell ⟨w.heap.size, k, none⟩ (Value.int .i64 (f k))).heap.size := Nat.lt_of_lt_of_le hsz hst2.size
      have H1 : Hid _ := hst1
      have H2 : Hid _ := hb'
      have H3 : Hid _ := hsz'
      clear hst1 hst2 hb' hsz' hc h hown
      go_wp2
      go_roundw
      case rel => exact ⟨k + 1, by omega, by go_num, H1, H2, H3⟩
      case measure => simp [intOf]; omega
    · have hkn : k = n := by omega
      subst hkn
      have hfin : ∀ j, j < k → wr.cell? ⟨w.heap.size, j, none⟩ = some (Value.int .i64 (f j)) := fun j hj => by
        rw [hown.cellAt j (by omega), fillTo_at _ _ _ _ _ hj hj]
      have H1 : Hid _ := hfin
      clear hfin hown
      go_wp2
      go_ret
      exact ⟨rfl, hb, hsz, H1⟩

theorem cloneInts_none (n c : Nat) (w : World) : Calls Try.prog 24 #[.slice none n c] w fun e w' => e = .returned (.slice none 0 0) ∧ w' = w := by
  have q0 : ∀ (w : World) (a : Option Addr) (n c n' c' : Nat), (binOp .eql 39 (.slice a n c) (.slice none n' c')).run Try.prog w = .ok (.bool a.isNone) w := fun w a n c n' c' => Lib.run_eql_slice_nil w _ _ a n c n' c' Try.underlying39
  go_enter Try.func24, Try.ntmps24
  go_wp2
  go_ret
  exact ⟨rfl, rfl⟩

/-- The copy, nil or not. -/
theorem cloneInts_any (ao : Option Addr) (n c : Nat) (f : Nat → Int) (w : World) (hn : n ≤ 1048576) (hnil : ao = none → n = 0) (h : SeqOn (· < w.heap.size) w ao n (fun j => Value.int .i64 (f j))) :
    Calls Try.prog 24 #[.slice ao n c] w fun e w' => ∃ ao' c', e = .returned (.slice ao' n c') ∧ Below w.heap.size w w' ∧ (ao' = none → n = 0) ∧ SeqOn (fun b => w.heap.size ≤ b ∧ b < w'.heap.size) w' ao' n (fun j => Value.int .i64 (f j)) := by
  cases ao with
  | none =>
    obtain rfl := hnil rfl
    refine (cloneInts_none 0 c w).mono ?_
    rintro e w' ⟨rfl, rfl⟩
    exact ⟨none, 0, rfl, Below.refl _ _, fun _ => rfl, fun h => absurd h (by omega)⟩
  | some a =>
    refine (cloneInts_some a n c f w hn h).mono ?_
    rintro e w' ⟨rfl, h1, h2, h3⟩
    exact ⟨_, _, rfl, h1, fun h => by simp at h, fun _ => ⟨w.heap.size, 0, rfl, ⟨Nat.le_refl _, h2⟩, fun j hj => by rw [Nat.zero_add]; exact h3 j hj⟩⟩

set_option maxHeartbeats 400000 in
theorem cloneBools_some (a : Addr) (n c : Nat) (f : Nat → Bool) (w : World) (hn : n ≤ 1048576) (h : SeqOn (· < w.heap.size) w (some a) n (fun j => Value.bool (f j))) :
    Calls Try.prog 35 #[.slice (some a) n c] w fun e w' => e = .returned (.slice (some ⟨w.heap.size, 0, none⟩) n n) ∧ Below w.heap.size w w' ∧ w.heap.size < w'.heap.size ∧
      ∀ j, j < n → w'.cell? ⟨w.heap.size, j, none⟩ = some (Value.bool (f j)) := by
  have q0 : ∀ (w : World) (a : Option Addr) (n c n' c' : Nat), (binOp .eql 54 (.slice a n c) (.slice none n' c')).run Try.prog w = .ok (.bool a.isNone) w := fun w a n c n' c' => Lib.run_eql_slice_nil w _ _ a n c n' c' Try.underlying54
  obtain ⟨i0, hi, hz0, hz1, hz2⟩ := info_parts info4
  go_enter Try.func35, Try.ntmps35
  go_wp2_with (at_make; refine wpList_make_full _ rfl _ _ 54 rfl w.heap.size 4 i0 (Value.bool false) 1 Try.underlying54 hi hz0 hz1 .i64 .i64 (n : Int) (n : Int) n rfl rfl rfl rfl (by rw [hz2]; omega) (by unfold maxLen; omega) (Nat.le_refl _) ?_)
  intro w1 hown hg
  have hb1 : Below w.heap.size w w1 := (Below.refl _ _).grown hg (Nat.le_refl _) (fun k h => by cases h)
  have hown1 : w1.ownsRow w.heap.size 4 1 (.slice (some ⟨w.heap.size, 0, none⟩) n n) n (fillTo (fun j => Value.bool (f j)) (Value.bool false) n 0) := by
    rw [fillTo_zero]; simpa [Value.cells, toList_madeCells_one] using hown
  have hsz : w.heap.size < w1.heap.size := by
    obtain ⟨_, h2⟩ := hown1.lt w.heap.size rfl
    exact h2
  clear hown hg q0
  go_wp2
  go_loopw [4] (fun i wr => ∃ k : Nat, k ≤ n ∧ i = .int .i64 k ∧ wr.ownsRow w.heap.size 4 1 (.slice (some ⟨w.heap.size, 0, none⟩) n n) n (fillTo (fun j => Value.bool (f j)) (Value.bool false) n k) ∧ Below w.heap.size w wr ∧ w.heap.size < wr.heap.size)
    (fun i _ => n - (intOf i).toNat)
  case atStart => exact ⟨0, Nat.zero_le _, rfl, hown1, hb1, hsz⟩
  case round =>
    clear hown1 hb1 hsz
    obtain ⟨k, hk, rfl, hown, hb, hsz⟩ := hrel
    by_cases hlt : k < n
    · obtain ⟨b, off, ha, hbl, hc⟩ := h (by omega)
      simp only [Option.some.injEq] at ha
      subst ha
      have hc1 : wr.cell? ⟨b, off + k, none⟩ = some (Value.bool (f k)) := (hb.cell (p := ⟨b, off + k, none⟩) hbl).trans (hc k hlt)
      have hc2 : wr.cell? ⟨w.heap.size, k, none⟩ = some (Value.bool false) := by
        rw [hown.cellAt k (by omega)]; simp [fillTo, hlt]
      have hf2 : wr.frozen? ⟨w.heap.size, k, none⟩ = false := hown.frozenAt k
      have hst := hown.stored k (Value.bool (f k))
      rw [fillTo_set] at hst
      obtain ⟨hst1, hst2⟩ := hst
      have hb' : Below w.heap.size w (wr.setCell ⟨w.heap.size, k, none⟩ (Value.bool (f k))) := hb.setCell (Nat.le_refl _) _
      have hsz' : w.heap.size < (wr.setCell ⟨w.heap.size, k, none⟩ (Value.bool (f k))).heap.size := Nat.lt_of_lt_of_le hsz hst2.size
      have H1 : Hid _ := hst1
      have H2 : Hid _ := hb'
      have H3 : Hid _ := hsz'
      clear hst1 hst2 hb' hsz' hc h hown
      go_wp2
      go_roundw
      case rel => exact ⟨k + 1, by omega, by go_num, H1, H2, H3⟩
      case measure => simp [intOf]; omega
    · have hkn : k = n := by omega
      subst hkn
      have hfin : ∀ j, j < k → wr.cell? ⟨w.heap.size, j, none⟩ = some (Value.bool (f j)) := fun j hj => by
        rw [hown.cellAt j (by omega), fillTo_at _ _ _ _ _ hj hj]
      have H1 : Hid _ := hfin
      clear hfin hown
      go_wp2
      go_ret
      exact ⟨rfl, hb, hsz, H1⟩

theorem cloneBools_none (n c : Nat) (w : World) : Calls Try.prog 35 #[.slice none n c] w fun e w' => e = .returned (.slice none 0 0) ∧ w' = w := by
  have q0 : ∀ (w : World) (a : Option Addr) (n c n' c' : Nat), (binOp .eql 54 (.slice a n c) (.slice none n' c')).run Try.prog w = .ok (.bool a.isNone) w := fun w a n c n' c' => Lib.run_eql_slice_nil w _ _ a n c n' c' Try.underlying54
  go_enter Try.func35, Try.ntmps35
  go_wp2
  go_ret
  exact ⟨rfl, rfl⟩

/-- The copy, nil or not. -/
theorem cloneBools_any (ao : Option Addr) (n c : Nat) (f : Nat → Bool) (w : World) (hn : n ≤ 1048576) (hnil : ao = none → n = 0) (h : SeqOn (· < w.heap.size) w ao n (fun j => Value.bool (f j))) :
    Calls Try.prog 35 #[.slice ao n c] w fun e w' => ∃ ao' c', e = .returned (.slice ao' n c') ∧ Below w.heap.size w w' ∧ (ao' = none → n = 0) ∧ SeqOn (fun b => w.heap.size ≤ b ∧ b < w'.heap.size) w' ao' n (fun j => Value.bool (f j)) := by
  cases ao with
  | none =>
    obtain rfl := hnil rfl
    refine (cloneBools_none 0 c w).mono ?_
    rintro e w' ⟨rfl, rfl⟩
    exact ⟨none, 0, rfl, Below.refl _ _, fun _ => rfl, fun h => absurd h (by omega)⟩
  | some a =>
    refine (cloneBools_some a n c f w hn h).mono ?_
    rintro e w' ⟨rfl, h1, h2, h3⟩
    exact ⟨_, _, rfl, h1, fun h => by simp at h, fun _ => ⟨w.heap.size, 0, rfl, ⟨Nat.le_refl _, h2⟩, fun j hj => by rw [Nat.zero_add]; exact h3 j hj⟩⟩

end Go.Proofs.Qxb6003464a
