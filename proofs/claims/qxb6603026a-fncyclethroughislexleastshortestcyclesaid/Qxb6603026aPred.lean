/-
  predecessors (15).
-/
import Derived.Test.Qxb6603026aArr
import Derived.Test.Qxb6603026aProg
import Derived.Test.Qxb6603026aClone
import Derived.BigQuiet
import Derived.Deep.RegionHeld
namespace Go.Proofs.Qxb6603026a
open Go.RowKit

/-- How predecessors ends. -/
def Predd (w : World) (R : List (List Nat)) (e : Ending) (w' : World) : Prop :=
  ∃ S P bs bp m, e = .returned (.tuple #[.slice (some ⟨bs, 0, none⟩) (R.length + 1) (R.length + 1), .slice (some ⟨bp, 0, none⟩) m m]) ∧ Arr w' bs (R.length + 1) (fun x => nv (S x)) ∧ Arr w' bp m (fun x => nv (P x)) ∧ Preds R S P m ∧
    Below w.heap.size w w' ∧ w.heap.size ≤ bs ∧ w.heap.size ≤ bp ∧ m ≤ 1099511627776

theorem below_drewN {B : Nat} {a w : World} (h : Below B a w) (n : Nat) : Below B a (w.drewN n) := ⟨h.os, h.tape, h.output, h.size, h.block⟩

def f1 (R : List (List Nat)) (i k : Nat) (x : Nat) : Value := nv (if x = 0 then 0 else (done R i k).count (x - 1))
theorem f1_next (R : List (List Nat)) (i k : Nat) (hi : i < R.length) (hk : k < R[i].length) (o : Nat) : (if o = R[i][k] + 1 then nv ((done R i k).count R[i][k] + 1) else f1 R i k o) = f1 R i (k + 1) o := by
  unfold f1
  by_cases e : o = R[i][k] + 1
  · rw [if_pos e, if_neg (by omega), count_next R i k hi hk, if_pos (by omega), e]; rfl
  · rw [if_neg e]
    by_cases e0 : o = 0
    · rw [if_pos e0, if_pos e0]
    · rw [if_neg e0, if_neg e0, count_next R i k hi hk, if_neg (by omega), Nat.add_zero]
def f2 (R : List (List Nat)) (v x : Nat) : Value := nv (if x ≤ v then bel R x else R.flatten.count (x - 1))
theorem f2_start (R : List (List Nat)) (o : Nat) : f1 R R.length 0 o = f2 R 0 o := by
  unfold f1 f2
  rw [done_all]
  by_cases e : o = 0
  · subst e; rw [if_pos rfl, if_pos (Nat.le_refl _), bel_zero]
  · rw [if_neg e, if_neg (by omega)]
theorem f2_next (R : List (List Nat)) (v o : Nat) : (if o = v + 1 then nv (R.flatten.count v + bel R v) else f2 R v o) = f2 R (v + 1) o := by
  unfold f2
  by_cases e : o = v + 1
  · rw [if_pos e, if_pos (by omega), e, bel_succ, Nat.add_comm]
  · rw [if_neg e]
    by_cases e2 : o ≤ v
    · rw [if_pos e2, if_pos (by omega)]
    · rw [if_neg e2, if_neg (by omega)]
theorem f2_end (R : List (List Nat)) (o : Nat) (h : o < R.length + 1) : f2 R R.length o = nv (bel R o) := by
  unfold f2; rw [if_pos (by omega)]
def f3 (R : List (List Nat)) (v x : Nat) : Value := nv (if x < v then bel R x else 0)
theorem f3_next (R : List (List Nat)) (v o : Nat) : (if o = v then nv (bel R v) else f3 R v o) = f3 R (v + 1) o := by
  unfold f3
  by_cases e : o = v
  · rw [if_pos e, if_pos (by omega), e]
  · rw [if_neg e]
    by_cases e2 : o < v
    · rw [if_pos e2, if_pos (by omega)]
    · rw [if_neg e2, if_neg (by omega)]
def f4 (R : List (List Nat)) (i k v : Nat) : Value := nv (bel R v + (done R i k).count v)
theorem f4_start (R : List (List Nat)) (o : Nat) (h : o < R.length) : f3 R R.length o = f4 R 0 0 o := by
  unfold f3 f4; rw [if_pos h, done_zero]; simp
theorem f4_next (R : List (List Nat)) (i k : Nat) (hi : i < R.length) (hk : k < R[i].length) (o : Nat) : (if o = R[i][k] then nv (bel R R[i][k] + (done R i k).count R[i][k] + 1) else f4 R i k o) = f4 R i (k + 1) o := by
  unfold f4
  rw [count_next R i k hi hk]
  by_cases e : o = R[i][k]
  · rw [if_pos e, if_pos e, e, Nat.add_assoc]
  · rw [if_neg e, if_neg e, Nat.add_zero]

set_option maxHeartbeats 8000000 in
set_option maxRecDepth 100000 in
theorem pred_any (v0 : Value) (R : List (List Nat)) (w : World) (hl : R.length ≤ 1048576) (hT : ∀ r ∈ R, r.length ≤ 1048576) (hR : ∀ r ∈ R, ∀ x ∈ r, x < R.length) (h : IsRowsN (· < w.heap.size) w v0 R) : Calls Try.prog 15 #[v0] w (Predd w R) := by
  obtain ⟨ao, cap, rfl, -, hs⟩ := h
  obtain ⟨i0, hi, hz0, hz1, hz2⟩ := info_parts info3
  have hfl : R.flatten.length ≤ 1099511627776 := by have := flat_len R hT; omega
  have HT := hide hT
  have HR := hide hR
  have HC : Hid (∀ i k v, (h : i < R.length) → k < R[i].length → (done R i k).count v ≤ 1099511627776) := fun i k v h hk => by
    have h1 := count_le R i k h hk v
    have h2 := List.count_le_length (a := v) (l := R.flatten)
    omega
  clear hT hR
  have HS := hide hs
  clear hs
  go_enter Try.func15, Try.ntmps15
  go_wp2_with (at_make; go_must (refine wpList_make_full _ rfl _ _ 26 rfl w.heap.size 3 i0 (.int .i64 0) 1 Try.underlying26 hi hz0 hz1 .i64 .i64 ((R.length : Int) + 1) ((R.length : Int) + 1) (R.length + 1) rfl rfl rfl rfl (by rw [hz2]; omega) (by unfold maxLen; omega) (Nat.le_refl _) ?_))
  intro w1 hown hg
  have hA0 : Arr w1 w.heap.size (R.length + 1) (f1 R 0 0) := by
    have := Arr.made (z := .int .i64 0) (by simpa [Value.cells, toList_madeCells_one] using hown)
    exact this.congr fun o _ => by unfold f1; rw [done_zero]; simp [nv]
  have hB0 : Below w.heap.size w w1 := (Below.refl _ _).grown hg (Nat.le_refl _) (fun k h => by cases h)
  clear hown hg
  go_wp2
  go_loopw [6] (fun iv wr => ∃ i : Nat, i ≤ R.length ∧ iv = .int .i64 i ∧ Arr wr w.heap.size (R.length + 1) (f1 R i 0) ∧ Below w.heap.size w wr) (fun iv _ => R.length - (intOf iv).toNat)
  case atStart => exact ⟨0, Nat.zero_le _, rfl, hA0, hB0⟩
  case round =>
    clear hA0 hB0
    obtain ⟨i, hin, rfl, hA, hB⟩ := hrel
    by_cases hlt : i < R.length
    · obtain ⟨b, off, rfl, hbl, hel⟩ := unhide HS (by omega)
      obtain ⟨va, c0, hV⟩ := (hel i hlt).c0
      have c0' : wr.cell? ⟨b, off + i, none⟩ = some va := by
        rw [Nat.mul_one] at c0
        exact (hB.cell (p := ⟨b, off + i, none⟩) hbl).trans c0
      obtain ⟨aor, capr, rfl, -, hsr⟩ := hV
      have HSR := hide hsr
      have hrl := unhide HT _ (List.getElem_mem hlt)
      have HD : Hid (∀ wx, Arr wx w.heap.size (R.length + 1) (f1 R i R[i].length) → Arr wx w.heap.size (R.length + 1) (f1 R (i + 1) 0)) := fun wx h => h.congr fun o _ => by unfold f1; rw [done_row R i hlt]
      clear hel c0 hsr
      obtain ⟨wo, rfl⟩ : ∃ wo, wo = wr := ⟨_, rfl⟩
      go_wp2
      go_loopw [8] (fun kv wr => ∃ k : Nat, k ≤ R[i].length ∧ kv = .int .i64 k ∧ Arr wr w.heap.size (R.length + 1) (f1 R i k) ∧ Below w.heap.size w wr) (fun kv _ => R[i].length - (intOf kv).toNat)
      case atStart => exact ⟨0, Nat.zero_le _, rfl, hA, hB⟩
      case round =>
        clear hA hB c0'
        obtain ⟨k, hk, rfl, hA, hB⟩ := hrel
        by_cases hkl : k < R[i].length
        · obtain ⟨br, offr, rfl, hblr, helr⟩ := unhide HSR (by omega)
          have t0 : wr.cell? ⟨br, offr + k, none⟩ = some (nv R[i][k]) := by
            have := helr k hkl
            unfold elNat at this
            rw [Nat.mul_one] at this
            exact (hB.cell (p := ⟨br, offr + k, none⟩) hblr).trans this
          have hxn := unhide HR _ (List.getElem_mem hlt) _ (List.getElem_mem hkl)
          have hcn := unhide HC i k R[i][k] hlt hkl
          have y0 : wr.cell? ⟨w.heap.size, R[i][k] + 1, none⟩ = some (nv ((done R i k).count R[i][k])) := by
            rw [hA.cell _ (by omega)]; unfold f1; rw [if_neg (by omega)]; rfl
          have z0 := hA.frz (R[i][k] + 1)
          have HA2 := hide ((hA.set (R[i][k] + 1) (by omega) (nv ((done R i k).count R[i][k] + 1))).congr fun o _ => f1_next R i k hlt hkl o)
          have HB2 := hide (hB.setCell (Nat.le_refl w.heap.size) (p := ⟨w.heap.size, R[i][k] + 1, none⟩) (nv ((done R i k).count R[i][k] + 1)))
          generalize (done R i k).count R[i][k] = cn at *
          generalize hxx : R[i][k] = x at *
          have i1 : (x : Int) < (R.length : Int) := by omega
          unfold nv at *
          clear helr hxx hA hB
          go_wp2
          go_roundw
          case rel => exact ⟨k + 1, by omega, by go_num, unhide HA2, unhide HB2⟩
          case measure => simp [intOf]; omega
        · have hkn : k = R[i].length := by omega
          subst hkn
          have HA2 := hide (unhide HD wr hA)
          clear hA
          go_wp2
          go_roundw
          case rel => exact ⟨i + 1, by omega, by go_num, unhide HA2, hB⟩
          case measure => simp [intOf]; omega
    · have hkn : i = R.length := by omega
      subst hkn
      have hA2 : Arr wr w.heap.size (R.length + 1) (f2 R 0) := hA.congr fun o _ => f2_start R o
      clear hA hin
      obtain ⟨wo, rfl⟩ : ∃ wo, wo = wr := ⟨_, rfl⟩
      go_wp2
      go_loopw [9] (fun iv wr => ∃ v : Nat, v ≤ R.length ∧ iv = .int .i64 v ∧ Arr wr w.heap.size (R.length + 1) (f2 R v) ∧ Below w.heap.size w wr) (fun iv _ => R.length - (intOf iv).toNat)
      case atStart => exact ⟨0, Nat.zero_le _, rfl, hA2, hB⟩
      case round =>
        clear hA2 hB
        obtain ⟨v, hvn, rfl, hA, hB⟩ := hrel
        by_cases hlt : v < R.length
        · have y0 : wr.cell? ⟨w.heap.size, v, none⟩ = some (nv (bel R v)) := by rw [hA.cell _ (by omega)]; unfold f2; rw [if_pos (Nat.le_refl _)]
          have y1 : wr.cell? ⟨w.heap.size, v + 1, none⟩ = some (nv (R.flatten.count v)) := by rw [hA.cell _ (by omega)]; unfold f2; rw [if_neg (by omega)]; rfl
          have z0 := hA.frz (v + 1)
          have b0 : bel R v ≤ 1099511627776 := Nat.le_trans (bel_le R v) hfl
          have b1 : R.flatten.count v ≤ 1099511627776 := Nat.le_trans List.count_le_length hfl
          have HA2 : Hid (∀ q, Arr ((wr.drewN q).setCell ⟨w.heap.size, v + 1, none⟩ (nv (R.flatten.count v + bel R v))) w.heap.size (R.length + 1) (f2 R (v + 1))) := fun q => ((hA.drewN q).set (v + 1) (by omega) _).congr fun o _ => f2_next R v o
          have HB2 : Hid (∀ q, Below w.heap.size w ((wr.drewN q).setCell ⟨w.heap.size, v + 1, none⟩ (nv (R.flatten.count v + bel R v)))) := fun q => (below_drewN hB q).setCell (Nat.le_refl w.heap.size) (p := ⟨w.heap.size, v + 1, none⟩) _
          have i1 : (v : Int) < (R.length : Int) := by omega
          have i2 : (v : Int) + 1 < (R.length : Int) + 1 := by omega
          have i3 : (0 : Int) ≤ (v : Int) + 1 := by omega
          have i4 : (v : Int) + 1 < ((R.length + 1 : Nat) : Int) := by omega
          have i5 : v + 1 < R.length + 1 := by omega
          generalize bel R v = x at *
          generalize R.flatten.count v = y at *
          unfold nv at *
          clear hA hB
          go_wp2
          go_region
          all_goals
            go_wp2
            go_roundw
            case rel => exact ⟨v + 1, by omega, by go_num, unhide HA2 1, unhide HB2 1⟩
            case measure => simp [intOf]; omega
        · have hvn : v = R.length := by omega
          subst hvn
          have hA3 : Arr wr w.heap.size (R.length + 1) (fun x => nv (bel R x)) := hA.congr fun o ho => f2_end R o ho
          have hlt0 := hA.lt
          clear hA hvn
          obtain ⟨wo2, rfl⟩ : ∃ wo2, wo2 = wr := ⟨_, rfl⟩
          go_wp2_with (at_make; go_must (refine wpList_make_full _ rfl _ _ 26 rfl wo2.heap.size 3 i0 (.int .i64 0) 1 Try.underlying26 hi hz0 hz1 .i64 .i64 (R.length : Int) (R.length : Int) R.length rfl rfl rfl rfl (by rw [hz2]; omega) (by unfold maxLen; omega) (Nat.le_refl _) ?_))
          intro w3 hown hg
          have hA4 : Arr w3 wo2.heap.size R.length (f3 R 0) := by
            have := Arr.made (z := .int .i64 0) (by simpa [Value.cells, toList_madeCells_one] using hown)
            exact this.congr fun o _ => by unfold f3; simp [nv]
          have hA5 : Arr w3 w.heap.size (R.length + 1) (fun x => nv (bel R x)) := hA3.grown hg (by simp)
          have hB3 : Below w.heap.size w w3 := hB.trans (((Below.refl _ _).grown hg (Nat.le_refl _) (fun k h => by cases h)).mono hB.size)
          clear hown hg hA3
          go_wp2
          go_loopw [11] (fun iv wr => ∃ v : Nat, v ≤ R.length ∧ iv = .int .i64 v ∧ Arr wr wo2.heap.size R.length (f3 R v) ∧ Arr wr w.heap.size (R.length + 1) (fun x => nv (bel R x)) ∧ Below w.heap.size w wr) (fun iv _ => R.length - (intOf iv).toNat)
          case atStart => exact ⟨0, Nat.zero_le _, rfl, hA4, hA5, hB3⟩
          case round =>
            clear hA4 hA5 hB3
            obtain ⟨v, hvn, rfl, hA, hA5, hB⟩ := hrel
            by_cases hlt : v < R.length
            · have y0 : wr.cell? ⟨w.heap.size, v, none⟩ = some (nv (bel R v)) := hA5.cell v (by omega)
              have y1 := hA.cell v hlt
              have z0 := hA.frz v
              have HA2 := hide ((hA.set v hlt (nv (bel R v))).congr fun o _ => f3_next R v o)
              have HA5 := hide (hA5.other (b' := wo2.heap.size) (o := v) (by omega) (nv (bel R v)))
              have HB2 := hide (hB.setCell (p := ⟨wo2.heap.size, v, none⟩) (Nat.le_of_lt hlt0) (nv (bel R v)))
              generalize bel R v = x at *
              generalize f3 R v v = y at *
              unfold nv at *
              clear hA hA5 hB
              go_wp2
              go_roundw
              case rel => exact ⟨v + 1, by omega, by go_num, unhide HA2, unhide HA5, unhide HB2⟩
              case measure => simp [intOf]; omega
            · have hvn : v = R.length := by omega
              subst hvn
              have hA6 : Arr wr wo2.heap.size R.length (f4 R 0 0) := hA.congr fun o ho => f4_start R o ho
              have hlt1 := hA.lt
              have y0 : wr.cell? ⟨w.heap.size, R.length, none⟩ = some (nv R.flatten.length) := by
                rw [hA5.cell _ (by omega), bel_all R R.length fun x hx => by
                  obtain ⟨r, hr, hxr⟩ := List.mem_flatten.1 hx
                  exact unhide HR r hr x hxr]
              have HFL : Hid (R.flatten.length = bel R R.length) := (bel_all R R.length fun x hx => by
                  obtain ⟨r, hr, hxr⟩ := List.mem_flatten.1 hx
                  exact unhide HR r hr x hxr).symm
              clear hA hvn
              obtain ⟨wo3, rfl⟩ : ∃ wo3, wo3 = wr := ⟨_, rfl⟩
              unfold nv at y0
              generalize hm : R.flatten.length = m at *
              have HM := hide hm
              clear hm
              go_wp2_with (at_make; go_must (refine wpList_make_full _ rfl _ _ 26 rfl wo3.heap.size 3 i0 (.int .i64 0) 1 Try.underlying26 hi hz0 hz1 .i64 .i64 (m : Int) (m : Int) m rfl rfl rfl rfl (by rw [hz2]; omega) (by unfold maxLen; omega) (Nat.le_refl _) ?_))
              intro w4 hown hg
              have hA7 : Arr w4 wo3.heap.size m (fun x => nv ((fun _ => 0) x)) := by
                have := Arr.made (z := .int .i64 0) (by simpa [Value.cells, toList_madeCells_one] using hown)
                exact this.congr fun o _ => by simp [nv]
              have hA8 : Arr w4 wo2.heap.size R.length (f4 R 0 0) := hA6.grown hg (by simp)
              have hA9 : Arr w4 w.heap.size (R.length + 1) (fun x => nv (bel R x)) := hA5.grown hg (by simp)
              have hB4 : Below w.heap.size w w4 := hB.trans (((Below.refl _ _).grown hg (Nat.le_refl _) (fun k h => by cases h)).mono hB.size)
              clear hown hg hA5 hA6 y0 hB
              go_wp2
              go_loopw [13] (fun iv wr => ∃ (i : Nat) (P : Nat → Nat), i ≤ R.length ∧ iv = .int .i64 i ∧ Arr wr wo3.heap.size m (fun x => nv (P x)) ∧ Arr wr wo2.heap.size R.length (f4 R i 0) ∧ Arr wr w.heap.size (R.length + 1) (fun x => nv (bel R x)) ∧ Below w.heap.size w wr ∧ PredTo R P i 0) (fun iv _ => R.length - (intOf iv).toNat)
              case atStart => exact ⟨0, fun _ => 0, Nat.zero_le _, rfl, hA7, hA8, hA9, hB4, PredTo.start R _⟩
              case round =>
                clear hA7 hA8 hA9 hB4
                obtain ⟨i, P, hin, rfl, hA7, hA8, hA9, hB, hPr⟩ := hrel
                by_cases hlt : i < R.length
                · obtain ⟨b, off, rfl, hbl, hel⟩ := unhide HS (by omega)
                  obtain ⟨va, c0, hV⟩ := (hel i hlt).c0
                  have c0' : wr.cell? ⟨b, off + i, none⟩ = some va := by
                    rw [Nat.mul_one] at c0
                    exact (hB.cell (p := ⟨b, off + i, none⟩) hbl).trans c0
                  obtain ⟨aor, capr, rfl, -, hsr⟩ := hV
                  have HSR := hide hsr
                  have hrl := unhide HT _ (List.getElem_mem hlt)
                  have HD : Hid (∀ wx, Arr wx wo2.heap.size R.length (f4 R i R[i].length) → Arr wx wo2.heap.size R.length (f4 R (i + 1) 0)) := fun wx h => h.congr fun o _ => by unfold f4; rw [done_row R i hlt]
                  have HD2 : Hid (∀ P, PredTo R P i R[i].length → PredTo R P (i + 1) 0) := fun P h => h.nextRow hlt
                  clear hel c0 hsr
                  obtain ⟨wo4, rfl⟩ : ∃ wo4, wo4 = wr := ⟨_, rfl⟩
                  go_wp2
                  go_loopw [15] (fun kv wr => ∃ (k : Nat) (P : Nat → Nat), k ≤ R[i].length ∧ kv = .int .i64 k ∧ Arr wr wo3.heap.size m (fun x => nv (P x)) ∧ Arr wr wo2.heap.size R.length (f4 R i k) ∧ Arr wr w.heap.size (R.length + 1) (fun x => nv (bel R x)) ∧ Below w.heap.size w wr ∧ PredTo R P i k) (fun kv _ => R[i].length - (intOf kv).toNat)
                  case atStart => exact ⟨0, P, Nat.zero_le _, rfl, hA7, hA8, hA9, hB, hPr⟩
                  case round =>
                    clear hA7 hA8 hA9 hB hPr c0'
                    obtain ⟨k, P, hk, rfl, hA7, hA8, hA9, hB, hPr⟩ := hrel
                    by_cases hkl : k < R[i].length
                    · obtain ⟨br, offr, rfl, hblr, helr⟩ := unhide HSR (by omega)
                      have t0 : wr.cell? ⟨br, offr + k, none⟩ = some (nv R[i][k]) := by
                        have := helr k hkl
                        unfold elNat at this
                        rw [Nat.mul_one] at this
                        exact (hB.cell (p := ⟨br, offr + k, none⟩) hblr).trans this
                      have hxn := unhide HR _ (List.getElem_mem hlt) _ (List.getElem_mem hkl)
                      have HPN := hide (hPr.next hlt hkl)
                      have hpos : bel R R[i][k] + (done R i k).count R[i][k] < m := by
                        have h1 := count_lt R i k hlt hkl
                        have h2 := bel_succ R R[i][k]
                        have h3 := bel_le R (R[i][k] + 1)
                        have h4 := unhide HM
                        omega
                      have y0 : wr.cell? ⟨wo2.heap.size, R[i][k], none⟩ = some (nv (bel R R[i][k] + (done R i k).count R[i][k])) := hA8.cell _ hxn
                      have z0 := hA8.frz R[i][k]
                      have HA8 : Hid (∀ u, Arr ((wr.setCell ⟨wo3.heap.size, bel R R[i][k] + (done R i k).count R[i][k], none⟩ u).setCell ⟨wo2.heap.size, R[i][k], none⟩ (nv (bel R R[i][k] + (done R i k).count R[i][k] + 1))) wo2.heap.size R.length (f4 R i (k + 1))) := fun u =>
                        ((hA8.other (b' := wo3.heap.size) (by omega) u).set R[i][k] hxn _).congr fun o _ => f4_next R i k hlt hkl o
                      have HA7 : Hid (∀ u, Arr ((wr.setCell ⟨wo3.heap.size, bel R R[i][k] + (done R i k).count R[i][k], none⟩ (nv i)).setCell ⟨wo2.heap.size, R[i][k], none⟩ u) wo3.heap.size m (fun x => nv (if x = bel R R[i][k] + (done R i k).count R[i][k] then i else P x))) := fun u =>
                        ((hA7.set _ hpos (nv i)).other (b' := wo2.heap.size) (by omega) u).congr fun o _ => by split <;> rfl
                      have HA9 : Hid (∀ u u', Arr ((wr.setCell ⟨wo3.heap.size, bel R R[i][k] + (done R i k).count R[i][k], none⟩ u).setCell ⟨wo2.heap.size, R[i][k], none⟩ u') w.heap.size (R.length + 1) (fun x => nv (bel R x))) := fun u u' => (hA9.other (by omega) u).other (by omega) u'
                      have HB2 : Hid (∀ u u', Below w.heap.size w ((wr.setCell ⟨wo3.heap.size, bel R R[i][k] + (done R i k).count R[i][k], none⟩ u).setCell ⟨wo2.heap.size, R[i][k], none⟩ u')) := fun u u' =>
                        (hB.setCell (p := ⟨wo3.heap.size, _, none⟩) (by show w.heap.size ≤ wo3.heap.size; omega) u).setCell (p := ⟨wo2.heap.size, _, none⟩) (Nat.le_of_lt hlt0) u'
                      have y1 := hA7.cell _ hpos
                      have z1 := hA7.frz (bel R R[i][k] + (done R i k).count R[i][k])
                      generalize bel R R[i][k] + (done R i k).count R[i][k] = ps at *
                      generalize hxx : R[i][k] = x at *
                      generalize P ps = op at *
                      have i1 : (x : Int) < (R.length : Int) := by omega
                      have i2 : (ps : Int) < (m : Int) := by omega
                      have n1 : wo2.heap.size ≠ wo3.heap.size := by omega
                      unfold nv at *
                      clear helr hxx hA7 hA8 hA9 hB hPr
                      go_wp2
                      go_roundw
                      case rel => exact ⟨k + 1, _, by omega, by go_num, unhide HA7 _, unhide HA8 _, unhide HA9 _ _, unhide HB2 _ _, unhide HPN⟩
                      case measure => simp [intOf]; omega
                    · have hkn : k = R[i].length := by omega
                      subst hkn
                      have H7 := hide hA7
                      have H8 := hide (unhide HD wr hA8)
                      have H9 := hide hA9
                      have HB2 := hide hB
                      have HPN := hide (unhide HD2 P hPr)
                      clear hA7 hA8 hA9 hB hPr
                      go_wp2
                      go_roundw
                      case rel => exact ⟨i + 1, P, by omega, by go_num, unhide H7, unhide H8, unhide H9, unhide HB2, unhide HPN⟩
                      case measure => simp [intOf]; omega
                · have hin' : i = R.length := by omega
                  subst hin'
                  have HF := hide (hPr.finish (S := bel R) (fun _ _ => rfl) (unhide HR))
                  rw [unhide HM] at HF
                  have H1 := hide hA7
                  have H2 := hide hA9
                  have H3 := hide hB
                  clear hA7 hA8 hA9 hB hPr
                  go_wp2
                  go_ret2
                  exact ⟨bel R, P, _, _, m, rfl, unhide H2, unhide H1, unhide HF, unhide H3, Nat.le_refl _, by omega, hfl⟩
end Go.Proofs.Qxb6603026a
