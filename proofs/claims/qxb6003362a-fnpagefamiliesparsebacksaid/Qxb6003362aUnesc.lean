/-
  unescapeZZ (function 8), quoted = false, at what esc writes.
-/
import Derived.Test.Qxb6003362aEsc
import Derived.Laws.BytesArg
namespace Go.Proofs.Qxb6003362a
open Go.RowKit

theorem strOfNums_bytes (l : List UInt8) : strOfNums (l.map fun c => (c.toNat : Int)) = ⟨l.toArray⟩ := by
  unfold strOfNums
  congr 1
  rw [List.map_map]
  congr 1
  conv => rhs; rw [← List.map_id l]
  apply List.map_congr_left
  intro c _
  simp

/-- string(d), d an owned row of bytes. -/
theorem run_str_own (w : World) (base : Nat) (v : Value) (l : List UInt8) (n : Nat) (hn : n = l.length) (h : w.ownsRow base 5 1 v n (l.map bv)) : (convert 22 9 v).run Try.prog w = .ok (.string ⟨l.toArray⟩) w := by
  subst hn
  rcases hown : h.2 with ⟨rfl, h0⟩ | ⟨g, cap, cur, rfl, _⟩
  · have : l = [] := List.eq_nil_of_length_eq_zero h0
    subst this
    exact run_convert_bytes_nil w 22 5 Try.underlying22 Try.underlying5 0 0 9 Try.underlying9
  · have := run_convert_bytes_arg w 22 5 Try.underlying22 Try.underlying5 g 0 l.length cap (l.map fun c => (c.toNat : Int)) (by simp) (fun i hi => by
      rw [Nat.zero_add, h.cellAt i (by omega)]
      simp [bv, hi]) 9 Try.underlying9
    rw [strOfNums_bytes] at this
    exact this

/-- A round of the reading: what lies there. -/
theorem esc_split (l : List UInt8) (k : Nat) (h : k < l.length) : esc l = esc (l.take k) ++ (esc1 l[k] ++ esc (l.drop (k + 1))) := by
  have e : l = l.take k ++ (l[k] :: l.drop (k + 1)) := by rw [← List.drop_eq_getElem_cons h, List.take_append_drop]
  calc esc l = esc (l.take k ++ (l[k] :: l.drop (k + 1))) := congrArg esc e
    _ = _ := by rw [esc_append]; unfold esc; rw [List.flatMap_cons]

/-- How unescapeZZ ends there. -/
def UnDone (w : World) (l : List UInt8) (e : Ending) (w' : World) : Prop := e = .returned (.tuple #[.string ⟨l.toArray⟩, .bool true]) ∧ Below w.heap.size w w'

theorem own_push {w : World} {base : Nat} {v : Value} {l : List UInt8} {k : Nat} (hk : k < l.length) {m : Nat} {ns : List Value} (h : w.ownsRow base 5 1 v (k + m) ((l.take k).map bv ++ ns)) (hm : m = 1) (hn : ns = [bv l[k]]) : w.ownsRow base 5 1 v (k + 1) ((l.take (k + 1)).map bv) := by
  subst hm; subst hn
  rw [List.take_succ_eq_append_getElem hk, List.map_append]
  exact h

set_option maxHeartbeats 2000000 in
theorem unesc_any (g off n cap : Nat) (l : List UInt8) (w : World) (hseg : Seg w g off (esc l)) (hn : n = (esc l).length) (hg : g < w.heap.size) (hbd : n ≤ 70368744177664) :
    Calls Try.prog 8 #[.slice (some ⟨g, off, none⟩) n cap, .bool false] w (UnDone w l) := by
  obtain ⟨i0, hi, hz0, hz1, hz2⟩ := info_parts info5
  have hlen : l.length ≤ n := by
    rw [hn]
    clear hseg hn hbd
    induction l with
    | nil => simp
    | cons c l ih =>
      have e : esc (c :: l) = esc1 c ++ esc l := by simp [esc]
      have : 1 ≤ (esc1 c).length := by unfold esc1; split <;> (try split) <;> simp
      rw [e]; simp; omega
  have Hn := hide hn
  clear hn
  go_enter Try.func8, Try.ntmps8
  go_wp2_with (at_make; go_must (refine wpList_make_own _ rfl _ _ 22 rfl w.heap.size 5 i0 (.int .u8 0) 1 Try.underlying22 hi hz0 hz1 .i64 .i64 (n : Int) n rfl rfl rfl (by rw [hz2]; omega) (by unfold maxLen; omega) (Nat.le_refl _) ?_))
  intro w1 hown1 hg1
  have hb1 : Below w.heap.size w w1 := (Below.refl _ _).grown hg1 (Nat.le_refl _) (fun k h => by cases h)
  clear hg1
  go_wp2
  go_loopw [6, 7] (fun d i wr => ∃ k : Nat, k ≤ l.length ∧ i = .int .i64 ((esc (l.take k)).length : Nat) ∧ wr.ownsRow w.heap.size 5 1 d k ((l.take k).map bv) ∧ Below w.heap.size w wr)
    (fun _ i _ => n - (intOf i).toNat)
  case atStart => exact ⟨0, Nat.zero_le _, rfl, by simpa using hown1, hb1⟩
  case round =>
    clear hown1 hb1
    obtain ⟨k, hk, rfl, ho, hb⟩ := hrel
    have hsz := hb.size
    by_cases hlt : k < l.length
    · have hsp := esc_split l k hlt
      have hln : (esc (l.take k)).length + ((esc1 l[k]).length + (esc (l.drop (k + 1))).length) = n := by
        rw [unhide Hn, hsp]; simp
      have hseg' : Seg wr g off (esc l) := hseg.below hb hg
      rw [hsp, Seg.append, Seg.append] at hseg'
      obtain ⟨-, hs1, -⟩ := hseg'
      have hnx : Hid ((esc (l.take (k + 1))).length = (esc (l.take k)).length + (esc1 l[k]).length) := by
        show _ = _
        rw [esc_take l k hlt]; simp
      generalize (esc (l.take k)).length = p at *
      generalize (esc (l.drop (k + 1))).length = q at *
      clear hsp hseg
      have step : ∀ (o : Obj) (v' : Value) (w1 : World) (m : Nat) (ns : List Value), m = 1 → ns = [bv l[k]] → w1.ownsRow w.heap.size 5 1 v' (k + m) ((l.take k).map bv ++ ns) → (wr.alloc o).grownBy w1 u6.ownBlock →
          w1.ownsRow w.heap.size 5 1 v' (k + 1) ((l.take (k + 1)).map bv) ∧ Below w.heap.size w w1 := by
        intro o v' w1 m ns hm hns ho' hg'
        exact ⟨own_push hlt ho' hm hns, (hb.alloc (by omega) o).grown hg' (by simp; omega) (fun j hj => (ho.lt j hj).1)⟩
      have S := hide step
      clear step
      generalize hc : l[k] = c at *
      have Hc := hide hc
      clear hc
      by_cases c92 : c = 92
      · subst c92
        have e1 : esc1 92 = [92, 92] := rfl
        rw [e1] at hs1 hln hnx
        have hc0 : wr.cell? ⟨g, off + p, none⟩ = some (.int .u8 92) := hs1 0 (by simp)
        have hc1 : wr.cell? ⟨g, off + (p + 1), none⟩ = some (.int .u8 92) := by have := hs1 1 (by simp); rwa [Nat.add_assoc] at this
        simp only [List.length_cons, List.length_nil] at hln hnx
        have hp : p + 2 ≤ n := by omega
        clear hln e1 hs1
        go_wp2_with (at_builtin; go_must (refine wpList_append_own _ rfl (.tmp 48) (.tmp 49) 22 rfl w.heap.size 5 i0 (.int .u8 0) 1 1 Try.underlying22 hi hz0 hz1 hz2 rfl (by decide) u6 k ((l.take k).map bv) rfl (ho.alloc _) ⟨wr.heap.size, 0, none⟩ 1 1 [.int .u8 92] rfl rfl (one_at _ _) one_one (by unfold maxLen; omega) (by omega) (by simp; omega) ?_))
        intro v' w1 ho' hg' _
        rw [← List.map_take] at ho'
        have R := unhide S _ v' w1 _ _ rfl rfl ho' hg'
        clear ho' hg' S
        go_wp2
        go_roundw
        case rel => exact ⟨k + 1, by omega, by rw [unhide hnx]; go_num, R.1, R.2⟩
        case measure => simp [intOf]; omega
      · by_cases c10 : c = 10
        · subst c10
          have e1 : esc1 10 = [92, 110] := rfl
          rw [e1] at hs1 hln hnx
          have hc0 : wr.cell? ⟨g, off + p, none⟩ = some (.int .u8 92) := hs1 0 (by simp)
          have hc1 : wr.cell? ⟨g, off + (p + 1), none⟩ = some (.int .u8 110) := by have := hs1 1 (by simp); rwa [Nat.add_assoc] at this
          simp only [List.length_cons, List.length_nil] at hln hnx
          have hp : p + 2 ≤ n := by omega
          clear hln e1 hs1 c92
          go_wp2_with (at_builtin; go_must (refine wpList_append_own _ rfl (.tmp 53) (.tmp 54) 22 rfl w.heap.size 5 i0 (.int .u8 0) 1 1 Try.underlying22 hi hz0 hz1 hz2 rfl (by decide) u6 k ((l.take k).map bv) rfl (ho.alloc _) ⟨wr.heap.size, 0, none⟩ 1 1 [.int .u8 10] rfl rfl (one_at _ _) one_one (by unfold maxLen; omega) (by omega) (by simp; omega) ?_))
          intro v' w1 ho' hg' _
          rw [← List.map_take] at ho'
          have R := unhide S _ v' w1 _ _ rfl rfl ho' hg'
          clear ho' hg' S
          go_wp2
          go_roundw
          case rel => exact ⟨k + 1, by omega, by rw [unhide hnx]; go_num, R.1, R.2⟩
          case measure => simp [intOf]; omega
        · have e1 : esc1 c = [c] := by unfold esc1; rw [if_neg c92, if_neg c10]
          rw [e1] at hs1 hln hnx
          have hc0 : wr.cell? ⟨g, off + p, none⟩ = some (.int .u8 (c.toNat : Int)) := hs1 0 (by simp)
          simp only [List.length_cons, List.length_nil] at hln hnx
          have hp : p + 1 ≤ n := by omega
          have ht0 : ((c.toNat : Int) == 10) = false := by
            simp only [beq_eq_false_iff_ne, ne_eq]; intro h; exact c10 (UInt8.toNat.inj (by show c.toNat = 10; omega))
          have ht1 : ((c.toNat : Int) != 92) = true := by
            simp only [bne_iff_ne, ne_eq]; intro h; exact c92 (UInt8.toNat.inj (by show c.toNat = 92; omega))
          clear hln e1 hs1 c92 c10
          cases ht2 : ((c.toNat : Int) == 34)
          all_goals
            go_wp2_with (at_builtin; go_must (refine wpList_append_own _ rfl (.tmp 31) (.tmp 33) 22 rfl w.heap.size 5 i0 (.int .u8 0) 1 1 Try.underlying22 hi hz0 hz1 hz2 rfl (by decide) u6 k ((l.take k).map bv) rfl (ho.alloc _) ⟨wr.heap.size, 0, none⟩ 1 1 [.int .u8 (c.toNat : Int)] rfl rfl (one_at _ _) one_one (by unfold maxLen; omega) (by omega) (by simp; omega) ?_))
            intro v' w1 ho' hg' _
            rw [← List.map_take] at ho'
            have R := unhide S _ v' w1 _ _ rfl rfl ho' hg'
            clear ho' hg' S
            go_wp2
            go_roundw
            case rel => exact ⟨k + 1, by omega, by rw [unhide hnx]; go_num, R.1, R.2⟩
            case measure => simp [intOf]; omega
    · have hkl : k = l.length := by omega
      subst hkl
      have e : l.take l.length = l := List.take_of_length_le (Nat.le_refl _)
      rw [e, ← unhide Hn]
      rw [e] at ho
      have hcv := run_str_own wr w.heap.size u6 l l.length rfl ho
      clear ho e
      go_wp2
      go_ret2
      exact ⟨rfl, hb⟩

theorem unesc_str (g off n cap : Nat) (s : ByteArray) (w w0 : World) (hw : ∃ q, w = w0.drewN q) (hseg : Seg w g off (esc s.data.toList)) (hn : n = (esc s.data.toList).length) (hg : g < w0.heap.size) (hbd : n ≤ 70368744177664) :
    Calls Try.prog 8 #[.slice (some ⟨g, off, none⟩) n cap, .bool false] w fun e w' => e = .returned (.tuple #[.string s, .bool true]) ∧ Below w0.heap.size w0 w' := by
  obtain ⟨q, rfl⟩ := hw
  refine (unesc_any g off n cap s.data.toList _ hseg hn hg hbd).mono ?_
  rintro e w' ⟨rfl, hb⟩
  exact ⟨by simp, ⟨hb.os, hb.tape, hb.output, hb.size, hb.block⟩⟩
end Go.Proofs.Qxb6003362a
