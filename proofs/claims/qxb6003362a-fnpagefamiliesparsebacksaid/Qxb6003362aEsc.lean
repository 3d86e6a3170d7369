/-
  appendEscaped (function 16), quoted = false.
-/
import Derived.Test.Qxb6003362aPlain
import Derived.Test.Qxb6003362aProg
import Derived.Lib.AppendStr
import Derived.WalkSpells
namespace Go.Proofs.Qxb6003362a
open Go.RowKit

theorem info5 : (Try.prog.info? 5).map (fun i => (i.zero, i.size, i.bytes)) = some (some (.int .u8 0), 1, 1) := by kernel_rfl

/-- What a function that appends to an owned row of bytes leaves. -/
def Grew (base : Nat) (out : List UInt8) (w : World) (e : Ending) (w' : World) : Prop :=
  ∃ v, e = .returned v ∧ w'.ownsRow base 5 1 v out.length (out.map bv) ∧ Below base w w'

theorem one_at (w : World) (u : Value) : ∀ (j : Nat) (x : Value), [u][j]? = some x → (w.alloc (.cells #[u] 5)).cell? ((⟨w.heap.size, 0, none⟩ : Addr).add j) = some x := by
  intro j x hj
  match j, hj with
  | 0, hj => simp at hj; subst hj; simp [Addr.add]
theorem one_one {k : IntKind} {n : Int} : ∀ u ∈ [Value.int k n], u.oneCell' = true := by
  intro u hu; simp at hu; subst hu; rfl

set_option maxHeartbeats 1000000 in
theorem appEsc_any (base : Nat) (v : Value) (bs : List UInt8) (s : ByteArray) (w : World) (hown : w.ownsRow base 5 1 v bs.length (bs.map bv)) (hbase : base ≤ w.heap.size) (hbd : bs.length + 2 * s.size ≤ 70368744177664) :
    Calls Try.prog 16 #[v, .string s, .bool false] w (Grew base (bs ++ esc s.data.toList) w) := by
  obtain ⟨i0, hi, hz0, hz1, hz2⟩ := info_parts info5
  go_enter Try.func16, Try.ntmps16
  go_wp2
  go_loopw [0, 7] (fun u i wr => ∃ k : Nat, k ≤ s.size ∧ i = .int .i64 k ∧ wr.ownsRow base 5 1 u (bs ++ esc (s.data.toList.take k)).length ((bs ++ esc (s.data.toList.take k)).map bv) ∧ Below base w wr)
    (fun _ i _ => s.size - (intOf i).toNat)
  case atStart => exact ⟨0, Nat.zero_le _, rfl, by simpa [esc] using hown, Below.refl _ _⟩
  case round =>
    obtain ⟨k, hk, rfl, ho, hb⟩ := hrel
    by_cases hlt : k < s.size
    · have hl : (esc (s.data.toList.take k)).length ≤ 2 * k := by
        have h1 := esc_len (s.data.toList.take k)
        have h2 : (s.data.toList.take k).length ≤ k := List.length_take_le _ _
        omega
      have hlA : (bs ++ esc (s.data.toList.take k)).length ≤ bs.length + 2 * k := by simp; omega
      have hst : Hid (bs ++ esc (s.data.toList.take (k + 1)) = (bs ++ esc (s.data.toList.take k)) ++ esc1 s[k]) := by
        rw [esc_take _ _ (by simpa using hlt), List.append_assoc]; rfl
      generalize bs ++ esc (s.data.toList.take k) = A at *
      have hsz := hb.size
      have step : ∀ (N : List UInt8) (v' : Value) (w1 : World) (m : Nat) (ns : List Value), esc1 s[k] = N → m = N.length → ns = N.map bv → w1.ownsRow base 5 1 v' (A.length + m) (A.map bv ++ ns) → wr.grownBy w1 u0.ownBlock →
          w1.ownsRow base 5 1 v' (bs ++ esc (s.data.toList.take (k + 1))).length ((bs ++ esc (s.data.toList.take (k + 1))).map bv) ∧ Below base w w1 := by
        intro N v' w1 m ns hN hm hns ho' hg
        rw [hst.out, hN]
        exact ⟨own_next ho' hm hns, hb.grown hg (by omega) (fun j hj => (ho.lt j hj).1)⟩
      have stepA : ∀ (N : List UInt8) (o : Obj) (v' : Value) (w1 : World) (m : Nat) (ns : List Value), esc1 s[k] = N → m = N.length → ns = N.map bv → w1.ownsRow base 5 1 v' (A.length + m) (A.map bv ++ ns) → (wr.alloc o).grownBy w1 u0.ownBlock →
          w1.ownsRow base 5 1 v' (bs ++ esc (s.data.toList.take (k + 1))).length ((bs ++ esc (s.data.toList.take (k + 1))).map bv) ∧ Below base w w1 := by
        intro N o v' w1 m ns hN hm hns ho' hg
        rw [hst.out, hN]
        exact ⟨own_next ho' hm hns, (hb.alloc (by omega) o).grown hg (by simp; omega) (fun j hj => (ho.lt j hj).1)⟩
      have S := hide step
      have SA := hide stepA
      clear step stepA
      by_cases c92 : s[k] = 92
      · have he : Hid (esc1 s[k] = [92, 92]) := by show _ = _; rw [c92]; rfl
        have hn : (s[k]).toNat = 92 := by rw [c92]; rfl
        have ht : (((s[k]).toNat : Int) == 92) = true := by simp [hn]
        clear c92
        go_wp2_with (at_builtin; go_must (refine Lib.wpList_append_own_string _ rfl (.tmp 25) _ 22 9 rfl base 5 i0 Try.underlying22 Try.underlying9 hi hz0 hz1 hz2 u0 A.length (A.map bv) rfl ho ⟨#[92, 92]⟩ rfl (by unfold maxLen; show _ + 2 ≤ _; omega) (by show _ + 2 ≤ _; omega) (by omega) ?_))
        intro v' w1 ho' hg _
        have R := unhide S [92, 92] v' w1 _ _ he.out rfl rfl ho' hg
        go_wp2
        go_roundw
        case rel => exact ⟨k + 1, by omega, by go_num, R.1, R.2⟩
        case measure => simp [intOf]; omega
      · by_cases c10 : s[k] = 10
        · have he : Hid (esc1 s[k] = [92, 110]) := by show _ = _; rw [c10]; rfl
          have hn : (s[k]).toNat = 10 := by rw [c10]; rfl
          have ht : (((s[k]).toNat : Int) == 10) = true := by simp [hn]
          have ht0 : (((s[k]).toNat : Int) == 92) = false := by simp [hn]
          clear c10 c92
          go_wp2_with (at_builtin; go_must (refine Lib.wpList_append_own_string _ rfl (.tmp 29) _ 22 9 rfl base 5 i0 Try.underlying22 Try.underlying9 hi hz0 hz1 hz2 u0 A.length (A.map bv) rfl ho ⟨#[92, 110]⟩ rfl (by unfold maxLen; show _ + 2 ≤ _; omega) (by show _ + 2 ≤ _; omega) (by omega) ?_))
          intro v' w1 ho' hg _
          have R := unhide S [92, 110] v' w1 _ _ he.out rfl rfl ho' hg
          go_wp2
          go_roundw
          case rel => exact ⟨k + 1, by omega, by go_num, R.1, R.2⟩
          case measure => simp [intOf]; omega
        · have he : Hid (esc1 s[k] = [s[k]]) := by show _ = _; unfold esc1; rw [if_neg c92, if_neg c10]
          have ht0 : (((s[k]).toNat : Int) == 92) = false := by
            simp only [beq_eq_false_iff_ne, ne_eq]; intro h; exact c92 (UInt8.toNat.inj (by show (s[k]).toNat = 92; omega))
          have ht1 : (((s[k]).toNat : Int) == 10) = false := by
            simp only [beq_eq_false_iff_ne, ne_eq]; intro h; exact c10 (UInt8.toNat.inj (by show (s[k]).toNat = 10; omega))
          clear c10 c92
          cases ht2 : (((s[k]).toNat : Int) == 34)
          · go_wp2_with (at_builtin; go_must (refine wpList_append_own _ rfl (.tmp 19) (.tmp 21) 22 rfl base 5 i0 (.int .u8 0) 1 1 Try.underlying22 hi hz0 hz1 hz2 rfl (by decide) u0 A.length (A.map bv) rfl (ho.alloc _) ⟨wr.heap.size, 0, none⟩ 1 1 [.int .u8 ((s[k]).toNat : Int)] rfl rfl (one_at _ _) one_one (by unfold maxLen; omega) (by omega) (by simp; omega) ?_))
            intro v' w1 ho' hg _
            have R := unhide SA [s[k]] _ v' w1 _ _ he.out rfl rfl ho' hg
            go_wp2
            go_roundw
            case rel => exact ⟨k + 1, by omega, by go_num, R.1, R.2⟩
            case measure => simp [intOf]; omega
          · go_wp2_with (at_builtin; go_must (refine wpList_append_own _ rfl (.tmp 36) (.tmp 38) 22 rfl base 5 i0 (.int .u8 0) 1 1 Try.underlying22 hi hz0 hz1 hz2 rfl (by decide) u0 A.length (A.map bv) rfl (ho.alloc _) ⟨wr.heap.size, 0, none⟩ 1 1 [.int .u8 ((s[k]).toNat : Int)] rfl rfl (one_at _ _) one_one (by unfold maxLen; omega) (by omega) (by simp; omega) ?_))
            intro v' w1 ho' hg _
            have R := unhide SA [s[k]] _ v' w1 _ _ he.out rfl rfl ho' hg
            go_wp2
            go_roundw
            case rel => exact ⟨k + 1, by omega, by go_num, R.1, R.2⟩
            case measure => simp [intOf]; omega
    · have e : Hid (s.data.toList.take k = s.data.toList) := List.take_of_length_le (by simp; omega)
      rw [e.out] at ho
      go_wp2
      go_ret
      exact ⟨_, rfl, ho, hb⟩
end Go.Proofs.Qxb6003362a
