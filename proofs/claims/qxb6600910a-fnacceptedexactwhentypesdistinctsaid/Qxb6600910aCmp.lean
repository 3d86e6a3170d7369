/-
  zzCmp (40).
-/
import Derived.Test.Qxb6600910aMem
import Derived.Test.Qxb6600910aProg
import Derived.BigQuiet
namespace Go.Proofs.Qxb6600910a
open Go.RowKit

theorem cmp_step (a b : List UInt8) (k : Nat) (ha : k < a.length) (hb : k < b.length) (h : cmpL a b = cmpL (a.drop k) (b.drop k)) : cmpL a b = if a[k].toNat = b[k].toNat then cmpL (a.drop (k + 1)) (b.drop (k + 1)) else if a[k].toNat < b[k].toNat then -1 else 1 := by
  rw [h, List.drop_eq_getElem_cons ha, List.drop_eq_getElem_cons hb, cmpL]
  simp only [UInt8.lt_iff_toNat_lt, ← UInt8.toNat_inj]
theorem cmp_end (a b : List UInt8) (k : Nat) (ha : k ≤ a.length) (hb : k ≤ b.length) (he : a.length = k ∨ b.length = k) (h : cmpL a b = cmpL (a.drop k) (b.drop k)) : cmpL a b = if a.length < b.length then -1 else if b.length < a.length then 1 else 0 := by
  rw [h]
  by_cases h1 : a.length = k
  · rw [List.drop_of_length_le (by omega)]
    by_cases h2 : b.length = k
    · rw [List.drop_of_length_le (by omega), if_neg (by omega), if_neg (by omega)]; rfl
    · rw [List.drop_eq_getElem_cons (by omega : k < b.length), if_pos (by omega)]; rfl
  · rw [List.drop_of_length_le (l := b) (by omega), List.drop_eq_getElem_cons (by omega : k < a.length), if_neg (by omega), if_pos (by omega)]; rfl

/-- How a reader ends. -/
def Quiet (w : World) (v : Value) (e : Ending) (w' : World) : Prop := e = .returned v ∧ ∃ q, w' = w.drewN q

set_option maxHeartbeats 4000000 in
theorem cmp_any (va vb : Value) (a b : List UInt8) (w : World) (p : Nat → Prop) (h1 : IsBytes p w va a) (h2 : IsBytes p w vb b) (la : a.length ≤ 1099520000000) (lb : b.length ≤ 1099520000000) :
    Calls Try.prog 40 #[va, vb] w (Quiet w (.int .i64 (cmpL a b))) := by
  obtain ⟨ao, cap, rfl, hz, hs⟩ := h1
  obtain ⟨bo, capb, rfl, hzb, hsb⟩ := h2
  clear hz hzb
  have hH : Hid (cmpL a b = cmpL (a.drop 0) (b.drop 0)) := by show _ = _; simp
  go_enter Try.func40, Try.ntmps40
  by_cases hlt : (b.length : Int) < a.length
  · go_wp2
    go_loopw [6] (fun i wr => ∃ k q : Nat, k ≤ b.length ∧ i = .int .i64 k ∧ wr = w.drewN q ∧ Hid (cmpL a b = cmpL (a.drop k) (b.drop k))) (fun i _ => b.length - (intOf i).toNat)
    case atStart => exact ⟨0, 0, Nat.zero_le _, rfl, rfl, hH⟩
    case round =>
      obtain ⟨k, q, hk, rfl, rfl, hI⟩ := hrel
      by_cases hkn : k < b.length
      · obtain ⟨b1, o1, rfl, -, hc1⟩ := hs (by omega)
        obtain ⟨b2, o2, rfl, -, hc2⟩ := hsb (by omega)
        have c1 := hc1 k (by omega)
        have c2 := hc2 k (by omega)
        have hS := hide (cmp_step a b k (by omega) (by omega) (unhide hI))
        unfold elByte bv at c1 c2
        rw [Nat.mul_one] at c1 c2
        have i1 : (k : Int) < (a.length : Int) := by omega
        have i2 : (k : Int) < (b.length : Int) := by omega
        clear hc1 hc2 hs hsb hI hH
        generalize (a[k]'(by omega)).toNat = x at *
        generalize (b[k]'(by omega)).toNat = y at *
        by_cases hxy : x = y
        · subst hxy
          have hS2 : Hid (cmpL a b = cmpL (a.drop (k + 1)) (b.drop (k + 1))) := by
            have := unhide hS
            rw [if_pos rfl] at this; exact this
          clear hS
          go_wp2
          go_quiet (fail)
          go_wp2
          go_roundw
          case rel => exact ⟨k + 1, q + nq, by omega, by go_num, by simp, hS2⟩
          case measure => simp [intOf]; omega
        · have hxy' : ¬ ((x : Int) = (y : Int)) := by omega
          by_cases hl : (x : Int) < (y : Int)
          · have hS2 : Hid (cmpL a b = -1) := by
              have := unhide hS
              rw [if_neg hxy, if_pos (by omega)] at this; exact this
            clear hS
            go_wp2
            go_quiet (fail)
            go_wp2
            go_quiet (fail)
            go_wp2
            go_ret
            exact ⟨by rw [unhide hS2]; rfl, _, by simp; rfl⟩
          · have hS2 : Hid (cmpL a b = 1) := by
              have := unhide hS
              rw [if_neg hxy, if_neg (by omega)] at this; exact this
            clear hS
            go_wp2
            go_quiet (fail)
            go_wp2
            go_quiet (fail)
            go_wp2
            go_ret
            exact ⟨by rw [unhide hS2]; rfl, _, by simp; rfl⟩
      · have hkn : k = b.length := by omega
        subst hkn
        have hS := cmp_end a b _ (by omega) (by omega) (.inr rfl) (unhide hI)
        clear hs hsb hI hH
        by_cases e1 : a.length < b.length
        · rw [if_pos e1] at hS
          have HS := hide hS
          clear hS
          go_wp2
          go_ret
          exact ⟨by rw [unhide HS]; rfl, _, rfl⟩
        · rw [if_neg e1] at hS
          by_cases e2 : b.length < a.length
          · rw [if_pos e2] at hS
            have HS := hide hS
            clear hS
            go_wp2
            go_ret
            exact ⟨by rw [unhide HS]; rfl, _, rfl⟩
          · exfalso; omega
  · go_wp2
    go_loopw [6] (fun i wr => ∃ k q : Nat, k ≤ a.length ∧ i = .int .i64 k ∧ wr = w.drewN q ∧ Hid (cmpL a b = cmpL (a.drop k) (b.drop k))) (fun i _ => a.length - (intOf i).toNat)
    case atStart => exact ⟨0, 0, Nat.zero_le _, rfl, rfl, hH⟩
    case round =>
      obtain ⟨k, q, hk, rfl, rfl, hI⟩ := hrel
      by_cases hkn : k < a.length
      · obtain ⟨b1, o1, rfl, -, hc1⟩ := hs (by omega)
        obtain ⟨b2, o2, rfl, -, hc2⟩ := hsb (by omega)
        have c1 := hc1 k (by omega)
        have c2 := hc2 k (by omega)
        have hS := hide (cmp_step a b k (by omega) (by omega) (unhide hI))
        unfold elByte bv at c1 c2
        rw [Nat.mul_one] at c1 c2
        have i1 : (k : Int) < (a.length : Int) := by omega
        have i2 : (k : Int) < (b.length : Int) := by omega
        clear hc1 hc2 hs hsb hI hH
        generalize (a[k]'(by omega)).toNat = x at *
        generalize (b[k]'(by omega)).toNat = y at *
        by_cases hxy : x = y
        · subst hxy
          have hS2 : Hid (cmpL a b = cmpL (a.drop (k + 1)) (b.drop (k + 1))) := by
            have := unhide hS
            rw [if_pos rfl] at this; exact this
          clear hS
          go_wp2
          go_quiet (fail)
          go_wp2
          go_roundw
          case rel => exact ⟨k + 1, q + nq, by omega, by go_num, by simp, hS2⟩
          case measure => simp [intOf]; omega
        · have hxy' : ¬ ((x : Int) = (y : Int)) := by omega
          by_cases hl : (x : Int) < (y : Int)
          · have hS2 : Hid (cmpL a b = -1) := by
              have := unhide hS
              rw [if_neg hxy, if_pos (by omega)] at this; exact this
            clear hS
            go_wp2
            go_quiet (fail)
            go_wp2
            go_quiet (fail)
            go_wp2
            go_ret
            exact ⟨by rw [unhide hS2]; rfl, _, by simp; rfl⟩
          · have hS2 : Hid (cmpL a b = 1) := by
              have := unhide hS
              rw [if_neg hxy, if_neg (by omega)] at this; exact this
            clear hS
            go_wp2
            go_quiet (fail)
            go_wp2
            go_quiet (fail)
            go_wp2
            go_ret
            exact ⟨by rw [unhide hS2]; rfl, _, by simp; rfl⟩
      · have hkn : k = a.length := by omega
        subst hkn
        have hS := cmp_end a b _ (by omega) (by omega) (.inl rfl) (unhide hI)
        clear hs hsb hI hH
        by_cases e1 : a.length < b.length
        · rw [if_pos e1] at hS
          have HS := hide hS
          clear hS
          go_wp2
          go_ret
          exact ⟨by rw [unhide HS]; rfl, _, rfl⟩
        · rw [if_neg e1] at hS
          by_cases e2 : b.length < a.length
          · rw [if_pos e2] at hS
            have HS := hide hS
            clear hS
            go_wp2
            go_ret
            exact ⟨by rw [unhide HS]; rfl, _, rfl⟩
          · rw [if_neg e2] at hS
            have HS := hide hS
            clear hS
            go_wp2
            go_ret
            exact ⟨by rw [unhide HS]; rfl, _, rfl⟩
end Go.Proofs.Qxb6600910a
