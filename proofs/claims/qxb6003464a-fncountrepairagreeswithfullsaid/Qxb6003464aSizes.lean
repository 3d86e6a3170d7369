/-
  zzBytes_.. of the three laws (31, 33, 34); zzB2Bytes (22).
-/
import Derived.Test.Qxb6003464aPlain
import Derived.Test.Qxb6003464aProg
namespace Go.Proofs.Qxb6003464a
open Go.RowKit

/-- It answers a bool; the world is as it was; where it answers true, p holds. -/
def AnsB (w : World) (p : Prop) (e : Ending) (w' : World) : Prop := ∃ r : Bool, e = .returned (.bool r) ∧ w' = w ∧ (r = true → p)
theorem AnsB.no {w : World} {p : Prop} : AnsB w p (.returned (.bool false)) w := ⟨false, rfl, rfl, fun h => by cases h⟩
theorem AnsB.yes {w : World} {p : Prop} (h : p) : AnsB w p (.returned (.bool true)) w := ⟨true, rfl, rfl, fun _ => h⟩
/-- It answers an int; the world is as it was. -/
def AnsI (w : World) (e : Ending) (w' : World) : Prop := ∃ t : Int, e = .returned (.int .i64 t) ∧ w' = w
theorem AnsI.mk {w : World} (t : Int) : AnsI w (.returned (.int .i64 t)) w := ⟨t, rfl, rfl⟩

set_option maxHeartbeats 1000000 in
theorem zzRepair_any (a0 a1 : Option Addr) (n0 c0 n1 c1 : Nat) (z : Int) (L : Nat → Nat) (G : Nat → Nat → Int) (w : World) (p : Nat → Prop)
    (hn0 : n0 ≤ 9223372036854775807) (hn1 : n1 ≤ 9223372036854775807) (h0 : RowsOn p w a0 n0 L G) (hL : ∀ r, r < n0 → L r ≤ 9223372036854775807) :
    Calls Try.prog 31 #[.slice a0 n0 c0, .slice a1 n1 c1, .int .i64 z] w (AnsB w (n0 ≤ 1048576 ∧ (∀ r, r < n0 → L r ≤ 1048576) ∧ n1 ≤ 1048576)) := by
  obtain ⟨A, C, hR, hRr⟩ := h0
  clear hRr
  have HL := hide hL
  clear hL
  go_enter Try.func31, Try.ntmps31
  go_wp2
  · go_ret
    exact AnsB.no
  go_loop [7, 8] (fun z i => ∃ (k : Nat) (t : Int), k ≤ n0 ∧ 0 ≤ t ∧ t ≤ 1048576 ∧ z = .int .i64 t ∧ i = .int .i64 k ∧ Hid (∀ j, j < k → L j ≤ 1048576)) (fun _ i => n0 - (intOf i).toNat)
  case atStart => exact ⟨0, n0, Nat.zero_le _, by omega, by omega, rfl, rfl, fun j hj => by omega⟩
  case round =>
    obtain ⟨k, t, hk, ht0, ht1, rfl, rfl, hs⟩ := hrel
    by_cases hlt : k < n0
    · obtain ⟨b, off, ha, -, hc⟩ := hR (by omega)
      subst ha
      have hc1 := hc k hlt
      have hLk := unhide HL k hlt
      clear hc hR
      go_wp2
      · go_ret
        exact AnsB.no
      · go_ret
        exact AnsB.no
      · go_round
        case rel => exact ⟨k + 1, _, by omega, by omega, by omega, rfl, by go_num, fun j hj => by
          by_cases e : j = k
          · subst e; omega
          · exact unhide hs j (by omega)⟩
        case measure => simp [intOf]; omega
    · have hk0 : k = n0 := by omega
      subst hk0
      have hfin : ∀ r, r < k → L r ≤ 1048576 := unhide hs
      have HF := hide hfin
      clear hfin hR
      go_wp2
      all_goals
        go_ret
        first
          | exact AnsB.no
          | exact AnsB.yes ⟨by omega, unhide HF, by omega⟩

set_option maxHeartbeats 1000000 in
theorem zzIdem_any (a0 a1 : Option Addr) (n0 c0 n1 c1 : Nat) (z : Int) (L : Nat → Nat) (G : Nat → Nat → Int) (w : World) (p : Nat → Prop)
    (hn0 : n0 ≤ 9223372036854775807) (hn1 : n1 ≤ 9223372036854775807) (h0 : RowsOn p w a0 n0 L G) (hL : ∀ r, r < n0 → L r ≤ 9223372036854775807) :
    Calls Try.prog 33 #[.slice a0 n0 c0, .slice a1 n1 c1, .int .i64 z] w (AnsB w (n0 ≤ 1048576 ∧ (∀ r, r < n0 → L r ≤ 1048576) ∧ n1 ≤ 1048576)) := by
  obtain ⟨A, C, hR, hRr⟩ := h0
  clear hRr
  have HL := hide hL
  clear hL
  go_enter Try.func33, Try.ntmps33
  go_wp2
  · go_ret
    exact AnsB.no
  go_loop [7, 8] (fun z i => ∃ (k : Nat) (t : Int), k ≤ n0 ∧ 0 ≤ t ∧ t ≤ 1048576 ∧ z = .int .i64 t ∧ i = .int .i64 k ∧ Hid (∀ j, j < k → L j ≤ 1048576)) (fun _ i => n0 - (intOf i).toNat)
  case atStart => exact ⟨0, n0, Nat.zero_le _, by omega, by omega, rfl, rfl, fun j hj => by omega⟩
  case round =>
    obtain ⟨k, t, hk, ht0, ht1, rfl, rfl, hs⟩ := hrel
    by_cases hlt : k < n0
    · obtain ⟨b, off, ha, -, hc⟩ := hR (by omega)
      subst ha
      have hc1 := hc k hlt
      have hLk := unhide HL k hlt
      clear hc hR
      go_wp2
      · go_ret
        exact AnsB.no
      · go_ret
        exact AnsB.no
      · go_round
        case rel => exact ⟨k + 1, _, by omega, by omega, by omega, rfl, by go_num, fun j hj => by
          by_cases e : j = k
          · subst e; omega
          · exact unhide hs j (by omega)⟩
        case measure => simp [intOf]; omega
    · have hk0 : k = n0 := by omega
      subst hk0
      have hfin : ∀ r, r < k → L r ≤ 1048576 := unhide hs
      have HF := hide hfin
      clear hfin hR
      go_wp2
      all_goals
        go_ret
        first
          | exact AnsB.no
          | exact AnsB.yes ⟨by omega, unhide HF, by omega⟩

set_option maxHeartbeats 1000000 in
theorem zzTouch_any (a0 a1 a2 a3 : Option Addr) (n0 c0 n1 c1 n2 c2 n3 c3 : Nat) (z : Int) (L : Nat → Nat) (G : Nat → Nat → Int) (w : World) (p : Nat → Prop)
    (hn0 : n0 ≤ 9223372036854775807) (hn1 : n1 ≤ 9223372036854775807) (hn2 : n2 ≤ 9223372036854775807) (hn3 : n3 ≤ 9223372036854775807) (h0 : RowsOn p w a0 n0 L G) (hL : ∀ r, r < n0 → L r ≤ 9223372036854775807) :
    Calls Try.prog 34 #[.slice a0 n0 c0, .slice a1 n1 c1, .slice a2 n2 c2, .slice a3 n3 c3, .int .i64 z] w (AnsB w (n0 ≤ 1048576 ∧ (∀ r, r < n0 → L r ≤ 1048576) ∧ n1 ≤ 1048576 ∧ n2 ≤ 1048576 ∧ n3 ≤ 1048576)) := by
  obtain ⟨A, C, hR, hRr⟩ := h0
  clear hRr
  have HL := hide hL
  clear hL
  go_enter Try.func34, Try.ntmps34
  go_wp2
  · go_ret
    exact AnsB.no
  go_loop [11, 12] (fun z i => ∃ (k : Nat) (t : Int), k ≤ n0 ∧ 0 ≤ t ∧ t ≤ 1048576 ∧ z = .int .i64 t ∧ i = .int .i64 k ∧ Hid (∀ j, j < k → L j ≤ 1048576)) (fun _ i => n0 - (intOf i).toNat)
  case atStart => exact ⟨0, n0, Nat.zero_le _, by omega, by omega, rfl, rfl, fun j hj => by omega⟩
  case round =>
    obtain ⟨k, t, hk, ht0, ht1, rfl, rfl, hs⟩ := hrel
    by_cases hlt : k < n0
    · obtain ⟨b, off, ha, -, hc⟩ := hR (by omega)
      subst ha
      have hc1 := hc k hlt
      have hLk := unhide HL k hlt
      clear hc hR
      go_wp2
      · go_ret
        exact AnsB.no
      · go_ret
        exact AnsB.no
      · go_round
        case rel => exact ⟨k + 1, _, by omega, by omega, by omega, rfl, by go_num, fun j hj => by
          by_cases e : j = k
          · subst e; omega
          · exact unhide hs j (by omega)⟩
        case measure => simp [intOf]; omega
    · have hk0 : k = n0 := by omega
      subst hk0
      have hfin : ∀ r, r < k → L r ≤ 1048576 := unhide hs
      have HF := hide hfin
      clear hfin hR
      go_wp2
      all_goals
        go_ret
        first
          | exact AnsB.no
          | exact AnsB.yes ⟨by omega, unhide HF, by omega, by omega, by omega⟩

set_option maxHeartbeats 1000000 in
theorem b2Bytes_any (a0 a1 a2 a3 : Option Addr) (n0 c0 n1 c1 n2 c2 n3 c3 : Nat) (L : Nat → Nat) (G : Nat → Nat → Int) (w : World) (p : Nat → Prop)
    (hn0 : n0 ≤ 1048576) (hn1 : n1 ≤ 1048576) (hn2 : n2 ≤ 1048576) (hn3 : n3 ≤ 1048576) (h0 : RowsOn p w a0 n0 L G) (hL : ∀ r, r < n0 → L r ≤ 1048576) :
    Calls Try.prog 22 #[.slice a0 n0 c0, .slice a1 n1 c1, .slice a2 n2 c2, .slice a3 n3 c3] w (AnsI w) := by
  obtain ⟨A, C, hR, hRr⟩ := h0
  clear hRr
  have HL := hide hL
  clear hL
  go_enter Try.func22, Try.ntmps22
  go_wp2
  · go_ret
    exact AnsI.mk _
  go_loop [9, 10] (fun z i => ∃ (k : Nat) (t : Int), k ≤ n0 ∧ 0 ≤ t ∧ t ≤ 1048576 ∧ z = .int .i64 t ∧ i = .int .i64 k) (fun _ i => n0 - (intOf i).toNat)
  case atStart => exact ⟨0, _, Nat.zero_le _, by omega, by omega, rfl, rfl⟩
  case round =>
    obtain ⟨k, t, hk, ht0, ht1, rfl, rfl⟩ := hrel
    by_cases hlt : k < n0
    · obtain ⟨b, off, ha, -, hc⟩ := hR (by omega)
      subst ha
      have hc1 := hc k hlt
      have hLk := unhide HL k hlt
      clear hc hR
      go_wp2
      · go_ret
        exact AnsI.mk _
      · go_round
        case rel => exact ⟨k + 1, _, by omega, by omega, by omega, rfl, by go_num⟩
        case measure => simp [intOf]; omega
    · go_wp2
      go_ret
      exact AnsI.mk _

end Go.Proofs.Qxb6003464a
