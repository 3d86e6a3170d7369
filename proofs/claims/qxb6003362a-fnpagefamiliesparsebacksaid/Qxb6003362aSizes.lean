/-
  zzBytes_FnPageFamiliesParseBack (function 9): it answers a bool and leaves the world as it was.
-/
import Derived.Test.Qxb6003362aPlain
import Derived.Test.Qxb6003362aProg
namespace Go.Proofs.Qxb6003362a
open Go.RowKit

/-- It answers a bool; the world is as it was. -/
def AnsBool (w : World) (e : Ending) (w' : World) : Prop := ∃ r, e = .returned (.bool r) ∧ w' = w
theorem AnsBool.mk {w : World} (r : Bool) : AnsBool w (.returned (.bool r)) w := ⟨r, rfl, rfl⟩

set_option maxHeartbeats 1000000 in
theorem zzBytes_any (a0 a1 a2 : Option Addr) (n0 c0 n1 c1 n2 c2 : Nat) (f0 f1 : Nat → ByteArray) (w : World) (B : Nat)
    (hn0 : n0 ≤ 9223372036854775807) (hn1 : n1 ≤ 9223372036854775807) (hn2 : n2 ≤ 9223372036854775807)
    (h0 : SeqAt B w a0 n0 (fun j => .string (f0 j))) (h1 : SeqAt B w a1 n1 (fun j => .string (f1 j))) :
    Calls Try.prog 9 #[.slice a0 n0 c0, .slice a1 n1 c1, .slice a2 n2 c2] w (AnsBool w) := by
  go_enter Try.func9, Try.ntmps9
  go_wp2
  · go_ret
    exact AnsBool.mk _
  go_loop [7, 8] (fun z i => ∃ (k : Nat) (t : Int), k ≤ n0 ∧ 0 ≤ t ∧ t ≤ 1048576 ∧ z = .int .i64 t ∧ i = .int .i64 k) (fun _ i => n0 - (intOf i).toNat)
  case atStart => exact ⟨0, n0, Nat.zero_le _, by omega, by omega, rfl, rfl⟩
  case round =>
    obtain ⟨k, t, hk, ht0, ht1, rfl, rfl⟩ := hrel
    by_cases hlt : k < n0
    · obtain ⟨b, off, ha, -, hc⟩ := h0 (by omega)
      subst ha
      have hc1 := hc k hlt
      clear hc h0 h1
      go_wp2
      · go_ret
        exact AnsBool.mk _
      · go_ret
        exact AnsBool.mk _
      · go_round
        case rel => exact ⟨k + 1, _, by omega, by omega, by omega, rfl, by go_num⟩
        case measure => simp [intOf]; omega
    · go_wp2
      · go_ret
        exact AnsBool.mk _
      · go_ret
        exact AnsBool.mk _
      go_loop [7, 9] (fun z i => ∃ (k : Nat) (t : Int), k ≤ n1 ∧ 0 ≤ t ∧ t ≤ 1048576 ∧ z = .int .i64 t ∧ i = .int .i64 k) (fun _ i => n1 - (intOf i).toNat)
      case atStart => exact ⟨0, _, Nat.zero_le _, by omega, by omega, rfl, rfl⟩
      case round =>
        obtain ⟨k, t, hk, ht0, ht1, rfl, rfl⟩ := hrel
        by_cases hlt : k < n1
        · obtain ⟨b, off, ha, -, hc⟩ := h1 (by omega)
          subst ha
          have hc1 := hc k hlt
          clear hc h0 h1
          go_wp2
          · go_ret
            exact AnsBool.mk _
          · go_ret
            exact AnsBool.mk _
          · go_round
            case rel => exact ⟨k + 1, _, by omega, by omega, by omega, rfl, by go_num⟩
            case measure => simp [intOf]; omega
        · go_wp2
          all_goals
            go_ret
            exact AnsBool.mk _
end Go.Proofs.Qxb6003362a
