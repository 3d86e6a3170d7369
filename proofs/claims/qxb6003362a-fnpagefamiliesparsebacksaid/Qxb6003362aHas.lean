/-
  hasAtZZ (function 15): where the bytes at pos are those of s, it answers true.
-/
import Derived.Test.Qxb6003362aPlain
import Derived.Test.Qxb6003362aProg
import Derived.BigQuiet
namespace Go.Proofs.Qxb6003362a
open Go.RowKit

set_option maxHeartbeats 400000 in
theorem hasAt_true (g n cap pos : Nat) (s : ByteArray) (w : World) (hn : n ≤ 1099511627776) (hs : pos + s.size ≤ n) (hseg : Seg w g pos s.data.toList) :
    Calls Try.prog 15 #[.slice (some ⟨g, 0, none⟩) n cap, .int .i64 pos, .string s] w fun e w' => e = .returned (.bool true) ∧ ∃ q, w' = w.drewN q := by
  have h1 : ¬ ((pos : Int) < 0) := by omega
  have h2 : ¬ ((n : Int) < pos) := by omega
  have h3 : ¬ ((n : Int) - pos < s.size) := by omega
  go_enter Try.func15, Try.ntmps15
  go_wp2
  go_loopw [7] (fun i wr => ∃ k q : Nat, k ≤ s.size ∧ i = .int .i64 k ∧ wr = w.drewN q) (fun i _ => s.size - (intOf i).toNat)
  case atStart => exact ⟨0, 0, Nat.zero_le _, rfl, rfl⟩
  case round =>
    obtain ⟨k, q, hk, rfl, rfl⟩ := hrel
    by_cases hlt : k < s.size
    · have hc : w.cell? ⟨g, pos + k, none⟩ = some (.int .u8 (s[k].toNat : Int)) := hseg k (by simpa using hlt)
      have hlt' : (k : Int) < (s.size : Int) := by omega
      have hp0 : (0 : Int) ≤ (pos : Int) + k := by omega
      have hp1 : (pos : Int) + k < n := by omega
      go_wp2
      go_quiet (fail)
      go_wp2
      go_roundw
      case rel => exact ⟨k + 1, q + nq, by omega, by go_num, by simp⟩
      case measure => simp [intOf]; omega
    · go_wp2
      go_ret
      exact ⟨rfl, q, rfl⟩
end Go.Proofs.Qxb6003362a
