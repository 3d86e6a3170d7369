/-
  reverse (38).
-/
import Derived.Test.Qxb6603026aArr
import Derived.Test.Qxb6603026aProg
import Derived.BigQuiet
import Derived.Deep.RegionWith
namespace Go.Proofs.Qxb6603026a
open Go.RowKit

/-- The cells off .. off+n-1 turned about, those nearer to an end than a. -/
def revTo (off n a : Nat) (F : Nat → Value) (i : Nat) : Value := if off ≤ i ∧ i < off + n ∧ (i - off < a ∨ n ≤ i - off + a) then F (off + n - 1 - (i - off)) else F i

theorem revTo_step (off n a : Nat) (F : Nat → Value) (h : a + a + 1 < n) (i : Nat) : (if i = off + (n - 1 - a) then F (off + a) else if i = off + a then F (off + (n - 1 - a)) else revTo off n a F i) = revTo off n (a + 1) F i := by
  unfold revTo
  by_cases e1 : i = off + (n - 1 - a)
  · rw [if_pos e1, if_pos (by omega)]
    congr 1; omega
  · rw [if_neg e1]
    by_cases e2 : i = off + a
    · rw [if_pos e2, if_pos (by omega)]
      congr 1; omega
    · rw [if_neg e2]
      by_cases e3 : off ≤ i ∧ i < off + n ∧ (i - off < a ∨ n ≤ i - off + a)
      · rw [if_pos e3, if_pos (by omega)]
      · rw [if_neg e3, if_neg (by omega)]

/-- How reverse ends. -/
def Reved (w : World) (g N off n : Nat) (F : Nat → Value) (e : Ending) (w' : World) : Prop :=
  ∃ v a, e = .returned v ∧ n ≤ a + a + 1 ∧ Arr w' g N (revTo off n a F) ∧ w.grownBy w' (some g)

theorem grown_set {w w' : World} {g o : Nat} {u : Value} (h : w.grownBy w' (some g)) : w.grownBy (w'.setCell ⟨g, o, none⟩ u) (some g) :=
  ⟨h.os, h.tape, h.output, by rw [size_set]; exact h.size, fun k hk hne => by rw [heap_set _ (fun e => hne (by rw [e]))]; exact h.block k hk hne⟩
theorem grown_drewN {w w' : World} {g : Option Nat} (h : w.grownBy w' g) (q : Nat) : w.grownBy (w'.drewN q) g := ⟨h.os, h.tape, h.output, h.size, h.block⟩

set_option maxHeartbeats 4000000 in
theorem reverse_any (ao : Option Addr) (g N off n cap : Nat) (F : Nat → Value) (x : Nat → Int) (w : World) (hF : ∀ i, F i = .int .i64 (x i)) (hao : 0 < n → ao = some ⟨g, off, none⟩) (hN : off + n ≤ N) (hn : n ≤ 1048576) (hA : Arr w g N F) :
    Calls Try.prog 38 #[.slice ao n cap] w (Reved w g N off n F) := by
  have HF := hide hF
  clear hF
  have hA0 : Arr w g N (revTo off n 0 F) := hA.congr fun i _ => by unfold revTo; rw [if_neg (by omega)]
  clear hA
  go_enter Try.func38, Try.ntmps38
  go_wp2
  go_loopw [2, 3] (fun av bv wr => ∃ a : Nat, a ≤ n ∧ av = .int .i64 a ∧ bv = .int .i64 ((n : Int) - 1 - a) ∧ Arr wr g N (revTo off n a F) ∧ w.grownBy wr (some g)) (fun av _ _ => n - (intOf av).toNat)
  case atStart => exact ⟨0, Nat.zero_le _, rfl, by simp, hA0, World.grownBy.refl w _⟩
  case round =>
    clear hA0
    obtain ⟨a, ha, rfl, rfl, hA, hg⟩ := hrel
    by_cases hlt : a + a + 1 < n
    · obtain rfl := hao (by omega)
      obtain ⟨d, hd⟩ : ∃ d, n = a + d + 1 := ⟨n - 1 - a, by omega⟩
      have y0 : wr.cell? ⟨g, off + a, none⟩ = some (.int .i64 (x (off + a))) := by
        rw [hA.cell _ (by omega)]; unfold revTo; rw [if_neg (by omega), unhide HF]
      have y1 : wr.cell? ⟨g, off + d, none⟩ = some (.int .i64 (x (off + d))) := by
        rw [hA.cell _ (by omega)]; unfold revTo; rw [if_neg (by omega), unhide HF]
      have z0 := hA.frz (off + a)
      have z1 := hA.frz (off + d)
      have HA2 : Hid (∀ q, Arr (((wr.drewN q).setCell ⟨g, off + a, none⟩ (.int .i64 (x (off + d)))).setCell ⟨g, off + d, none⟩ (.int .i64 (x (off + a)))) g N (revTo off n (a + 1) F)) := fun q =>
        (((hA.drewN q).set (off + a) (by omega) (.int .i64 (x (off + d)))).set (off + d) (by omega) (.int .i64 (x (off + a)))).congr fun i _ => by
          rw [← revTo_step off n a F hlt i, unhide HF (off + a), unhide HF (off + (n - 1 - a)), show n - 1 - a = d by omega]
      have HG2 : Hid (∀ q, w.grownBy (((wr.drewN q).setCell ⟨g, off + a, none⟩ (.int .i64 (x (off + d)))).setCell ⟨g, off + d, none⟩ (.int .i64 (x (off + a)))) (some g)) := fun q => grown_set (grown_set (grown_drewN hg q))
      have e1 : ((n : Int) - 1 - a) = (d : Int) := by omega
      rw [e1]
      have hd1 : a < d := by omega
      have hd2 : d < n := by omega
      have hd3 : n ≤ a + d + 1 := by omega
      have hd4 : a + d + 1 ≤ n := by omega
      have i1 : (a : Int) < (n : Int) := by omega
      have i2 : (d : Int) < (n : Int) := by omega
      have i3 : (a : Int) < (d : Int) := by omega
      have ne1 : off + a ≠ off + d := by omega
      clear hA hg hd e1 HF
      generalize x (off + a) = xa at *
      generalize x (off + d) = xd at *
      go_wp2
      go_region
      all_goals
        go_wp2
        go_roundw
        case rel => exact ⟨a + 1, by omega, by go_num, by congr 1; omega, unhide HA2 1, unhide HG2 1⟩
        case measure => simp [intOf]; omega
    · have h1 : ¬ ((a : Int) < (n : Int) - 1 - a) := by omega
      have HA := hide hA
      have HG := hide hg
      clear hA hg
      go_wp2
      refine bodyPost_ret (v := .tuple #[]) (by simp [results, Try.results38, go_sem]) rfl ⟨_, a, rfl, by omega, unhide HA, unhide HG⟩
end Go.Proofs.Qxb6603026a
