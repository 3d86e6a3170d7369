/-
  FnCountIdempotent (9).
-/
import Derived.Test.Qxb6003464aCount
import Derived.Test.Qxb6003464aRowsClone
import Derived.Test.Qxb6003464aSizes
import Derived.BigQuiet
import Derived.WalkSmall
namespace Go.Proofs.Qxb6003464a
open Go.RowKit

/-- How a law ends. -/
def Law (w : World) (e : Ending) (w' : World) : Prop := e = .returned (.bool true) ∧ Below w.heap.size w w'

theorem below_grown {B : Nat} {a w w' : World} {g : Nat} (h : Below B a w) (hg : w.grownBy w' (some g)) (hB : B ≤ w.heap.size) (hr : B ≤ g) : Below B a w' :=
  h.grown hg hB (fun k hk => by simp at hk; omega)

theorem seq_nil (p : Nat → Prop) (w : World) (f : Nat → Value) : SeqOn p w none 0 f := fun h => absurd h (by omega)

set_option maxHeartbeats 4000000 in
set_option maxRecDepth 100000 in
theorem idem_any (a0 a1 : Option Addr) (n c0 n1 c1 : Nat) (z : Int) (L : Nat → Nat) (G : Nat → Nat → Int) (f1 : Nat → Int) (w : World)
    (hn : n ≤ 9223372036854775807) (hn1 : n1 ≤ 9223372036854775807) (hL : ∀ r, r < n → L r ≤ 9223372036854775807)
    (hz0 : a0 = none → n = 0) (hz1 : a1 = none → n1 = 0)
    (h0 : RowsOn (· < w.heap.size) w a0 n L G) (h1 : SeqOn (· < w.heap.size) w a1 n1 (fun j => .int .i64 (f1 j))) :
    Calls Try.prog 9 #[.slice a0 n c0, .slice a1 n1 c1, .int .i64 z] w (Law w) := by
  go_enter Try.func9, Try.ntmps9
  go_wp2_with fail
  refine (zzIdem_any a0 a1 n c0 n1 c1 z L G w _ hn hn1 h0 hL).mono ?_
  rintro e w ⟨r, rfl, rfl, hr⟩
  cases r
  · clear hr h0 h1 hL hz0 hz1
    go_wp2
    go_ret
    exact ⟨rfl, Below.refl _ _⟩
  clear hn hn1 hL
  obtain ⟨hn, hL, hn1⟩ := hr rfl
  clear hr
  have HL := hide hL
  clear hL
  go_wp2_with fail
  refine (b2Bytes_any a0 a1 none none n c0 n1 c1 0 0 0 0 L G w _ hn hn1 (by omega) (by omega) h0 (unhide HL)).mono ?_
  rintro e w ⟨t, rfl, rfl⟩
  by_cases ht : 1048576 < t
  · clear h0 h1 hz0 hz1
    go_wp2
    go_ret
    exact ⟨rfl, Below.refl _ _⟩
  by_cases hzc : 0 ≤ z ∧ z ≤ n
  case neg =>
    clear h0 h1 hz0 hz1
    go_wp2
    all_goals
      first
        | (exfalso; omega)
        | (go_ret; exact ⟨rfl, Below.refl _ _⟩)
  obtain ⟨c, rfl⟩ := Int.eq_ofNat_of_zero_le hzc.1
  have hc : c ≤ n := by omega
  clear hzc
  go_wp2_with fail
  refine (cloneRows_any a0 n c0 L G w hn (unhide HL) hz0 h0).mono ?_
  rintro e w1 ⟨b0, d0, rfl, hB1, -, h0'⟩
  replace h1 := (h1.below hB1 (fun b hb => hb)).mono (fun b hb => Nat.lt_of_lt_of_le hb hB1.size)
  go_wp2_with fail
  refine (cloneInts_any a1 n1 c1 f1 w1 hn1 hz1 h1).mono ?_
  rintro e w2 ⟨b1, d1, rfl, hB2, -, h1'⟩
  replace h0' := (h0'.below hB2 (fun b hb => hb.2)).mono (p' := (· < w2.heap.size)) (fun b hb => Nat.lt_of_lt_of_le hb.2 hB2.size)
  replace h1' := h1'.mono (p' := (· < w2.heap.size)) (fun b hb => hb.2)
  have hB : Below w.heap.size w w2 := hB1.trans (hB2.mono hB1.size)
  clear h0 h1 hz0 hz1 hB1 hB2
  go_wp2_with fail
  refine (build_any b0 b1 none none n d0 n1 d1 0 0 0 0 L G f1 (fun _ => 0) (fun _ => false) w2 hn hn1 (by omega) (by omega) (unhide HL) h0' h1' (seq_nil _ _ _) (seq_nil _ _ _)).mono ?_
  rintro e w3 ⟨rfl, hBu⟩
  go_wp2_with fail
  refine (newList_any w2.heap.size n w3).mono ?_
  rintro e w4 ⟨rfl, rfl⟩
  obtain ⟨I, hLi, -⟩ := list_of_built hBu
  have hB3 : Below w.heap.size w (w3.alloc (.cells #[.slice (some ⟨w2.heap.size, 0, none⟩) n n, .int .i64 64] 71)) :=
    (hB.trans (hBu.bel.mono hB.size)).alloc (Nat.le_trans hB.size hBu.bel.size) _
  have hlt3 := hBu.lt
  have hs2 := hB.size
  clear hB hBu h0' h1'
  generalize hW4 : w3.alloc (.cells #[.slice (some ⟨w2.heap.size, 0, none⟩) n n, .int .i64 64] 71) = W4 at *
  have hW4s : w3.heap.size + 1 = W4.heap.size := by rw [← hW4, World.size_alloc]
  clear hW4
  go_wp2_with fail
  refine (listCount_any hLi c hc hn (unhide HL)).mono ?_
  rintro e w5 ⟨rfl, hL5, hg5⟩
  have hs5 := hg5.size
  have hB5 : Below w.heap.size w w5 := below_grown hB3 hg5 (by omega) hs2
  clear hLi hB3 hg5
  go_wp2_with fail
  refine (ends_any hL5 hn).mono ?_
  rintro e w6 ⟨rfl, hb6, hs6, hc6⟩
  have hL6 := hL5.keep hb6
  have hB6 : Below w.heap.size w w6 := hB5.trans (hb6.mono (by omega))
  clear hL5 hb6 hB5
  have HC6 := hide hc6
  clear hc6
  go_wp2_with fail
  refine (listCount_any hL6 c hc hn (unhide HL)).mono ?_
  rintro e w7 ⟨rfl, hL7, hg7⟩
  rw [cnt_twice] at hL7
  have hs7 := hg7.size
  have hB7 : Below w.heap.size w w7 := below_grown hB6 hg7 (by omega) hs2
  have hc7 : ∀ j, j < n → w7.cell? ⟨w5.heap.size, j, none⟩ = some (.int .i64 (cntTo L (pick n1 f1) c (n - c) j)) := fun j hj => by
    rw [World.cell?_of_block (a := ⟨w5.heap.size, j, none⟩) (hg7.block w5.heap.size hs6 (by simp; omega))]; exact unhide HC6 j hj
  have HC7 := hide hc7
  clear hc7 HC6 hL6 hg7 hB6
  go_wp2_with fail
  refine (ends_any hL7 hn).mono ?_
  rintro e w8 ⟨rfl, hb8, hs8, hc8⟩
  have hB8 : Below w.heap.size w w8 := hB7.trans (hb8.mono (by omega))
  have hc7 : ∀ j, j < n → w8.cell? ⟨w5.heap.size, j, none⟩ = some (.int .i64 (cntTo L (pick n1 f1) c (n - c) j)) := fun j hj => by
    rw [hb8.cell (p := ⟨w5.heap.size, j, none⟩) (by show w5.heap.size < _; omega)]; exact unhide HC7 j hj
  have H7 := hide hc7
  have H8 := hide hc8
  have HB := hide hB8
  clear hL7 hb8 hB7 HC7 hc7 hc8 hB8
  go_wp2
  go_loopw [10] (fun i wr => ∃ k q : Nat, k ≤ n ∧ i = .int .i64 k ∧ wr = w8.drewN q) (fun i _ => n - (intOf i).toNat)
  case atStart => exact ⟨0, 0, Nat.zero_le _, rfl, rfl⟩
  case round =>
    obtain ⟨k, q, hk, rfl, rfl⟩ := hrel
    by_cases hlt : k < n
    · have e7 := unhide H7 k hlt
      have e8 := unhide H8 k hlt
      have i0 : (k : Int) < (n : Int) := by omega
      generalize cntTo L (pick n1 f1) c (n - c) k = x at *
      go_wp2
      go_quiet (fail)
      go_wp2
      go_roundw
      case rel => exact ⟨k + 1, q + nq, by omega, by go_num, by simp⟩
      case measure => simp [intOf]; omega
    · go_wp2
      go_ret
      exact ⟨rfl, below_drewN (unhide HB) q⟩
end Go.Proofs.Qxb6003464a
