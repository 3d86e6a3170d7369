/-
  FnCountRepairAgreesWithFull (8).
-/
import Derived.Test.Qxb6003464aIdem
namespace Go.Proofs.Qxb6003464a
open Go.RowKit

/-- The ends that the repair starts from: right before c, stale from c on. -/
def mixed (L : Nat → Nat) (n1 : Nat) (f1 : Nat → Int) (n c : Nat) (i : Nat) : Int := if i < c then cntTo L (pick n1 f1) 0 n i else pick n1 f1 i
theorem mixed_lt {L : Nat → Nat} {n1 : Nat} {f1 : Nat → Int} {n c i : Nat} (h : i < c) : mixed L n1 f1 n c i = cntTo L (pick n1 f1) 0 n i := if_pos h
theorem mixed_ge {L : Nat → Nat} {n1 : Nat} {f1 : Nat → Int} {n c i : Nat} (h : ¬ i < c) : mixed L n1 f1 n c i = pick n1 f1 i := if_neg h
theorem pick_mixed {L : Nat → Nat} {n1 : Nat} {f1 : Nat → Int} {n c i : Nat} (h : i < c) (hn : i < n) : pick n (mixed L n1 f1 n c) i = cntTo L (pick n1 f1) 0 n i := by
  unfold pick
  rw [if_pos hn]
  exact mixed_lt h

set_option maxHeartbeats 4000000 in
set_option maxRecDepth 100000 in
theorem repair_any (a0 a1 : Option Addr) (n c0 n1 c1 : Nat) (z : Int) (L : Nat → Nat) (G : Nat → Nat → Int) (f1 : Nat → Int) (w : World)
    (hn : n ≤ 9223372036854775807) (hn1 : n1 ≤ 9223372036854775807) (hL : ∀ r, r < n → L r ≤ 9223372036854775807)
    (hz0 : a0 = none → n = 0) (hz1 : a1 = none → n1 = 0)
    (h0 : RowsOn (· < w.heap.size) w a0 n L G) (h1 : SeqOn (· < w.heap.size) w a1 n1 (fun j => .int .i64 (f1 j))) :
    Calls Try.prog 8 #[.slice a0 n c0, .slice a1 n1 c1, .int .i64 z] w (Law w) := by
  go_enter Try.func8, Try.ntmps8
  go_wp2_with fail
  refine (zzRepair_any a0 a1 n c0 n1 c1 z L G w _ hn hn1 h0 hL).mono ?_
  rintro e w ⟨r, rfl, rfl, hr⟩
  cases r
  · clear hr h0 h1 hL hz0 hz1
    go_wp2
    go_ret
    exact ⟨rfl, Below.refl _ _⟩
  clear hn hn1 hL
  obtain ⟨hn, hL, hn1⟩ := hr rfl
  clear hr
  have HL := hide hL
  clear hL
  go_wp2_with fail
  refine (b2Bytes_any a0 a1 none none n c0 n1 c1 0 0 0 0 L G w _ hn hn1 (by omega) (by omega) h0 (unhide HL)).mono ?_
  rintro e w ⟨t, rfl, rfl⟩
  by_cases ht : 1048576 < t
  · clear h0 h1 hz0 hz1
    go_wp2
    go_ret
    exact ⟨rfl, Below.refl _ _⟩
  by_cases hzc : 0 ≤ z ∧ z ≤ n
  case neg =>
    clear h0 h1 hz0 hz1
    go_wp2
    all_goals
      first
        | (exfalso; omega)
        | (go_ret; exact ⟨rfl, Below.refl _ _⟩)
  obtain ⟨c, rfl⟩ := Int.eq_ofNat_of_zero_le hzc.1
  have hc : c ≤ n := by omega
  clear hzc
  go_wp2_with fail
  refine (cloneRows_any a0 n c0 L G w hn (unhide HL) hz0 h0).mono ?_
  rintro e w1 ⟨b0, d0, rfl, hB1, -, h0'⟩
  replace h1 := (h1.below hB1 (fun b hb => hb)).mono (fun b hb => Nat.lt_of_lt_of_le hb hB1.size)
  go_wp2_with fail
  refine (cloneInts_any a1 n1 c1 f1 w1 hn1 hz1 h1).mono ?_
  rintro e w2 ⟨b1, d1, rfl, hB2, -, h1'⟩
  replace h0' := (h0'.below hB2 (fun b hb => hb.2)).mono (p' := (· < w2.heap.size)) (fun b hb => Nat.lt_of_lt_of_le hb.2 hB2.size)
  replace h1' := h1'.mono (p' := (· < w2.heap.size)) (fun b hb => hb.2)
  have hB : Below w.heap.size w w2 := hB1.trans (hB2.mono hB1.size)
  clear h0 h1 hz0 hz1 hB1 hB2
  go_wp2_with fail
  refine (build_any b0 b1 none none n d0 n1 d1 0 0 0 0 L G f1 (fun _ => 0) (fun _ => false) w2 hn hn1 (by omega) (by omega) (unhide HL) h0' h1' (seq_nil _ _ _) (seq_nil _ _ _)).mono ?_
  rintro e w3 ⟨rfl, hBu⟩
  go_wp2_with fail
  refine (newList_any w2.heap.size n w3).mono ?_
  rintro e w4 ⟨rfl, rfl⟩
  obtain ⟨I, hLi, -⟩ := list_of_built hBu
  have hB3 : Below w.heap.size w (w3.alloc (.cells #[.slice (some ⟨w2.heap.size, 0, none⟩) n n, .int .i64 64] 71)) :=
    (hB.trans (hBu.bel.mono hB.size)).alloc (Nat.le_trans hB.size hBu.bel.size) _
  have hlt3 := hBu.lt
  have hs2 := hB.size
  have hs3 := hBu.bel.size
  replace h0' := (h0'.below hBu.bel (fun b hb => hb))
  replace h1' := (h1'.below hBu.bel (fun b hb => hb))
  clear hB hBu
  replace h0' := h0'.keep (w' := w3.alloc (.cells #[.slice (some ⟨w2.heap.size, 0, none⟩) n n, .int .i64 64] 71)) (fun b hb => Below.heap_alloc _ _ _ (by omega))
  replace h1' := h1'.keep (w' := w3.alloc (.cells #[.slice (some ⟨w2.heap.size, 0, none⟩) n n, .int .i64 64] 71)) (fun b hb => Below.heap_alloc _ _ _ (by omega))
  generalize hW4 : w3.alloc (.cells #[.slice (some ⟨w2.heap.size, 0, none⟩) n n, .int .i64 64] 71) = W4 at *
  have hW4s : w3.heap.size + 1 = W4.heap.size := by rw [← hW4, World.size_alloc]
  clear hW4
  go_wp2_with fail
  refine (listCount_any hLi 0 (Nat.zero_le _) hn (unhide HL)).mono ?_
  rintro e w5 ⟨rfl, hL5, hg5⟩
  rw [Nat.sub_zero] at hL5
  have hs5 := hg5.size
  have hB5 : Below w.heap.size w w5 := below_grown hB3 hg5 (by omega) hs2
  replace h0' := h0'.keep (w' := w5) (fun b hb => hg5.block b (by omega) (by simp; omega))
  replace h1' := h1'.keep (w' := w5) (fun b hb => hg5.block b (by omega) (by simp; omega))
  clear hLi hB3 hg5
  go_wp2_with fail
  refine (ends_any hL5 hn).mono ?_
  rintro e w6 ⟨rfl, hb6, hs6, hc6⟩
  have hB6 : Below w.heap.size w w6 := hB5.trans (hb6.mono (by omega))
  replace h0' := h0'.below hb6 (fun b hb => by omega)
  replace h1' := h1'.below hb6 (fun b hb => by omega)
  clear hL5 hb6 hB5
  have HC6 := hide hc6
  clear hc6
  -- mixed
  obtain ⟨i0, hi, hz0, hz1, hz2⟩ := info_parts info3'
  go_wp2_with (at_make; go_must (refine wpList_make_full _ rfl _ _ 39 rfl w6.heap.size 3 i0 (.int .i64 0) 1 Try.underlying39 hi hz0 hz1 .i64 .i64 (n : Int) (n : Int) n rfl rfl rfl rfl (by rw [hz2]; omega) (by unfold maxLen; omega) (Nat.le_refl _) ?_))
  intro w7 hown hg
  have hb1 : Below w6.heap.size w6 w7 := (Below.refl _ _).grown hg (Nat.le_refl _) (fun k h => by cases h)
  have hown1 : w7.ownsRow w6.heap.size 3 1 (.slice (some ⟨w6.heap.size, 0, none⟩) n n) n (fillTo (fun j => .int .i64 (mixed L n1 f1 n c j)) (.int .i64 0) n 0) := by
    rw [fillTo_zero]; simpa [Value.cells, toList_madeCells_one] using hown
  clear hown hg hi hz0 hz1 hz2
  go_wp2
  go_loopw [10] (fun i wr => ∃ k : Nat, k ≤ n ∧ i = .int .i64 k ∧ wr.ownsRow w6.heap.size 3 1 (.slice (some ⟨w6.heap.size, 0, none⟩) n n) n (fillTo (fun j => .int .i64 (mixed L n1 f1 n c j)) (.int .i64 0) n k) ∧ Below w6.heap.size w6 wr) (fun i _ => n - (intOf i).toNat)
  case atStart => exact ⟨0, Nat.zero_le _, rfl, hown1, hb1⟩
  case round =>
    clear hown1 hb1
    obtain ⟨k, hk, rfl, hown, hb⟩ := hrel
    by_cases hlt : k < n
    · have hc2 : wr.cell? ⟨w6.heap.size, k, none⟩ = some (.int .i64 0) := by
        rw [hown.cellAt k (by omega), fillTo_any _ _ _ _ _ hlt, if_neg (by omega)]
      have hf2 : wr.frozen? ⟨w6.heap.size, k, none⟩ = false := hown.frozenAt k
      have hst1 : (wr.setCell ⟨w6.heap.size, k, none⟩ (.int .i64 (mixed L n1 f1 n c k))).ownsRow w6.heap.size 3 1 (.slice (some ⟨w6.heap.size, 0, none⟩) n n) n (fillTo (fun j => .int .i64 (mixed L n1 f1 n c j)) (.int .i64 0) n (k + 1)) := by
        have := (hown.stored k (.int .i64 (mixed L n1 f1 n c k))).1
        have e : (Value.int .i64 (mixed L n1 f1 n c k)) = (fun j => Value.int .i64 (mixed L n1 f1 n c j)) k := rfl
        rw [e, fillTo_set] at this
        exact this
      have H1 := hide hst1
      have H2 := hide (hb.setCell (Nat.le_refl w6.heap.size) (p := ⟨w6.heap.size, k, none⟩) (.int .i64 (mixed L n1 f1 n c k)))
      by_cases hkc : k < c
      · have hc6 : wr.cell? ⟨w5.heap.size, k, none⟩ = some (.int .i64 (mixed L n1 f1 n c k)) := by
          rw [hb.cell (p := ⟨w5.heap.size, k, none⟩) hs6, unhide HC6 k hlt, mixed_lt hkc]
        clear hst1 hown hb h0' h1'
        generalize mixed L n1 f1 n c k = x at *
        go_wp2
        go_roundw
        case rel => exact ⟨k + 1, by omega, by go_num, H1, H2⟩
        case measure => simp [intOf]; omega
      · have h1k := h1'.below hb (fun b hb => by omega)
        have hx : pick n1 f1 k = mixed L n1 f1 n c k := (mixed_ge hkc).symm
        clear hst1 hown hb h0' h1'
        go_wp2_with fail
        refine (endAt_any b1 n1 d1 k f1 wr _ hn1 (by omega) h1k).mono ?_
        rintro e _ ⟨rfl, rfl⟩
        rw [hx]
        clear hx h1k
        generalize mixed L n1 f1 n c k = x at *
        go_wp2
        go_roundw
        case rel => exact ⟨k + 1, by omega, by go_num, H1, H2⟩
        case measure => simp [intOf]; omega
    have hkn : k = n := by omega
    subst hkn
    have hszr := (hown.lt w6.heap.size rfl).2
    have hmix : SeqOn (· < wr.heap.size) wr (some ⟨w6.heap.size, 0, none⟩) k (fun j => .int .i64 (mixed L n1 f1 k c j)) := fun _ => ⟨w6.heap.size, 0, rfl, hszr, fun j hj => by
      rw [Nat.zero_add, hown.cellAt j (by omega), fillTo_at _ _ _ _ _ hj hj]⟩
    have htr : ∀ j, j < k → wr.cell? ⟨w5.heap.size, j, none⟩ = some (.int .i64 (cntTo L (pick n1 f1) 0 k j)) := fun j hj => by
      rw [hb.cell (p := ⟨w5.heap.size, j, none⟩) hs6]; exact unhide HC6 j hj
    have HTR := hide htr
    have h0r : RowsOn (· < wr.heap.size) wr b0 k L G := (h0'.below hb (fun b hb => by omega)).mono (fun b hb => by omega)
    have hBr : Below w.heap.size w wr := hB6.trans (hb.mono (by omega))
    have hszw := hb.size
    clear htr HC6 hown hb hB6 h0' h1' hlt hk
    go_wp2_with fail
    refine (build_any b0 _ none none k d0 k _ 0 0 0 0 L G (mixed L n1 f1 k c) (fun _ => 0) (fun _ => false) wr hn hn (by omega) (by omega) (unhide HL) h0r hmix (seq_nil _ _ _) (seq_nil _ _ _)).mono ?_
    rintro e v3 ⟨rfl, hBu⟩
    go_wp2_with fail
    refine (newList_any wr.heap.size k v3).mono ?_
    rintro e v4 ⟨rfl, rfl⟩
    obtain ⟨J, hLi, -⟩ := list_of_built hBu
    have hltv := hBu.lt
    have hB3 : Below wr.heap.size wr (v3.alloc (.cells #[.slice (some ⟨wr.heap.size, 0, none⟩) k k, .int .i64 64] 71)) := hBu.bel.alloc hBu.bel.size _
    clear hBu h0r hmix
    generalize v3.alloc (.cells #[.slice (some ⟨wr.heap.size, 0, none⟩) k k, .int .i64 64] 71) = V4 at *
    have hsV := hB3.size
    go_wp2_with fail
    refine (listCount_any hLi c hc hn (unhide HL)).mono ?_
    rintro e v5 ⟨rfl, hL5, hg5⟩
    have hsv5 := hg5.size
    have hB5 : Below wr.heap.size wr v5 := below_grown hB3 hg5 (by omega) (Nat.le_refl _)
    clear hLi hB3 hg5
    go_wp2_with fail
    refine (ends_any hL5 hn).mono ?_
    rintro e v6 ⟨rfl, hb6, hs6', hc6⟩
    have hB6 : Below wr.heap.size wr v6 := hB5.trans (hb6.mono (by omega))
    have htr' : ∀ j, j < k → v6.cell? ⟨w5.heap.size, j, none⟩ = some (.int .i64 (cntTo L (pick n1 f1) 0 k j)) := fun j hj => by
      rw [hB6.cell (p := ⟨w5.heap.size, j, none⟩) (by show w5.heap.size < _; omega)]; exact unhide HTR j hj
    have hgot : ∀ j, j < k → v6.cell? ⟨v5.heap.size, j, none⟩ = some (.int .i64 (cntTo L (pick n1 f1) 0 k j)) := fun j hj => by
      rw [hc6 j hj, cnt_repair L (pick n1 f1) _ c k hc (fun i hi => pick_mixed hi (by omega)) j hj]
    have H7 := hide htr'
    have H8 := hide hgot
    have HB := hide (hBr.trans (hB6.mono (by omega)))
    clear hL5 hb6 hB5 hc6 htr' hgot hB6 hBr HTR
    go_wp2
    go_loopw [13] (fun i wx => ∃ m q : Nat, m ≤ k ∧ i = .int .i64 m ∧ wx = v6.drewN q) (fun i _ => k - (intOf i).toNat)
    case atStart => exact ⟨0, 0, Nat.zero_le _, rfl, rfl⟩
    case round =>
      obtain ⟨m, q, hm, rfl, rfl⟩ := hrel
      by_cases hlt : m < k
      · have e7 := unhide H7 m hlt
        have e8 := unhide H8 m hlt
        have i0 : (m : Int) < (k : Int) := by omega
        generalize cntTo L (pick n1 f1) 0 k m = x at *
        go_wp2
        go_quiet (fail)
        go_wp2
        go_roundw
        case rel => exact ⟨m + 1, q + nq, by omega, by go_num, by simp⟩
        case measure => simp [intOf]; omega
      · go_wp2
        go_ret
        exact ⟨rfl, below_drewN (unhide HB) q⟩
end Go.Proofs.Qxb6003464a
