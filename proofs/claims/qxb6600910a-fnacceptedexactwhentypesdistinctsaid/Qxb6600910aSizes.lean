/-
  zzAdd (25), zzAddN (34), zzSizeTransforms (11), zzSizeProposals (19), zzBytes_.. (18): what they answer.
-/
import Derived.Test.Qxb6600910aMem
import Derived.Test.Qxb6600910aProg
namespace Go.Proofs.Qxb6600910a
open Go.RowKit

theorem add_any (n k : Int) (w : World) (hn : -9223372036854775808 ≤ n ∧ n ≤ 9223372036854775807) (hk : -9223372036854775808 ≤ k ∧ k ≤ 9223372036854775807) : Calls Try.prog 25 #[.int .i64 n, .int .i64 k] w (AnsI w) := by
  go_enter Try.func25, Try.ntmps25
  go_wp2
  all_goals
    go_ret
    exact AnsI.mk _ (by omega) (by omega)

set_option maxHeartbeats 400000 in
theorem addN32_any (n : Int) (c : Nat) (w : World) (hn : -9223372036854775808 ≤ n ∧ n ≤ 9223372036854775807) (hc : c ≤ 9223372036854775807) : Calls Try.prog 34 #[.int .i64 n, .int .i64 c, .int .i64 32] w (AnsI w) := by
  have hq : (1048576 : Int).tdiv 32 = 32768 := by decide
  by_cases h : (c : Int) ≤ 32768
  · go_enter Try.func34, Try.ntmps34
    go_wp2_with fail
    refine (add_any _ _ w hn (by omega)).mono ?_
    rintro e w ⟨t, rfl, rfl, h0, h1⟩
    go_wp2
    go_ret
    exact AnsI.mk _ h0 h1
  · go_enter Try.func34, Try.ntmps34
    go_wp2
    go_ret
    exact AnsI.mk _ (by omega) (by omega)

set_option maxHeartbeats 400000 in
theorem addN56_any (n : Int) (c : Nat) (w : World) (hn : -9223372036854775808 ≤ n ∧ n ≤ 9223372036854775807) (hc : c ≤ 9223372036854775807) : Calls Try.prog 34 #[.int .i64 n, .int .i64 c, .int .i64 56] w (AnsI w) := by
  have hq : (1048576 : Int).tdiv 56 = 18724 := by decide
  by_cases h : (c : Int) ≤ 18724
  · go_enter Try.func34, Try.ntmps34
    go_wp2_with fail
    refine (add_any _ _ w hn (by omega)).mono ?_
    rintro e w ⟨t, rfl, rfl, h0, h1⟩
    go_wp2
    go_ret
    exact AnsI.mk _ h0 h1
  · go_enter Try.func34, Try.ntmps34
    go_wp2
    go_ret
    exact AnsI.mk _ (by omega) (by omega)

set_option maxHeartbeats 1000000 in
theorem sizeTr_any (n : Int) (v : Value) (ts : List Trans) (w : World) (p : Nat → Prop) (hn : 0 ≤ n ∧ n ≤ 1048577) (h : IsTranses p w v ts) (hl : ts.length ≤ 1048576) (hT : ∀ t ∈ ts, LT 1048576 t) :
    Calls Try.prog 11 #[.int .i64 n, v] w (AnsI w) := by
  obtain ⟨ao, cap, rfl, hz, hs⟩ := h
  have HT := hide hT
  clear hT
  go_enter Try.func11, Try.ntmps11
  go_wp2_with fail
  refine (addN32_any n ts.length w (by omega) (by omega)).mono ?_
  rintro e w ⟨t0, rfl, rfl, ht0, ht1⟩
  go_wp2
  go_loop [0, 5] (fun x i => ∃ (k : Nat) (t : Int), k ≤ ts.length ∧ 0 ≤ t ∧ t ≤ 1048577 ∧ x = .int .i64 t ∧ i = .int .i64 k) (fun _ i => ts.length - (intOf i).toNat)
  case atStart => exact ⟨0, t0, Nat.zero_le _, ht0, ht1, rfl, rfl⟩
  case round =>
    clear ht0 ht1 hn
    obtain ⟨k, t, hk, ht0, ht1, rfl, rfl⟩ := hrel
    by_cases hlt : k < ts.length
    · by_cases htl : t ≤ 1048576
      · obtain ⟨b, off, rfl, -, hel⟩ := hs (by omega)
        obtain ⟨va, hc2, ao', cap', rfl, -, hs'⟩ := (hel k hlt).c2
        obtain ⟨hA1, hA2⟩ := unhide HT _ (List.getElem_mem hlt)
        generalize ts[k] = tr at *
        have HA := hide hA2
        clear hel hA2 hs
        go_wp2_with fail
        refine (addN32_any t tr.attrs.length w (by omega) (by omega)).mono ?_
        rintro e w ⟨t1, rfl, rfl, hu0, hu1⟩
        go_wp2
        go_loop [0, 7] (fun x i => ∃ (j : Nat) (t : Int), j ≤ tr.attrs.length ∧ 0 ≤ t ∧ t ≤ 1048577 ∧ x = .int .i64 t ∧ i = .int .i64 j) (fun _ i => tr.attrs.length - (intOf i).toNat)
        case atStart => exact ⟨0, t1, Nat.zero_le _, hu0, hu1, rfl, rfl⟩
        case round =>
          clear hu0 hu1
          obtain ⟨j, s, hj, hs0, hs1, rfl, rfl⟩ := hrel
          by_cases hjl : j < tr.attrs.length
          · by_cases hsl : s ≤ 1048576
            · obtain ⟨b', off', rfl, -, hel'⟩ := hs' (by omega)
              obtain ⟨vb, hc3, ao'', cap'', rfl, -, -⟩ := (hel' j hjl).c2
              have hV := unhide HA _ (List.getElem_mem hjl)
              generalize tr.attrs[j] = at' at *
              clear hel' hs'
              go_wp2_with fail
              refine (add_any _ _ w (by omega) (by omega)).mono ?_
              rintro e w ⟨t2, rfl, rfl, hq0, hq1⟩
              go_wp2
              go_round
              case rel => exact ⟨j + 1, _, by omega, hq0, hq1, rfl, by go_num⟩
              case measure => simp [intOf]; omega
            · clear hs'
              go_wp2
              go_round
              case rel => exact ⟨k + 1, _, by omega, hs0, hs1, rfl, by go_num⟩
              case measure => simp [intOf]; omega
          · clear hs'
            go_wp2
            go_round
            case rel => exact ⟨k + 1, _, by omega, hs0, hs1, rfl, by go_num⟩
            case measure => simp [intOf]; omega
      · clear hs
        go_wp2
        go_ret
        exact AnsI.mk _ ht0 ht1
    · clear hs
      go_wp2
      go_ret
      exact AnsI.mk _ ht0 ht1

set_option maxHeartbeats 1000000 in
theorem sizePr_any (n : Int) (v : Value) (ps : List Prp) (w : World) (p : Nat → Prop) (hn : 0 ≤ n ∧ n ≤ 1048577) (h : IsPrps p w v ps) (hl : ps.length ≤ 1048576) (hT : ∀ q ∈ ps, LP 1048576 q) :
    Calls Try.prog 19 #[.int .i64 n, v] w (AnsI w) := by
  obtain ⟨ao, cap, rfl, hz, hs⟩ := h
  have HT := hide hT
  clear hT
  go_enter Try.func19, Try.ntmps19
  go_wp2_with fail
  refine (addN56_any n ps.length w (by omega) (by omega)).mono ?_
  rintro e w ⟨t0, rfl, rfl, ht0, ht1⟩
  go_wp2
  go_loop [0, 5] (fun x i => ∃ (k : Nat) (t : Int), k ≤ ps.length ∧ 0 ≤ t ∧ t ≤ 1048577 ∧ x = .int .i64 t ∧ i = .int .i64 k) (fun _ i => ps.length - (intOf i).toNat)
  case atStart => exact ⟨0, t0, Nat.zero_le _, ht0, ht1, rfl, rfl⟩
  case round =>
    clear ht0 ht1 hn
    obtain ⟨k, t, hk, ht0, ht1, rfl, rfl⟩ := hrel
    by_cases hlt : k < ps.length
    · by_cases htl : t ≤ 1048576
      · obtain ⟨b, off, rfl, -, hel⟩ := hs (by omega)
        obtain ⟨va, hc2, ao', cap', rfl, -, -⟩ := (hel k hlt).c2
        obtain ⟨vt, hc3, hTr⟩ := (hel k hlt).c3
        obtain ⟨hA0, hA1, hA2⟩ := unhide HT _ (List.getElem_mem hlt)
        generalize ps[k] = pr at *
        have HA := hide hA2
        have HTr := hide hTr
        obtain ⟨ao3, cap3, rfl, -, -⟩ := hTr
        clear hel hA2 hs
        go_wp2_with fail
        refine (add_any _ _ w (by omega) (by omega)).mono ?_
        rintro e w ⟨t1, rfl, rfl, hu0, hu1⟩
        go_wp2_with fail
        refine (sizeTr_any t1 _ pr.trs w p ⟨hu0, hu1⟩ (unhide HTr) hA1 (unhide HA)).mono ?_
        rintro e w ⟨t2, rfl, rfl, hq0, hq1⟩
        go_wp2
        go_round
        case rel => exact ⟨k + 1, _, by omega, hq0, hq1, rfl, by go_num⟩
        case measure => simp [intOf]; omega
      · clear hs
        go_wp2
        go_ret
        exact AnsI.mk _ ht0 ht1
    · clear hs
      go_wp2
      go_ret
      exact AnsI.mk _ ht0 ht1

end Go.Proofs.Qxb6600910a
