/-
  zzBytes_FnAcceptedExactWhenTypesDistinct (18).
-/
import Derived.Test.Qxb6600910aMem
import Derived.Test.Qxb6600910aProg
namespace Go.Proofs.Qxb6600910a
open Go.RowKit

theorem lt_next {ts : List Trans} {k : Nat} (hk : k < ts.length) (h : ∀ j, (hj : j < ts.length) → j < k → LT 1048576 ts[j]) (h1 : ts[k].attrs.length ≤ 1048576) (h2 : ∀ j, (hj : j < ts[k].attrs.length) → j < ts[k].attrs.length → ts[k].attrs[j].val.length ≤ 1048576) :
    ∀ j, (hj : j < ts.length) → j < k + 1 → LT 1048576 ts[j] := fun j hj hjk => by
  by_cases e : j = k
  · subst e
    refine ⟨h1, fun a ha => ?_⟩
    obtain ⟨i, hi, rfl⟩ := List.getElem_of_mem ha
    exact h2 i hi hi
  · exact h j hj (by omega)

theorem all_of {α : Type} {P : α → Prop} {l : List α} {k : Nat} (hk : l.length ≤ k) (h : ∀ j, (hj : j < l.length) → j < k → P l[j]) : ∀ a ∈ l, P a := fun a ha => by
  obtain ⟨i, hi, rfl⟩ := List.getElem_of_mem ha
  exact h i hi (by omega)

theorem step_of {α : Type} {P : α → Prop} {l : List α} {k : Nat} (hk : k < l.length) (h : ∀ j, (hj : j < l.length) → j < k → P l[j]) (h1 : P l[k]) : ∀ j, (hj : j < l.length) → j < k + 1 → P l[j] := fun j hj hjk => by
  by_cases e : j = k
  · subst e; exact h1
  · exact h j hj (by omega)

set_option maxHeartbeats 4000000 in
set_option maxRecDepth 100000 in
theorem zzBytes_any (x : Int) (y : Int) (v2 v3 : Value) (ts : List Trans) (ps : List Prp) (w : World) (p : Nat → Prop) (h2 : IsTranses p w v2 ts) (h3 : IsPrps p w v3 ps)
    (hl : ts.length ≤ 9223372036854775807) (hT : ∀ t ∈ ts, LT 9223372036854775807 t) (hl3 : ps.length ≤ 9223372036854775807) (hT3 : ∀ q ∈ ps, LP 9223372036854775807 q) :
    Calls Try.prog 18 #[.int .u8 x, .int .i64 y, v2, v3] w (AnsB w ((ts.length ≤ 1048576 ∧ ∀ t ∈ ts, LT 1048576 t) ∧ (ps.length ≤ 1048576 ∧ ∀ q ∈ ps, LP 1048576 q))) := by
  obtain ⟨ao, cap, rfl, hz, hs⟩ := h2
  obtain ⟨ao3, cap3, rfl, hz3, hs3⟩ := h3
  have HT := hide hT
  have HT3 := hide hT3
  clear hT hT3 hz hz3
  go_enter Try.func18, Try.ntmps18
  go_wp2
  · go_ret
    exact AnsB.no
  go_loop [9, 10] (fun z i => ∃ (k : Nat) (t : Int), k ≤ ts.length ∧ 0 ≤ t ∧ t ≤ 1048576 ∧ z = .int .i64 t ∧ i = .int .i64 k ∧ Hid (∀ j, (hj : j < ts.length) → j < k → LT 1048576 ts[j])) (fun _ i => ts.length - (intOf i).toNat)
  case atStart => exact ⟨0, ts.length, Nat.zero_le _, by omega, by omega, rfl, rfl, fun j _ hj => by omega⟩
  case round =>
    obtain ⟨k, t, hk, ht0, ht1, rfl, rfl, hd⟩ := hrel
    by_cases hlt : k < ts.length
    · obtain ⟨b, off, rfl, -, hel⟩ := hs (by omega)
      obtain ⟨va, hc2, ao', cap', rfl, -, hs'⟩ := (hel k hlt).c2
      obtain ⟨hA1, hA2⟩ := unhide HT _ (List.getElem_mem hlt)
      have hN := fun a b => hide (lt_next hlt (unhide hd) a b)
      have HN := hide hN
      clear hN hd
      generalize ts[k] = tr at *
      have HA := hide hA2
      clear hel hA2 hs hs3
      go_wp2
      · go_ret
        exact AnsB.no
      · go_ret
        exact AnsB.no
      go_loop [9, 11] (fun z i => ∃ (j : Nat) (t : Int), j ≤ tr.attrs.length ∧ 0 ≤ t ∧ t ≤ 1048576 ∧ z = .int .i64 t ∧ i = .int .i64 j ∧ Hid (∀ i, (hi : i < tr.attrs.length) → i < j → tr.attrs[i].val.length ≤ 1048576)) (fun _ i => tr.attrs.length - (intOf i).toNat)
      case atStart => exact ⟨0, _, Nat.zero_le _, by omega, by omega, rfl, rfl, fun j _ hj => by omega⟩
      case round =>
        obtain ⟨j, s, hj, hs0, hs1, rfl, rfl, hd'⟩ := hrel
        by_cases hjl : j < tr.attrs.length
        · obtain ⟨b', off', rfl, -, hel'⟩ := hs' (by omega)
          obtain ⟨vb, hc3, ao'', cap'', rfl, -, -⟩ := (hel' j hjl).c2
          have hV := unhide HA _ (List.getElem_mem hjl)
          have hN' := fun a => hide (step_of (P := fun a : Attr => a.val.length ≤ 1048576) hjl (unhide hd') a)
          have HN' := hide hN'
          clear hN' hd'
          generalize tr.attrs[j] = at' at *
          clear hel' hs'
          go_wp2
          · go_ret
            exact AnsB.no
          · go_ret
            exact AnsB.no
          · go_round
            case rel => exact ⟨j + 1, _, by omega, by omega, by omega, rfl, by go_num, unhide HN' (by omega)⟩
            case measure => simp [intOf]; omega
        · have hjm : j = tr.attrs.length := by omega
          subst hjm
          clear hs'
          go_wp2
          go_round
          case rel => exact ⟨k + 1, _, by omega, by omega, by omega, rfl, by go_num, unhide HN (by omega) (unhide hd')⟩
          case measure => simp [intOf]; omega
    have hkn : k = ts.length := by omega
    subst hkn
    have hall := hide (all_of (Nat.le_refl _) (unhide hd))
    clear hd hs hlt
    go_wp2
    · go_ret
      exact AnsB.no
    · go_ret
      exact AnsB.no
    go_loop [9, 12] (fun z i => ∃ (k : Nat) (t : Int), k ≤ ps.length ∧ 0 ≤ t ∧ t ≤ 1048576 ∧ z = .int .i64 t ∧ i = .int .i64 k ∧ Hid (∀ j, (hj : j < ps.length) → j < k → LP 1048576 ps[j])) (fun _ i => ps.length - (intOf i).toNat)
    case atStart => exact ⟨0, _, Nat.zero_le _, by omega, by omega, rfl, rfl, fun j _ hj => by omega⟩
    case round =>
      obtain ⟨n, r, hn, hr0, hr1, rfl, rfl, hd⟩ := hrel
      by_cases hlt : n < ps.length
      · obtain ⟨b, off, rfl, -, hel⟩ := hs3 (by omega)
        obtain ⟨vs, hcs, aos, caps, rfl, -, -⟩ := (hel n hlt).c2
        obtain ⟨vt, hct, aot, capt, rfl, -, hst⟩ := (hel n hlt).c3
        obtain ⟨hP0, hP1, hP2⟩ := unhide HT3 _ (List.getElem_mem hlt)
        have hNP := fun (a : LP 1048576 ps[n]) => hide (step_of (P := LP 1048576) hlt (unhide hd) a)
        have HNP := hide hNP
        clear hNP hd
        generalize ps[n] = pr at *
        have HP2 := hide hP2
        clear hel hs3 hP2
        go_wp2
        · go_ret
          exact AnsB.no
        · go_ret
          exact AnsB.no
        · go_ret
          exact AnsB.no
        · go_ret
          exact AnsB.no
        go_loop [9, 13] (fun z i => ∃ (k : Nat) (t : Int), k ≤ pr.trs.length ∧ 0 ≤ t ∧ t ≤ 1048576 ∧ z = .int .i64 t ∧ i = .int .i64 k ∧ Hid (∀ j, (hj : j < pr.trs.length) → j < k → LT 1048576 pr.trs[j])) (fun _ i => pr.trs.length - (intOf i).toNat)
        case atStart => exact ⟨0, _, Nat.zero_le _, by omega, by omega, rfl, rfl, fun j _ hj => by omega⟩
        case round =>
          obtain ⟨k, t', hk', ht0', ht1', rfl, rfl, hd⟩ := hrel
          by_cases hlt' : k < pr.trs.length
          · obtain ⟨b1, off1, rfl, -, hel⟩ := hst (by omega)
            obtain ⟨va, hc2, ao', cap', rfl, -, hs'⟩ := (hel k hlt').c2
            obtain ⟨hA1, hA2⟩ := unhide HP2 _ (List.getElem_mem hlt')
            have hN := fun a b => hide (lt_next hlt' (unhide hd) a b)
            have HN := hide hN
            clear hN hd
            generalize pr.trs[k] = tr at *
            have HA := hide hA2
            clear hel hA2 hst
            go_wp2
            · go_ret
              exact AnsB.no
            · go_ret
              exact AnsB.no
            go_loop [9, 14] (fun z i => ∃ (j : Nat) (t : Int), j ≤ tr.attrs.length ∧ 0 ≤ t ∧ t ≤ 1048576 ∧ z = .int .i64 t ∧ i = .int .i64 j ∧ Hid (∀ i, (hi : i < tr.attrs.length) → i < j → tr.attrs[i].val.length ≤ 1048576)) (fun _ i => tr.attrs.length - (intOf i).toNat)
            case atStart => exact ⟨0, _, Nat.zero_le _, by omega, by omega, rfl, rfl, fun j _ hj => by omega⟩
            case round =>
              obtain ⟨j, s, hj, hs0, hs1, rfl, rfl, hd'⟩ := hrel
              by_cases hjl : j < tr.attrs.length
              · obtain ⟨b', off', rfl, -, hel'⟩ := hs' (by omega)
                obtain ⟨vb, hc3, ao'', cap'', rfl, -, -⟩ := (hel' j hjl).c2
                have hV := unhide HA _ (List.getElem_mem hjl)
                have hN' := fun a => hide (step_of (P := fun a : Attr => a.val.length ≤ 1048576) hjl (unhide hd') a)
                have HN' := hide hN'
                clear hN' hd'
                generalize tr.attrs[j] = at' at *
                clear hel' hs'
                go_wp2
                · go_ret
                  exact AnsB.no
                · go_ret
                  exact AnsB.no
                · go_round
                  case rel => exact ⟨j + 1, _, by omega, by omega, by omega, rfl, by go_num, unhide HN' (by omega)⟩
                  case measure => simp [intOf]; omega
              · have hjm : j = tr.attrs.length := by omega
                subst hjm
                clear hs'
                go_wp2
                go_round
                case rel => exact ⟨k + 1, _, by omega, by omega, by omega, rfl, by go_num, unhide HN (by omega) (unhide hd')⟩
                case measure => simp [intOf]; omega
          · have hkm : k = pr.trs.length := by omega
            subst hkm
            have hall' := hide (all_of (Nat.le_refl _) (unhide hd))
            clear hst hd
            go_wp2
            go_round
            case rel => exact ⟨n + 1, _, by omega, by omega, by omega, rfl, by go_num, unhide HNP ⟨by omega, by omega, unhide hall'⟩⟩
            case measure => simp [intOf]; omega
      · have hnn : n = ps.length := by omega
        subst hnn
        have hall' := hide (all_of (Nat.le_refl _) (unhide hd))
        clear hd hs3
        go_wp2
        go_ret
        exact AnsB.yes ⟨⟨by omega, unhide hall⟩, ⟨by omega, unhide hall'⟩⟩
end Go.Proofs.Qxb6600910a
