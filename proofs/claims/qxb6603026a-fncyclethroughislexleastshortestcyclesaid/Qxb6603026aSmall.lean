/-
  zzBytes (19), wordsOf (10), depsInRange (11), hasEdge (24), sameInts (16).
-/
import Derived.Test.Qxb6603026aMem
import Derived.Test.Qxb6603026aProg
import Derived.BigQuiet
namespace Go.Proofs.Qxb6603026a
open Go.RowKit

theorem all_of {α : Type} {P : α → Prop} {l : List α} {k : Nat} (hk : l.length ≤ k) (h : ∀ j, (hj : j < l.length) → j < k → P l[j]) : ∀ a ∈ l, P a := fun a ha => by
  obtain ⟨i, hi, rfl⟩ := List.getElem_of_mem ha
  exact h i hi (by omega)
theorem step_of {α : Type} {P : α → Prop} {l : List α} {k : Nat} (hk : k < l.length) (h : ∀ j, (hj : j < l.length) → j < k → P l[j]) (h1 : P l[k]) : ∀ j, (hj : j < l.length) → j < k + 1 → P l[j] := fun j hj hjk => by
  by_cases e : j = k
  · subst e; exact h1
  · exact h j hj (by omega)

set_option maxHeartbeats 4000000 in
set_option maxRecDepth 100000 in
theorem zzBytes_any (x : Int) (v0 v2 : Value) (D : List (List Int)) (G : List Int) (w : World) (p : Nat → Prop) (h0 : IsRows p w v0 D) (h2 : IsInts p w v2 G)
    (hl : D.length ≤ 9223372036854775807) (hT : ∀ r ∈ D, r.length ≤ 9223372036854775807) (hl2 : G.length ≤ 9223372036854775807) :
    Calls Try.prog 19 #[v0, .int .i64 x, v2] w (AnsB w (D.length ≤ 1048576 ∧ (∀ r ∈ D, r.length ≤ 1048576) ∧ G.length ≤ 1048576)) := by
  obtain ⟨ao, cap, rfl, -, hs⟩ := h0
  obtain ⟨ao2, cap2, rfl, -, -⟩ := h2
  have HT := hide hT
  clear hT
  go_enter Try.func19, Try.ntmps19
  go_wp2
  · go_ret
    exact AnsB.no
  go_loop [7, 8] (fun z i => ∃ (k : Nat) (t : Int), k ≤ D.length ∧ 0 ≤ t ∧ t ≤ 1048576 ∧ z = .int .i64 t ∧ i = .int .i64 k ∧ Hid (∀ j, (hj : j < D.length) → j < k → D[j].length ≤ 1048576)) (fun _ i => D.length - (intOf i).toNat)
  case atStart => exact ⟨0, D.length, Nat.zero_le _, by omega, by omega, rfl, rfl, fun j _ hj => by omega⟩
  case round =>
    obtain ⟨k, t, hk, ht0, ht1, rfl, rfl, hd⟩ := hrel
    by_cases hlt : k < D.length
    · obtain ⟨b, off, rfl, -, hel⟩ := hs (by omega)
      obtain ⟨va, hc2, ao', cap', rfl, -, -⟩ := (hel k hlt).c0
      rw [Nat.mul_one] at hc2
      have hA1 := unhide HT _ (List.getElem_mem hlt)
      have HN := hide (fun a => hide (step_of (P := fun r : List Int => r.length ≤ 1048576) hlt (unhide hd) a))
      clear hd hel hs
      generalize D[k] = r at *
      go_wp2
      · go_ret
        exact AnsB.no
      · go_ret
        exact AnsB.no
      · go_round
        case rel => exact ⟨k + 1, _, by omega, by omega, by omega, rfl, by go_num, unhide HN (by omega)⟩
        case measure => simp [intOf]; omega
    · have hkn : k = D.length := by omega
      subst hkn
      have hall := hide (all_of (P := fun r : List Int => r.length ≤ 1048576) (Nat.le_refl _) (unhide hd))
      clear hd hs hlt
      go_wp2
      · go_ret
        exact AnsB.no
      · go_ret
        exact AnsB.no
      · go_ret
        exact AnsB.yes ⟨by omega, unhide hall, by omega⟩

set_option maxHeartbeats 4000000 in
theorem words_any (v0 : Value) (D : List (List Int)) (w : World) (p : Nat → Prop) (h0 : IsRows p w v0 D) (hl : D.length ≤ 1048576) (hT : ∀ r ∈ D, r.length ≤ 1048576) :
    Calls Try.prog 10 #[v0, .int .i64 131072] w (AnsI w) := by
  obtain ⟨ao, cap, rfl, -, hs⟩ := h0
  have HT := hide hT
  clear hT
  go_enter Try.func10, Try.ntmps10
  go_wp2
  · go_ret
    exact AnsI.mk _ (by omega) (by omega)
  go_loop [5, 6] (fun z i => ∃ (k : Nat) (t : Int), k ≤ D.length ∧ 0 ≤ t ∧ t ≤ 131072 ∧ z = .int .i64 t ∧ i = .int .i64 k) (fun _ i => D.length - (intOf i).toNat)
  case atStart => exact ⟨0, D.length, Nat.zero_le _, by omega, by omega, rfl, rfl⟩
  case round =>
    obtain ⟨k, t, hk, ht0, ht1, rfl, rfl⟩ := hrel
    by_cases hlt : k < D.length
    · obtain ⟨b, off, rfl, -, hel⟩ := hs (by omega)
      obtain ⟨va, hc2, ao', cap', rfl, -, -⟩ := (hel k hlt).c0
      rw [Nat.mul_one] at hc2
      have hA1 := unhide HT _ (List.getElem_mem hlt)
      clear hel hs
      generalize D[k] = r at *
      go_wp2
      · go_ret
        exact AnsI.mk _ (by omega) (by omega)
      · go_round
        case rel => exact ⟨k + 1, _, by omega, by omega, by omega, rfl, by go_num⟩
        case measure => simp [intOf]; omega
    · clear hs
      go_wp2
      go_ret
      exact AnsI.mk _ (by omega) (by omega)

set_option maxHeartbeats 4000000 in
theorem inRange_any (v0 : Value) (D : List (List Int)) (w : World) (p : Nat → Prop) (h0 : IsRows p w v0 D) (hl : D.length ≤ 1048576) (hT : ∀ r ∈ D, r.length ≤ 1048576) :
    Calls Try.prog 11 #[v0] w (AnsB w (∀ r ∈ D, ∀ x ∈ r, 0 ≤ x ∧ x < D.length)) := by
  obtain ⟨ao, cap, rfl, -, hs⟩ := h0
  have HT := hide hT
  clear hT
  go_enter Try.func11, Try.ntmps11
  go_wp2
  go_loop [4] (fun i => ∃ (k : Nat), k ≤ D.length ∧ i = .int .i64 k ∧ Hid (∀ j, (hj : j < D.length) → j < k → ∀ x ∈ D[j], 0 ≤ x ∧ x < D.length)) (fun i => D.length - (intOf i).toNat)
  case atStart => exact ⟨0, Nat.zero_le _, rfl, fun j _ hj => by omega⟩
  case round =>
    obtain ⟨k, hk, rfl, hd⟩ := hrel
    by_cases hlt : k < D.length
    · obtain ⟨b, off, rfl, -, hel⟩ := hs (by omega)
      obtain ⟨va, hc2, ao', cap', rfl, -, hs'⟩ := (hel k hlt).c0
      rw [Nat.mul_one] at hc2
      have hA1 := unhide HT _ (List.getElem_mem hlt)
      have HN := hide (fun a => hide (step_of (P := fun r : List Int => ∀ x ∈ r, 0 ≤ x ∧ x < D.length) hlt (unhide hd) a))
      clear hel hs hd
      generalize D[k] = r at *
      go_wp2
      go_loop [6] (fun i => ∃ (j : Nat), j ≤ r.length ∧ i = .int .i64 j ∧ Hid (∀ i, (hi : i < r.length) → i < j → 0 ≤ r[i] ∧ r[i] < D.length)) (fun i => r.length - (intOf i).toNat)
      case atStart => exact ⟨0, Nat.zero_le _, rfl, fun j _ hj => by omega⟩
      case round =>
        obtain ⟨j, hj, rfl, hd'⟩ := hrel
        by_cases hjl : j < r.length
        · obtain ⟨b', off', rfl, -, hel'⟩ := hs' (by omega)
          have t0 := hel' j hjl
          unfold elInt at t0
          rw [Nat.mul_one] at t0
          have HN' := hide (fun a => hide (step_of (P := fun x : Int => 0 ≤ x ∧ x < D.length) hjl (unhide hd') a))
          clear hel' hs' hd'
          generalize r[j] = x at *
          by_cases h1 : x < 0
          · go_wp2
            go_ret
            exact AnsB.no
          · by_cases h2 : x < (D.length : Int)
            · go_wp2
              go_round
              case rel => exact ⟨j + 1, by omega, by go_num, unhide HN' ⟨by omega, h2⟩⟩
              case measure => simp [intOf]; omega
            · go_wp2
              go_ret
              exact AnsB.no
        · have hjm : j = r.length := by omega
          subst hjm
          have hall := hide (all_of (P := fun x : Int => 0 ≤ x ∧ x < D.length) (Nat.le_refl _) (unhide hd'))
          clear hs' hd'
          go_wp2
          go_round
          case rel => exact ⟨k + 1, by omega, by go_num, unhide HN (unhide hall)⟩
          case measure => simp [intOf]; omega
    · have hkn : k = D.length := by omega
      subst hkn
      have hall := hide (all_of (P := fun r : List Int => ∀ x ∈ r, 0 ≤ x ∧ x < D.length) (Nat.le_refl _) (unhide hd))
      clear hd hs hlt
      go_wp2
      go_ret
      exact AnsB.yes (unhide hall)

/-- It answers r; the world is as it was. -/
def AnsR (w : World) (r : Bool) (e : Ending) (w' : World) : Prop := e = .returned (.bool r) ∧ w' = w

theorem contains_take (l : List Int) (x : Int) (k : Nat) (h : k < l.length) (h0 : (l.take k).contains x = false) (h1 : l[k] ≠ x) : (l.take (k + 1)).contains x = false := by
  rw [List.take_succ_eq_append_getElem h, List.contains_append, h0]
  simp [Ne.symm h1]

set_option maxHeartbeats 4000000 in
theorem hasEdge_any (v : Value) (l : List Int) (x : Int) (w : World) (p : Nat → Prop) (h0 : IsInts p w v l) (hl : l.length ≤ 1048576) :
    Calls Try.prog 24 #[v, .int .i64 x] w (AnsR w (decide (x ∈ l))) := by
  obtain ⟨ao, cap, rfl, -, hs⟩ := h0
  have hI0 : Hid ((l.take 0).contains x = false) := by show _ = _; simp
  go_enter Try.func24, Try.ntmps24
  go_wp2
  go_loop [5] (fun i => ∃ (k : Nat), k ≤ l.length ∧ i = .int .i64 k ∧ Hid ((l.take k).contains x = false)) (fun i => l.length - (intOf i).toNat)
  case atStart => exact ⟨0, Nat.zero_le _, rfl, hI0⟩
  case round =>
    obtain ⟨k, hk, rfl, hd⟩ := hrel
    by_cases hlt : k < l.length
    · obtain ⟨b, off, rfl, -, hel⟩ := hs (by omega)
      have t0 := hel k hlt
      unfold elInt at t0
      rw [Nat.mul_one] at t0
      by_cases hx : l[k] = x
      · have HC : Hid (decide (x ∈ l) = true) := by
          show _ = _
          rw [decide_eq_true_eq, ← hx]
          exact List.getElem_mem hlt
        rw [hx] at t0
        clear hel hs hd hI0 hx
        go_wp2
        go_ret
        exact ⟨by rw [unhide HC]; rfl, rfl⟩
      · have HN := hide (contains_take l x k hlt (unhide hd) hx)
        generalize l[k] = y at *
        have hx' : (y == x) = false := by simpa using hx
        clear hel hs hd hI0 hx
        go_wp2
        go_round
        case rel => exact ⟨k + 1, by omega, by go_num, HN⟩
        case measure => simp [intOf]; omega
    · have hkn : k = l.length := by omega
      subst hkn
      have HC : Hid (decide (x ∈ l) = false) := by
        have := unhide hd
        rw [List.take_of_length_le (Nat.le_refl _)] at this
        show _ = _
        simpa using this
      clear hd hs hlt hI0
      go_wp2
      go_ret
      exact ⟨by rw [unhide HC]; rfl, rfl⟩

/-- How a reader ends. -/
def Quiet (w : World) (v : Value) (e : Ending) (w' : World) : Prop := e = .returned v ∧ ∃ q, w' = w.drewN q

set_option maxHeartbeats 4000000 in
theorem same_any (va vb : Value) (a : List Int) (w : World) (p : Nat → Prop) (h1 : IsInts p w va a) (h2 : IsInts p w vb a) (la : a.length ≤ 1048576) :
    Calls Try.prog 16 #[va, vb] w (Quiet w (.bool true)) := by
  obtain ⟨ao, cap, rfl, -, hs⟩ := h1
  obtain ⟨bo, capb, rfl, -, hsb⟩ := h2
  go_enter Try.func16, Try.ntmps16
  go_wp2
  go_loopw [5] (fun i wr => ∃ k q : Nat, k ≤ a.length ∧ i = .int .i64 k ∧ wr = w.drewN q) (fun i _ => a.length - (intOf i).toNat)
  case atStart => exact ⟨0, 0, Nat.zero_le _, rfl, rfl⟩
  case round =>
    obtain ⟨k, q, hk, rfl, rfl⟩ := hrel
    by_cases hkn : k < a.length
    · obtain ⟨b1, o1, rfl, -, hc1⟩ := hs (by omega)
      obtain ⟨b2, o2, rfl, -, hc2⟩ := hsb (by omega)
      have c1 := hc1 k hkn
      have c2 := hc2 k hkn
      unfold elInt at c1 c2
      rw [Nat.mul_one] at c1 c2
      have i1 : (k : Int) < (a.length : Int) := by omega
      clear hc1 hc2 hs hsb
      generalize a[k] = x at *
      go_wp2
      go_quiet (fail)
      go_wp2
      go_roundw
      case rel => exact ⟨k + 1, q + nq, by omega, by go_num, by simp⟩
      case measure => simp [intOf]; omega
    · clear hs hsb
      go_wp2
      go_ret
      exact ⟨rfl, _, rfl⟩
end Go.Proofs.Qxb6603026a
