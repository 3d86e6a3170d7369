/-
  FnCycleThroughIsLexLeastShortestCycle (5): the law itself.
-/
import Derived.Test.Qxb6603026aDeps
import Derived.Test.Qxb6603026aCyc
namespace Go.Proofs.Qxb6603026a
open Go.RowKit

/-- How the law ends. -/
def LawEnd (w : World) (e : Ending) (w' : World) : Prop := e = .returned (.bool true) ∧ Below w.heap.size w w'

theorem castD {D : List (List Int)} (h : ∀ r ∈ D, ∀ x ∈ r, 0 ≤ x ∧ x < (D.length : Int)) : ∀ r ∈ D.map (List.map Int.toNat), ∀ x ∈ r, x < (D.map (List.map Int.toNat)).length := by
  intro r hr x hx
  obtain ⟨r0, h1, rfl⟩ := List.mem_map.1 hr
  obtain ⟨x0, h2, rfl⟩ := List.mem_map.1 hx
  have := h r0 h1 x0 h2
  rw [List.length_map]
  omega
theorem castL {D : List (List Int)} (h : ∀ r ∈ D, r.length ≤ 1048576) : ∀ r ∈ D.map (List.map Int.toNat), r.length ≤ 1048576 := by
  intro r hr
  obtain ⟨r0, h1, rfl⟩ := List.mem_map.1 hr
  rw [List.length_map]
  exact h r0 h1

set_option maxHeartbeats 8000000 in
set_option maxRecDepth 100000 in
theorem law_any (v0 v2 : Value) (first : Int) (D : List (List Int)) (G : List Int) (w : World) (h0 : IsRows (· < w.heap.size) w v0 D) (h2 : IsInts (· < w.heap.size) w v2 G) (hGw : ∀ x ∈ G, (Lit.int .i64 x).wf = true)
    (hl : D.length ≤ 9223372036854775807) (hT : ∀ r ∈ D, r.length ≤ 9223372036854775807) (hl2 : G.length ≤ 9223372036854775807) :
    Calls Try.prog 5 #[v0, .int .i64 first, v2] w (LawEnd w) := by
  have H0 := hide h0
  have H2 := hide h2
  have HGw := hide hGw
  have CZ := hide (zzBytes_any first v0 v2 D G w _ h0 h2 hl hT hl2)
  obtain ⟨ao, cap, rfl, -, -⟩ := h0
  obtain ⟨ao2, cap2, rfl, -, -⟩ := h2
  clear hT hl hl2 hGw
  go_enter Try.func5, Try.ntmps5
  go_wp2_with fail
  refine (unhide CZ).mono ?_
  rintro e w ⟨r, rfl, rfl, hr⟩
  cases r
  · clear CZ hr
    go_wp2
    go_ret
    exact ⟨rfl, Below.refl _ _⟩
  obtain ⟨hl, hT, hl2⟩ := hr rfl
  have HT := hide hT
  clear CZ hT hr
  by_cases hb1 : (D.length : Int) > 65536
  · go_wp2
    go_ret
    exact ⟨rfl, Below.refl _ _⟩
  by_cases hb2 : (G.length : Int) > 65536
  · go_wp2
    go_ret
    exact ⟨rfl, Below.refl _ _⟩
  go_wp2_with fail
  refine (words_any _ D w _ (unhide H0) hl (unhide HT)).mono ?_
  rintro e w ⟨t1, rfl, rfl, ht0, ht1⟩
  by_cases hb3 : t1 + (G.length : Int) > 131072
  · go_wp2
    go_ret
    exact ⟨rfl, Below.refl _ _⟩
  by_cases hb4 : first < 0
  · go_wp2
    go_ret
    exact ⟨rfl, Below.refl _ _⟩
  by_cases hb5 : first < (D.length : Int)
  · obtain ⟨f, rfl⟩ : ∃ f : Nat, first = (f : Int) := ⟨first.toNat, by omega⟩
    go_wp2_with fail
    refine (inRange_any _ D w _ (unhide H0) hl (unhide HT)).mono ?_
    rintro e w ⟨r, rfl, rfl, hr⟩
    cases r
    · clear hr
      go_wp2
      go_ret
      exact ⟨rfl, Below.refl _ _⟩
    have HR := hide (hr rfl)
    clear hr
    go_wp2_with fail
    refine (cloneDeps_any _ D w hl (unhide HT) (unhide H0)).mono ?_
    rintro e w1 ⟨ao1, c1, rfl, hD1, b1⟩
    have HD1 := hide hD1
    have hC2 := cloneInts_any (.slice ao2 G.length cap2) G w1 hl2 ((unhide H2).move fun b hb => ⟨by have := b1.size; omega, b1.block b hb⟩)
    have HC2 := hide hC2
    clear hD1 hC2
    go_wp2_with fail
    refine (unhide HC2).mono ?_
    rintro e w2 ⟨ao3, c3, rfl, hG2, b2⟩
    have B2 : Below w.heap.size w w2 := b1.trans (b2.mono b1.size)
    have hN : ∀ W, Below w2.heap.size w2 W → IsRowsN (· < W.heap.size) W (.slice ao1 D.length c1) (D.map (List.map Int.toNat)) := fun W hW => by
      have h1 := (unhide HD1).move (p' := (· < W.heap.size)) (w' := W) fun b hb => ⟨by have := b2.size; have := hW.size; omega, by rw [hW.block b (by have := b2.size; omega), b2.block b hb.2]⟩
      exact h1.nats fun r hr x hx => (unhide HR r hr x hx).1
    have hGG : ∀ W, Below w2.heap.size w2 W → IsInts (· < W.heap.size) W (.slice ao3 G.length c3) G := fun W hW => hG2.move fun b hb => ⟨by have := hW.size; omega, hW.block b hb.2⟩
    have hfl : f < (D.map (List.map Int.toNat)).length := by rw [List.length_map]; omega
    have hll : (D.map (List.map Int.toNat)).length ≤ 1048576 := by rw [List.length_map]; exact hl
    have CL := hide (lex_any (.slice ao1 D.length c1) (.slice ao3 G.length c3) (D.map (List.map Int.toNat)) f G w2 hll (castL (unhide HT)) (castD (unhide HR)) hfl hl2 (hN w2 (Below.refl _ _)) (hGG w2 (Below.refl _ _)))
    have HN := hide hN
    have HGG := hide hGG
    clear hN hGG hG2 HC2 HD1
    go_wp2_with fail
    refine (unhide CL).mono ?_
    rintro e w3 ⟨b3, ⟨v3, rfl⟩ | ⟨v3, T, l, rfl, hv3, hWt⟩⟩
    · have HB3 : Hid (Below w.heap.size w w3) := B2.trans (b3.mono B2.size)
      clear CL HN HGG
      go_wp2
      go_ret
      exact ⟨rfl, unhide HB3⟩
    · have B3 : Below w.heap.size w w3 := B2.trans (b3.mono B2.size)
      have HV3 := hide hv3
      have HWt := hide hWt
      have hsh := hWt.short (castD (unhide HR)) hfl
      have CC := hide (zzCycle_any _ _ (D.map (List.map Int.toNat)) f G T l w3 hll (castL (unhide HT)) (castD (unhide HR)) hfl hl2 (unhide HGw) (unhide HN w3 b3) (unhide HGG w3 b3) hWt)
      clear CL HN HGG hv3 hWt
      go_wp2_with fail
      refine (unhide CC).mono ?_
      rintro e w4 ⟨v4, rfl, hv4, b4⟩
      have B4 : Below w.heap.size w w4 := B3.trans (b4.mono B3.size)
      have hlen : ((l ++ [f]).map Int.ofNat).length ≤ 1048576 := by
        rw [List.length_map, List.length_append, List.length_singleton]
        rw [List.length_map] at hsh
        omega
      have CS := hide (same_any v4 v3 ((l ++ [f]).map Int.ofNat) w4 (fun _ => True) (hv4.ints.move fun b _ => ⟨trivial, rfl⟩) ((unhide HV3).ints.move fun b hb => ⟨trivial, b4.block b hb.2⟩) hlen)
      have HB4 := hide B4
      clear CC hv4 HV3
      go_wp2_with fail
      refine (unhide CS).mono ?_
      rintro e w5 ⟨rfl, q, rfl⟩
      clear CS
      go_wp2
      go_ret
      exact ⟨rfl, below_drewN (unhide HB4) q⟩
  · go_wp2
    go_ret
    exact ⟨rfl, Below.refl _ _⟩
end Go.Proofs.Qxb6603026a
