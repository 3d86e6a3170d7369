/-
  FnAcceptedExactWhenTypesDistinct (6): the law itself.
-/
import Derived.Test.Qxb6600910aSizes
import Derived.Test.Qxb6600910aZz
import Derived.Test.Qxb6600910aDistinct
import Derived.Test.Qxb6600910aSA
import Derived.Test.Qxb6600910aAcc
import Derived.Test.Qxb6600910aSame
import Derived.LaidEqlPtr
namespace Go.Proofs.Qxb6600910a
open Go.RowKit

/-- How the law ends. -/
def LawEnd (w : World) (e : Ending) (w' : World) : Prop := e = .returned (.bool true) ∧ Below w.heap.size w w'

theorem acc_same {x : UInt8} {y : Int} {tm : List Trans} {q : Prp} (e0 : q.num = 1) (e1 : q.proto = x) (e2 : (q.spi.length : Int) = y) (hn : (tm.map Trans.ty).Nodup) (hq : ∀ t ∈ q.trs, LT 1048576 t) (ht : ∀ t ∈ tm, LT 1048576 t) :
    accQ x y tm q = true ↔ (q.trs.map key).Perm (tm.map key) := by
  rw [← accept_iff q.trs tm hn (fun t h => okT_of (hq t h)) (fun t h => okT_of (ht t h))]
  unfold accQ
  simp [e0, e1, e2]

theorem some42 : ∃ j, Try.prog.info? 42 = some j := by
  have h : (Try.prog.info? 42).isSome = true := by kernel_rfl
  exact Option.isSome_iff_exists.1 h

set_option maxHeartbeats 8000000 in
set_option maxRecDepth 100000 in
theorem law_any (x : UInt8) (y : Int) (vT vP : Value) (tm : List Trans) (ps : List Prp) (w : World) (h2 : IsTranses (· < w.heap.size) w vT tm) (h3 : IsPrps (· < w.heap.size) w vP ps)
    (hl : tm.length ≤ 9223372036854775807) (hT : ∀ t ∈ tm, LT 9223372036854775807 t) (hl3 : ps.length ≤ 9223372036854775807) (hT3 : ∀ q ∈ ps, LP 9223372036854775807 q) :
    Calls Try.prog 6 #[bv x, .int .i64 y, vT, vP] w (LawEnd w) := by
  have H2 := hide h2
  have H3 := hide h3
  have CZ := hide (zzBytes_any (x.toNat : Int) y vT vP tm ps w _ h2 h3 hl hT hl3 hT3)
  obtain ⟨aT, capt, rfl, -, -⟩ := h2
  obtain ⟨po, capp, rfl, -, hs⟩ := h3
  unfold bv
  clear hT hT3 hl hl3
  obtain ⟨j42, hj42⟩ : ∃ j, Try.prog.info? 42 = some j := some42
  go_enter Try.func6, Try.ntmps6
  go_wp2_with fail
  refine (unhide CZ).mono ?_
  rintro e w ⟨r, rfl, rfl, hr⟩
  cases r
  · clear CZ hr hs
    go_wp2
    go_ret
    exact ⟨rfl, Below.refl _ _⟩
  obtain ⟨⟨hl, hT⟩, ⟨hl3, hT3⟩⟩ := hr rfl
  have HT := hide hT
  have HT3 := hide hT3
  clear CZ hT hT3 hr
  go_wp2_with fail
  refine (sizeTr_any 0 _ tm w _ (by omega) (unhide H2) hl (unhide HT)).mono ?_
  rintro e w ⟨t1, rfl, rfl, ht0, ht1⟩
  go_wp2_with fail
  refine (sizePr_any t1 _ ps w _ ⟨ht0, ht1⟩ (unhide H3) hl3 (unhide HT3)).mono ?_
  rintro e w ⟨t2, rfl, rfl, hu0, hu1⟩
  by_cases hbig : t2 > 1048576
  · clear hs
    go_wp2
    go_ret
    exact ⟨rfl, Below.refl _ _⟩
  by_cases hbig2 : (tm.length : Int) > 4096
  · clear hs
    go_wp2
    go_ret
    exact ⟨rfl, Below.refl _ _⟩
  go_wp2
  go_loop [9] (fun i => ∃ k : Nat, k ≤ ps.length ∧ i = .int .i64 k) (fun i => ps.length - (intOf i).toNat)
  case atStart => exact ⟨0, Nat.zero_le _, rfl⟩
  case round =>
    obtain ⟨k, hk, rfl⟩ := hrel
    by_cases hlt : k < ps.length
    · obtain ⟨b, off, rfl, hbl, hel⟩ := hs (by omega)
      obtain ⟨vt, c3, aot, capq, rfl, -, -⟩ := (hel k hlt).c3
      clear hel hs
      generalize ps[k] = q at *
      go_wp2
      · go_ret
        exact ⟨rfl, Below.refl _ _⟩
      go_round
      case rel => exact ⟨k + 1, by omega, by go_num⟩
      case measure => simp [intOf]; omega
    · have hkn : k = ps.length := by omega
      subst hkn
      clear hk hlt
      go_wp2_with fail
      refine (distinct_any _ tm w hl (unhide H2)).mono ?_
      rintro e w1 ⟨r, rfl, b1, hd⟩
      cases r
      · clear hs hd
        go_wp2
        go_ret
        exact ⟨rfl, b1⟩
      have ND := hide (hd rfl)
      have M2 : Hid (∀ W, Below w.heap.size w W → IsTranses (· < W.heap.size) W (.slice aT tm.length capt) tm) := fun W h => (unhide H2).move fun b hb => ⟨by have := h.size; omega, h.block b hb⟩
      have M3 : Hid (∀ W, Below w.heap.size w W → IsPrps (· < W.heap.size) W (.slice po ps.length capp) ps) := fun W h => (unhide H3).move fun b hb => ⟨by have := h.size; omega, h.block b hb⟩
      clear hd
      go_wp2_with fail
      refine (toSA_any _ ps w1 hl3 (unhide HT3) (unhide M3 w1 b1)).mono ?_
      rintro e w2 ⟨vS, rfl, cS, hPS, b2, lt2⟩
      have B2 : Below w.heap.size w w2 := b1.trans (b2.mono b1.size)
      have HPS := hide hPS
      clear hPS
      go_wp2_with fail
      refine (toWire_any _ tm w2 hl (unhide HT) (unhide M2 w2 B2)).mono ?_
      rintro e w3 ⟨ao3, c3, rfl, hW3, b3⟩
      have B3 : Below w.heap.size w w3 := B2.trans (b3.mono B2.size)
      have cS3 : w3.cell? ⟨w1.heap.size, 0, none⟩ = some vS := (b3.cell (p := ⟨w1.heap.size, 0, none⟩) lt2).trans cS
      have hsz3 := b3.size
      have CA := hide (zzAccepted_any x y (.slice ao3 tm.length c3) vS w1.heap.size tm ps w3 (by omega) cS3 ((unhide HPS).move fun b hb => ⟨by omega, b3.block b hb.2⟩) (hW3.move fun b hb => ⟨hb.2, rfl⟩) hl (unhide HT) (unhide HT3))
      unfold bv at CA
      clear hW3 HPS cS
      go_wp2_with fail
      refine (unhide CA).mono ?_
      rintro e w4 ⟨b4, hA⟩
      have B4 : Below w.heap.size w w4 := B3.trans (b4.mono B3.size)
      have cS4 : w4.cell? ⟨w1.heap.size, 0, none⟩ = some vS := (b4.cell (p := ⟨w1.heap.size, 0, none⟩) (by show w1.heap.size < w3.heap.size; omega)).trans cS3
      have lt4 : w1.heap.size < w4.heap.size := by have := b4.size; omega
      clear CA b1 b2 b3 b4 B2 B3 cS3 hsz3 H2 H3
      have HB4 := hide B4
      rcases hA with ⟨hr, rfl⟩ | ⟨hr, bb, oo, cc, rfl, rfl⟩
      · by_cases h1 : ps.length = 1
        · obtain ⟨q, rfl⟩ := List.length_eq_one_iff.1 h1
          obtain ⟨b, off, rfl, hbl, hel⟩ := hs (by simp)
          have hE : elPrp (· < w.heap.size) w4 b off q := by
            have := (hel 0 (by simp)).move hbl (p' := (· < w.heap.size)) (w' := w4) (fun b hb => ⟨hb, B4.block b hb⟩)
            simpa using this
          clear hel hs h1
          have c0 := hE.c0
          have c1 := hE.c1
          obtain ⟨vs, c2, aos, caps, rfl, -, -⟩ := hE.c2
          obtain ⟨vt, c3', hTr⟩ := hE.c3
          have HTr := hide hTr
          obtain ⟨aot, capq, rfl, -, -⟩ := hTr
          unfold bv at c0 c1
          have hr' : accQ x y tm q = false := hr
          have HR := hide hr'
          clear hE hr hr'
          simp only [List.length_singleton]
          by_cases e0 : q.num = 1
          · by_cases e1 : q.proto = x
            · by_cases e2 : (q.spi.length : Int) = y
              · have hq := unhide HT3 q (by simp)
                have HN : Hid (¬ (q.trs.map key).Perm (tm.map key)) := fun h => by
                  have := (acc_same e0 e1 e2 (unhide ND) hq.2.2 (unhide HT)).2 h
                  rw [unhide HR] at this
                  cases this
                have CS := hide (same_any _ _ q.trs tm w4 hq.2.1 hl hq.2.2 (unhide HT) ((unhide HTr).move fun b hb => ⟨by have := B4.size; omega, rfl⟩) (unhide M2 w4 B4))
                rw [e0] at c0
                rw [e1] at c1
                subst e2
                clear e0 e1 hq HTr HT HT3 M2 M3 ND HR
                go_wp2_with fail
                refine (unhide CS).mono ?_
                rintro e w5 ⟨rs, rfl, hrs, b5⟩
                cases rs
                · have HB5 : Hid (Below w.heap.size w w5) := B4.trans (b5.mono B4.size)
                  clear hrs b5 CS
                  go_wp2
                  go_ret
                  exact ⟨rfl, unhide HB5⟩
                · exact absurd (hrs.1 rfl) (unhide HN)
              · have n2 : ((q.spi.length : Int) == y) = false := by simpa using e2
                rw [e0] at c0
                rw [e1] at c1
                clear e0 e1 e2 HTr HT HT3 M2 M3 ND HR
                go_wp2
                go_ret
                exact ⟨rfl, unhide HB4⟩
            · have n1 : ((q.proto.toNat : Int) == (x.toNat : Int)) = false := by
                rw [beq_u8]; simpa using e1
              rw [e0] at c0
              clear e0 e1 HTr HT HT3 M2 M3 ND HR
              go_wp2
              go_ret
              exact ⟨rfl, unhide HB4⟩
          · have n0 : ((q.num.toNat : Int) == 1) = false := by
              have := beq_u8 q.num 1
              rw [show (((1 : UInt8).toNat : Nat) : Int) = 1 from rfl] at this
              rw [this]; simpa using e0
            clear e0 HTr HT HT3 M2 M3 ND HR
            go_wp2
            go_ret
            exact ⟨rfl, unhide HB4⟩
        · have h1' : ¬ ((ps.length : Int) = 1) := by omega
          clear hs hr h1
          go_wp2
          go_ret
          exact ⟨rfl, unhide HB4⟩
      · have h1 : ps.length = 1 := by
          rcases Nat.decEq ps.length 1 with h | h
          · rw [accB_no x y tm ps h] at hr; cases hr
          · exact h
        obtain ⟨q, rfl⟩ := List.length_eq_one_iff.1 h1
        obtain ⟨b, off, rfl, hbl, hel⟩ := hs (by simp)
        have hE : elPrp (· < w.heap.size) w4 b off q := by
          have := (hel 0 (by simp)).move hbl (p' := (· < w.heap.size)) (w' := w4) (fun b hb => ⟨hb, B4.block b hb⟩)
          simpa using this
        clear hel hs h1
        have c0 := hE.c0
        have c1 := hE.c1
        obtain ⟨vs, c2, aos, caps, rfl, -, -⟩ := hE.c2
        obtain ⟨vt, c3', hTr⟩ := hE.c3
        have HTr := hide hTr
        obtain ⟨aot, capq, rfl, -, -⟩ := hTr
        unfold bv at c0 c1
        have hr' : accQ x y tm q = true := hr
        have HR := hide hr'
        clear hE hr hr'
        simp only [List.length_singleton]
        have hR := unhide HR
        unfold accQ at hR
        simp only [Bool.and_eq_true, beq_iff_eq, decide_eq_true_eq] at hR
        obtain ⟨e0, e1, e2, -⟩ := hR
        have hq := unhide HT3 q (by simp)
        have HN : Hid ((q.trs.map key).Perm (tm.map key)) := (acc_same e0 e1 e2 (unhide ND) hq.2.2 (unhide HT)).1 (unhide HR)
        have CS := hide (same_any _ _ q.trs tm w4 hq.2.1 hl hq.2.2 (unhide HT) ((unhide HTr).move fun b hb => ⟨by have := B4.size; omega, rfl⟩) (unhide M2 w4 B4))
        rw [e0] at c0
        rw [e1] at c1
        subst e2
        clear e0 e1 hq HTr HT HT3 M2 M3 ND HR
        go_wp2_with fail
        refine (unhide CS).mono ?_
        rintro e w5 ⟨rs, rfl, hrs, b5⟩
        cases rs
        · exact absurd (hrs.2 (unhide HN)) (by simp)
        · have HB5 : Hid (Below w.heap.size w w5) := B4.trans (b5.mono B4.size)
          have cS5 : w5.cell? ⟨w1.heap.size, 0, none⟩ = some (.slice (some ⟨bb, oo, none⟩) 1 cc) := (b5.cell (p := ⟨w1.heap.size, 0, none⟩) lt4).trans cS4
          have qe := run_eql_ptr_same (P := Try.prog) w5 (tp := 38) (te := 42) ⟨bb, oo, none⟩ Try.underlying38 hj42
          clear hrs b5 CS HN
          go_wp2
          go_ret
          exact ⟨rfl, unhide HB5⟩
end Go.Proofs.Qxb6600910a
