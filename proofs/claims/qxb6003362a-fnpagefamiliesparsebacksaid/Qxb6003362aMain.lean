/-
  FnPageFamiliesParseBack (function 4).
-/
import Derived.Test.Qxb6003362aPage
import Derived.Test.Qxb6003362aUnesc
import Derived.Test.Qxb6003362aHas
import Derived.Test.Qxb6003362aClone
import Derived.Test.Qxb6003362aSizes
import Derived.Deep.DeepCutAuto
import Derived.Deep.RegionHeld
import Derived.WalkSmall
namespace Go.Proofs.Qxb6003362a
open Go.RowKit

theorem hasAt_at (z : Int) (g n cap pos : Nat) (s : ByteArray) (w : World) (hz : z = pos) (hn : n ≤ 1099511627776) (hs : pos + s.size ≤ n) (hseg : Seg w g pos s.data.toList) :
    Calls Try.prog 15 #[.slice (some ⟨g, 0, none⟩) n cap, .int .i64 z, .string s] w fun e w' => e = .returned (.bool true) ∧ ∃ q, w' = w.drewN q := by
  subst hz
  exact hasAt_true g n cap pos s w hn hs hseg

theorem Pg.drew {w0 W : World} {P : Nat} {v : Value} {A : List UInt8} (h : Pg w0 W P v A) : Pg w0 W.drew P v A := ⟨h.blk, h.own.drew, h.bel.drew⟩

theorem Pg.start (W : World) : Pg W (W.alloc (.cells #[.slice none 0 0, .string ⟨#[]⟩] 34)) W.heap.size (.slice none 0 0) [] :=
  ⟨⟨⟨#[]⟩, heap_alloc_new W _⟩, World.ownsRow_nil _ _ _ _, (Below.refl _ _).alloc (Nat.le_refl _) _⟩

theorem page_at {W : World} {base : Nat} {ao : Option Addr} {cap : Nat} {A : List UInt8} (h : W.ownsRow base 5 1 (.slice ao A.length cap) A.length (A.map bv)) (hne : 0 < A.length) :
    ∃ g, ao = some ⟨g, 0, none⟩ ∧ g < W.heap.size ∧ A.length ≤ cap ∧ Seg W g 0 A := by
  have hx := h
  rcases hx.2 with ⟨_, h0⟩ | ⟨g, cap', cur, hv, hb, hh, hcc, _⟩
  · omega
  · simp only [Value.slice.injEq, true_and] at hv
    obtain ⟨rfl, rfl⟩ := hv
    refine ⟨g, rfl, lt_of_block hh, hcc, fun j hj => ?_⟩
    rw [Nat.zero_add, h.cellAt j (by omega)]
    simp [hj]

/-- How the law ends. -/
def Law (w : World) (e : Ending) (w' : World) : Prop := e = .returned (.bool true) ∧ Below w.heap.size w w'

set_option maxHeartbeats 4000000 in
set_option maxRecDepth 100000 in
theorem main_any (a0 a1 a2 : Option Addr) (n0 c0 n1 c1 n2 c2 : Nat) (f0 f1 : Nat → ByteArray) (f2 : Nat → Bool) (w : World)
    (hn0 : n0 ≤ 9223372036854775807) (hn1 : n1 ≤ 9223372036854775807) (hn2 : n2 ≤ 9223372036854775807)
    (hz0 : a0 = none → n0 = 0) (hz1 : a1 = none → n1 = 0) (hz2 : a2 = none → n2 = 0)
    (h0 : SeqAt w.heap.size w a0 n0 (fun j => .string (f0 j))) (h1 : SeqAt w.heap.size w a1 n1 (fun j => .string (f1 j))) (h2 : SeqAt w.heap.size w a2 n2 (fun j => .bool (f2 j))) :
    Calls Try.prog 4 #[.slice a0 n0 c0, .slice a1 n1 c1, .slice a2 n2 c2] w (Law w) := by
  go_enter Try.func4, Try.ntmps4
  go_wp2_with fail
  refine (zzBytes_any a0 a1 a2 n0 c0 n1 c1 n2 c2 f0 f1 w w.heap.size hn0 hn1 hn2 h0 h1).mono ?_
  rintro e w ⟨r, rfl, rfl⟩
  cases r
  · go_wp2
    go_ret
    exact ⟨rfl, Below.refl _ _⟩
  by_cases hb : n0 ≤ 65536 ∧ n1 ≤ 65536 ∧ n2 ≤ 65536
  case neg =>
    clear h0 h1 h2 hz0 hz1 hz2
    go_wp2
    all_goals
      first
        | (exfalso; omega)
        | (go_ret; exact ⟨rfl, Below.refl _ _⟩)
  obtain ⟨hb0, hb1, hb2⟩ := hb
  clear hn0 hn1 hn2
  go_wp2
  go_loop [7, 8] (fun z i => ∃ (k : Nat) (t : Int), k ≤ n0 ∧ 0 ≤ t ∧ t ≤ 1048576 ∧ z = .int .i64 t ∧ i = .int .i64 k ∧ Hid (∀ j, j < k → (f0 j).size ≤ 1048576)) (fun _ i => n0 - (intOf i).toNat)
  case atStart => exact ⟨0, n2, Nat.zero_le _, by omega, by omega, rfl, rfl, fun j hj => by omega⟩
  case round =>
    obtain ⟨k, t, hk, ht0, ht1, rfl, rfl, hs0⟩ := hrel
    by_cases hlt : k < n0
    · obtain ⟨b, off, ha, -, hc⟩ := h0 (by omega)
      subst ha
      have hc1 := hc k hlt
      clear hc h0 h1 h2
      go_wp2
      · go_ret
        exact ⟨rfl, Below.refl _ _⟩
      · go_ret
        exact ⟨rfl, Below.refl _ _⟩
      · go_round
        case rel => exact ⟨k + 1, _, by omega, by omega, by omega, rfl, by go_num, fun j hj => by
          by_cases e : j = k
          · subst e; omega
          · exact unhide hs0 j (by omega)⟩
        case measure => simp [intOf]; omega
    have hk0 : k = n0 := by omega
    subst hk0
    go_wp2
    go_loop [7, 9] (fun z i => ∃ (k : Nat) (t : Int), k ≤ n1 ∧ 0 ≤ t ∧ t ≤ 1048576 ∧ z = .int .i64 t ∧ i = .int .i64 k ∧ Hid (∀ j, j < k → (f1 j).size ≤ 1048576)) (fun _ i => n1 - (intOf i).toNat)
    case atStart => exact ⟨0, _, Nat.zero_le _, by omega, by omega, rfl, rfl, fun j hj => by omega⟩
    case round =>
      obtain ⟨k', t', hk', ht0', ht1', rfl, rfl, hs1⟩ := hrel
      by_cases hlt' : k' < n1
      · obtain ⟨b, off, ha, -, hc⟩ := h1 (by omega)
        subst ha
        have hc1 := hc k' hlt'
        clear hc h0 h1 h2
        go_wp2
        · go_ret
          exact ⟨rfl, Below.refl _ _⟩
        · go_ret
          exact ⟨rfl, Below.refl _ _⟩
        · go_round
          case rel => exact ⟨k' + 1, _, by omega, by omega, by omega, rfl, by go_num, fun j hj => by
            by_cases e : j = k'
            · subst e; omega
            · exact unhide hs1 j (by omega)⟩
          case measure => simp [intOf]; omega
      have hk1 : k' = n1 := by omega
      subst hk1
      clear hlt hlt' hk hk' ht0 ht1 ht0' ht1'
      go_wp2_with fail
      refine (cloneStrs_any a0 k c0 f0 w (by omega) hz0 h0).mono ?_
      rintro e w1 ⟨b0, d0, rfl, hB1, h0'⟩
      replace h1 := h1.below hB1 (Nat.le_refl _)
      replace h2 := h2.below hB1 (Nat.le_refl _)
      go_wp2_with fail
      refine (cloneStrs_any a1 k' c1 f1 w1 (by omega) hz1 (h1.mono hB1.size)).mono ?_
      rintro e w2 ⟨b1, d1, rfl, hB2, h1'⟩
      replace h2 := h2.below hB2 hB1.size
      replace h0' := h0'.below hB2 (Nat.le_refl _)
      go_wp2_with fail
      refine (cloneBools_any a2 n2 c2 f2 w2 (by omega) hz2 (h2.mono (Nat.le_trans hB1.size hB2.size))).mono ?_
      rintro e w3 ⟨b2, d2, rfl, hB3, h2'⟩
      replace h0' := (h0'.below hB3 hB2.size).mono (Nat.le_trans hB2.size hB3.size)
      replace h1' := (h1'.below hB3 (Nat.le_refl _)).mono hB3.size
      have hB : Below w.heap.size w w3 := (hB1.trans (hB2.mono hB1.size)).trans (hB3.mono (Nat.le_trans hB1.size hB2.size))
      clear hB1 hB2 hB3 h0 h1 h2 hz0 hz1 hz2
      go_upto_if 95 with fail
      go_cut [10] from 84 to 103 (fun x wx => wx = w3 ∧ ∃ m : Nat, x = .int .i64 m ∧ m ≤ k ∧ m ≤ k')
      case first =>
        go_wp2
        all_goals
          go_meet
          case rel => exact ⟨rfl, _, rfl, by omega, by omega⟩
      case rest =>
        obtain ⟨rfl, m1, rfl, hm0, hm1⟩ := hcut
        go_upto_if 101 with fail
        go_cut [10] from 84 to 103 (fun x wx => wx = wc ∧ ∃ m : Nat, x = .int .i64 m ∧ m ≤ k ∧ m ≤ k' ∧ m ≤ n2)
        case first =>
          go_wp2
          all_goals
            go_meet
            case rel => exact ⟨rfl, _, rfl, by omega, by omega, by omega⟩
        case rest =>
          clear hm0 hm1
          obtain ⟨hw, n, rfl, hm0, hm1, hm2⟩ := hcut
          subst hw
          clear hb2
          go_wp2
          go_loopw [12] (fun i wr => ∃ (j : Nat) (v : Value), j ≤ n ∧ i = .int .i64 j ∧ Pg wc wr wc.heap.size v (page f0 f1 f2 j)) (fun i _ => n - (intOf i).toNat)
          case atStart => exact ⟨0, _, Nat.zero_le _, rfl, Pg.start _⟩
          case round =>
            obtain ⟨j, v, hj, rfl, hP⟩ := hrel
            by_cases hlt : j < n
            · obtain ⟨g0, o0, hg0, hl0, hc0⟩ := h0' (by omega)
              obtain ⟨g1, o1, hg1, hl1, hc1⟩ := h1' (by omega)
              obtain ⟨g2, o2, hg2, hl2, hc2⟩ := h2' (by omega)
              subst hg0 hg1 hg2
              have r0 : wr.cell? ⟨g0, o0 + j, none⟩ = some (.string (f0 j)) := (hP.bel.cell (p := ⟨g0, o0 + j, none⟩) hl0).trans (hc0 j (by omega))
              have r1 : wr.cell? ⟨g1, o1 + j, none⟩ = some (.string (f1 j)) := (hP.bel.cell (p := ⟨g1, o1 + j, none⟩) hl1).trans (hc1 j (by omega))
              have r2 : wr.cell? ⟨g2, o2 + j, none⟩ = some (.bool (f2 j)) := (hP.bel.cell (p := ⟨g2, o2 + j, none⟩) hl2).trans (hc2 j (by omega))
              have R0 := hide (hc0 j (by omega))
              have R1 := hide (hc1 j (by omega))
              clear hc0 hc1 hc2 h0' h1' h2'
              have hpl : (page f0 f1 f2 j).length ≤ 549755813888 := by
                have := page_len (f0 := f0) (f1 := f1) (f2 := f2) j (fun i hi => unhide hs0 i (by omega)) (fun i hi => unhide hs1 i (by omega))
                omega
              have e0 := unhide hs0 j (by omega)
              have e1 := unhide hs1 j (by omega)
              have hgj : Hid (page f0 f1 f2 (j + 1) = famL (page f0 f1 f2 j) (f0 j) (kindOf (f2 j)) (f1 j)) := rfl
              generalize page f0 f1 f2 j = A at hpl hP hgj
              have i0 : (j : Int) < (k : Int) := by omega
              have i1 : (j : Int) < (k' : Int) := by omega
              cases hf2 : f2 j
              · rw [hf2] at hgj r2
                have ct : ∀ W, Pg wc W wc.heap.size v A → Calls Try.prog 13 #[.pointer (some ⟨wc.heap.size, 0, none⟩), .string (f0 j), .string (f1 j)] W (PgDone wc wc.heap.size (famL A (f0 j) (kindOf false) (f1 j))) :=
                  fun W hW => counter_any wc W wc.heap.size v A (f0 j) (f1 j) hW (by omega)
                have CT := hide ct
                clear ct
                go_wp2
                go_region_held (fun W => W.cell? ⟨g0, o0 + j, none⟩ = some (.string (f0 j)) ∧ W.cell? ⟨g1, o1 + j, none⟩ = some (.string (f1 j))) (go_keep) (first | (go_at_call 13; refine (unhide CT _ hP.drew).mono ?_; rintro e w' ⟨rfl, v', hP'⟩; have k0 := (hP'.bel.cell (p := ⟨g0, o0 + j, none⟩) hl0).trans (unhide R0); have k1 := (hP'.bel.cell (p := ⟨g1, o1 + j, none⟩) hl1).trans (unhide R1)))
                go_wp2
                go_roundw
                case rel => exact ⟨j + 1, v', by omega, by go_num, by rw [unhide hgj]; exact hP'⟩
                case measure => simp [intOf]; omega
              · rw [hf2] at hgj r2
                have ct : ∀ W, Pg wc W wc.heap.size v A → Calls Try.prog 12 #[.pointer (some ⟨wc.heap.size, 0, none⟩), .string (f0 j), .string (f1 j)] W (PgDone wc wc.heap.size (famL A (f0 j) (kindOf true) (f1 j))) :=
                  fun W hW => gauge_any wc W wc.heap.size v A (f0 j) (f1 j) hW (by omega)
                have CT := hide ct
                clear ct
                go_wp2
                go_region_held (fun W => W.cell? ⟨g0, o0 + j, none⟩ = some (.string (f0 j)) ∧ W.cell? ⟨g1, o1 + j, none⟩ = some (.string (f1 j))) (go_keep) (first | (go_at_call 12; refine (unhide CT _ hP.drew).mono ?_; rintro e w' ⟨rfl, v', hP'⟩; have k0 := (hP'.bel.cell (p := ⟨g0, o0 + j, none⟩) hl0).trans (unhide R0); have k1 := (hP'.bel.cell (p := ⟨g1, o1 + j, none⟩) hl1).trans (unhide R1)))
                go_wp2
                go_roundw
                case rel => exact ⟨j + 1, v', by omega, by go_num, by rw [unhide hgj]; exact hP'⟩
                case measure => simp [intOf]; omega
            have hjn : j = n := by omega
            subst hjn
            clear hlt hj
            have hN : (page f0 f1 f2 j).length ≤ 549755813888 := by
              have := page_len (f0 := f0) (f1 := f1) (f2 := f2) j (fun i hi => unhide hs0 i (by omega)) (fun i hi => unhide hs1 i (by omega))
              omega
            go_wp2_with fail
            refine (bytes_any wc wr wc.heap.size v _ hP).mono ?_
            rintro e W ⟨rfl, rfl⟩
            obtain ⟨ao, cap, rfl⟩ := own_shape hP.own
            go_wp2
            go_loopw [14, 15] (fun pos i wx => ∃ m : Nat, m ≤ j ∧ i = .int .i64 m ∧ pos = .int .i64 ((page f0 f1 f2 m).length : Nat) ∧ Below W.heap.size W wx) (fun _ i _ => j - (intOf i).toNat)
            case atStart => exact ⟨0, Nat.zero_le _, rfl, rfl, Below.refl _ _⟩
            case round =>
              obtain ⟨m, hm, rfl, rfl, hbx⟩ := hrel
              by_cases hlt : m < j
              · obtain ⟨g0, o0, hg0, hl0, hc0⟩ := h0' (by omega)
                obtain ⟨g1, o1, hg1, hl1, hc1⟩ := h1' (by omega)
                obtain ⟨g2, o2, hg2, hl2, hc2⟩ := h2' (by omega)
                subst hg0 hg1 hg2
                have hWsz := hP.size
                have hbW : Below wc.heap.size wc wr := hP.bel.trans (hbx.mono (by omega))
                have r0 : wr.cell? ⟨g0, o0 + m, none⟩ = some (.string (f0 m)) := (hbW.cell (p := ⟨g0, o0 + m, none⟩) hl0).trans (hc0 m (by omega))
                have r1 : wr.cell? ⟨g1, o1 + m, none⟩ = some (.string (f1 m)) := (hbW.cell (p := ⟨g1, o1 + m, none⟩) hl1).trans (hc1 m (by omega))
                have r2 : wr.cell? ⟨g2, o2 + m, none⟩ = some (.bool (f2 m)) := (hbW.cell (p := ⟨g2, o2 + m, none⟩) hl2).trans (hc2 m (by omega))
                have s0 : wr.heap.size ≥ W.heap.size := hbx.size
                clear h0' h1' h2'
                obtain ⟨g, hao, hgW, hcap, hseg0⟩ : ∃ g, ao = some ⟨g, 0, none⟩ ∧ g < W.heap.size ∧ (page f0 f1 f2 j).length ≤ cap ∧ Seg W g 0 (page f0 f1 f2 j) := page_at hP.own (page_pos j (by omega))
                subst hao
                obtain ⟨t1, t2, t3, t4, t5, t6, t7, t8, t9, t10, hlen, hle⟩ := page_segs hlt (hseg0.below hbx hgW)
                have hkd := kind_len (f2 m)
                have hL := esc_len (f1 m).data.toList
                simp only [Array.length_toList] at hL
                have e0 := unhide hs0 m (by omega)
                have e1 := unhide hs1 m (by omega)
                have HL := hide hlen
                have HLE := hide hle
                clear hlen hseg0 hc0 hc1 hc2
                generalize (page f0 f1 f2 m).length = p at *
                generalize hLL : (esc (f1 m).data.toList).length = L at *
                have HLL := hide hLL
                clear hLL
                generalize (page f0 f1 f2 j).length = N at *
                clear hP hbW
                have hpN : p + 7 + (f0 m).size + 1 + L + 1 + 7 + (f0 m).size + 1 + (kindOf (f2 m)).size + 1 ≤ N := by rw [unhide HL] at hle; exact hle
                clear hle
                go_wp2_with fail
                refine (hasAt_at _ g N cap p ⟨#[35, 32, 72, 69, 76, 80, 32]⟩ wr (by omega) (by omega) (by show _ + 7 ≤ _; omega) t1).mono ?_
                rintro e _ ⟨rfl, q1, rfl⟩
                go_wp2_with fail
                refine (hasAt_at _ g N cap (p + 7) (f0 m) _ (by omega) (by omega) (by omega) t2.drewN).mono ?_
                rintro e _ ⟨rfl, q2, rfl⟩
                go_wp2_with fail
                refine (hasAt_at _ g N cap (p + 7 + (f0 m).size) ⟨#[32]⟩ _ (by omega) (by omega) (by show _ + 1 ≤ _; omega) t3.drewN).mono ?_
                rintro e _ ⟨rfl, q3, rfl⟩
                go_wp2
                generalize q1 + q2 + q3 = Q
                go_loop [16] (fun x => ∃ t : Nat, t ≤ L ∧ x = .int .i64 ((p : Int) + 7 + ((f0 m).size : Int) + 1 + (t : Int))) (fun x => L - (intOf x - ((p : Int) + 7 + ((f0 m).size : Int) + 1)).toNat)
                case atStart => exact ⟨0, Nat.zero_le _, by simp⟩
                case round =>
                  obtain ⟨t, ht, rfl⟩ := hrel
                  by_cases htl : t < L
                  · have hcell := seg_no10 t4 (by rw [unhide HLL]; exact htl)
                    obtain ⟨c, hc, hc10⟩ := hcell
                    have ii : ((p : Int) + 7 + ((f0 m).size : Int) + 1 + (t : Int)).toNat = p + 7 + (f0 m).size + 1 + t := by omega
                    clear ii
                    go_wp2
                    go_round
                    case rel => exact ⟨t + 1, by omega, by go_num⟩
                    case measure => simp [intOf]; omega
                  have htL : t = L := by omega
                  subst htL
                  have hcell : wr.cell? ⟨g, p + 7 + (f0 m).size + 1 + t, none⟩ = some (.int .u8 10) := t5 0 (by simp)
                  go_wp2_with fail
                  refine (unesc_str g _ t _ (f1 m) _ wr ⟨Q, rfl⟩ t4.drewN (unhide HLL).symm (by omega) (by omega)).mono ?_
                  rintro e wu ⟨rfl, hbu⟩
                  replace r1 := (hbu.cell (p := ⟨g1, o1 + m, none⟩) (by show g1 < _; omega)).trans r1
                  replace r0 := (hbu.cell (p := ⟨g0, o0 + m, none⟩) (by show g0 < _; omega)).trans r0
                  replace r2 := (hbu.cell (p := ⟨g2, o2 + m, none⟩) (by show g2 < _; omega)).trans r2
                  replace t6 := t6.below hbu (by omega)
                  replace t7 := t7.below hbu (by omega)
                  replace t8 := t8.below hbu (by omega)
                  replace t9 := t9.below hbu (by omega)
                  replace t10 := t10.below hbu (by omega)
                  have hbx' : Hid (Below W.heap.size W wu) := hbx.trans (hbu.mono hbx.size)
                  clear hbx hbu hcell t1 t2 t3 t4 t5
                  go_upto_if 205 with fail
                  go_cut [19] from 132 to 247 (fun x wx => wx = wu ∧ x = .string (kindOf (f2 m)))
                  case first =>
                    cases hf2 : f2 m
                    all_goals
                      rw [hf2] at r2
                      go_wp2
                      go_meet
                      case rel => exact ⟨rfl, by rw [hf2]; rfl⟩
                  case rest =>
                    obtain ⟨hw, rfl⟩ := hcut
                    rw [← hw] at r0 r1 t6 t7 t8 t9 t10 hbx'
                    clear hw
                    generalize kindOf (f2 m) = κ at *
                    go_wp2_with fail
                    refine (hasAt_at _ g N cap (p + 7 + (f0 m).size + 1 + t + 1) ⟨#[35, 32, 84, 89, 80, 69, 32]⟩ _ (by omega) (by omega) (by show _ + 7 ≤ _; omega) t6).mono ?_
                    rintro e _ ⟨rfl, q4, rfl⟩
                    go_wp2_with fail
                    refine (hasAt_at _ g N cap (p + 7 + (f0 m).size + 1 + t + 1 + 7) (f0 m) _ (by omega) (by omega) (by omega) t7.drewN).mono ?_
                    rintro e _ ⟨rfl, q5, rfl⟩
                    go_wp2_with fail
                    refine (hasAt_at _ g N cap (p + 7 + (f0 m).size + 1 + t + 1 + 7 + (f0 m).size) ⟨#[32]⟩ _ (by omega) (by omega) (by show _ + 1 ≤ _; omega) t8.drewN).mono ?_
                    rintro e _ ⟨rfl, q6, rfl⟩
                    go_wp2_with fail
                    refine (hasAt_at _ g N cap (p + 7 + (f0 m).size + 1 + t + 1 + 7 + (f0 m).size + 1) κ _ (by omega) (by omega) (by omega) t9.drewN).mono ?_
                    rintro e _ ⟨rfl, q7, rfl⟩
                    go_wp2_with fail
                    refine (hasAt_at _ g N cap (p + 7 + (f0 m).size + 1 + t + 1 + 7 + (f0 m).size + 1 + κ.size) ⟨#[10]⟩ _ (by omega) (by omega) (by show _ + 1 ≤ _; omega) t10.drewN).mono ?_
                    rintro e _ ⟨rfl, q8, rfl⟩
                    go_wp2
                    go_roundw
                    case rel => exact ⟨m + 1, by omega, by go_num, by rw [unhide HL]; go_num, below_drewN (unhide hbx') _⟩
                    case measure => simp [intOf]; omega
              · have hmj : m = j := by omega
                subst hmj
                have hfin : Below w.heap.size w wr := (hB.trans (hP.bel.mono hB.size)).trans (hbx.mono (Nat.le_trans hB.size hP.bel.size))
                have HF := hide hfin
                clear hfin
                go_wp2
                go_ret
                exact ⟨by simp, HF⟩
end Go.Proofs.Qxb6003362a
