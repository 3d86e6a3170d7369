/-
  FnCountTouchesOnlyEndsFrom (10); zzB2SameGaps (19), ZZChunkWidest (15), ZZChunkShared (18), ZZListChunkCount (36), ZZChunkLen (41), ZZChunkGap (42).
-/
import Derived.Test.Qxb6003464aIdem
namespace Go.Proofs.Qxb6003464a
open Go.RowKit

theorem chunkWidest_any {w : World} {Lb Cb n : Nat} {I L : Nat → Nat} {E D : Nat → Int} {S : Nat → Bool} (h : ListAt w Lb Cb n I L E D S) (i : Nat) (hi : i < n) :
    Calls Try.prog 15 #[.pointer (some ⟨Cb, i * 4, none⟩)] w fun e w' => e = .returned (.int .i8 (D i)) ∧ w' = w := by
  have hc1 := (h.ch i hi).c2
  clear h
  go_enter Try.func15, Try.ntmps15
  go_wp2
  go_ret
  exact ⟨rfl, rfl⟩

theorem chunkShared_any {w : World} {Lb Cb n : Nat} {I L : Nat → Nat} {E D : Nat → Int} {S : Nat → Bool} (h : ListAt w Lb Cb n I L E D S) (i : Nat) (hi : i < n) :
    Calls Try.prog 18 #[.pointer (some ⟨Cb, i * 4, none⟩)] w fun e w' => e = .returned (.bool (S i)) ∧ w' = w := by
  have hc1 := (h.ch i hi).c3
  clear h
  go_enter Try.func18, Try.ntmps18
  go_wp2
  go_ret
  exact ⟨rfl, rfl⟩

theorem chunkCount_any {w : World} {Lb Cb n : Nat} {I L : Nat → Nat} {E D : Nat → Int} {S : Nat → Bool} (h : ListAt w Lb Cb n I L E D S) :
    Calls Try.prog 36 #[.pointer (some ⟨Lb, 0, none⟩)] w fun e w' => e = .returned (.int .i64 n) ∧ w' = w := by
  have hc1 := h.hd
  clear h
  go_enter Try.func36, Try.ntmps36
  go_wp2
  go_ret
  exact ⟨rfl, rfl⟩

theorem chunkLen_any {w : World} {Lb Cb n : Nat} {I L : Nat → Nat} {E D : Nat → Int} {S : Nat → Bool} (h : ListAt w Lb Cb n I L E D S) (i : Nat) (hi : i < n) :
    Calls Try.prog 41 #[.pointer (some ⟨Cb, i * 4, none⟩)] w fun e w' => e = .returned (.int .i64 (L i)) ∧ w' = w := by
  have hc1 := (h.ch i hi).c0
  clear h
  go_enter Try.func41, Try.ntmps41
  go_wp2
  go_ret
  exact ⟨rfl, rfl⟩

theorem chunkGap_any {w : World} {Lb Cb n : Nat} {I L : Nat → Nat} {E D : Nat → Int} {S : Nat → Bool} (h : ListAt w Lb Cb n I L E D S) (i : Nat) (hi : i < n) (G : Nat → Int) (hG : GapsAt w (I i) (L i) G) (j : Nat) (hj : j < L i) :
    Calls Try.prog 42 #[.pointer (some ⟨Cb, i * 4, none⟩), .int .i64 j] w fun e w' => e = .returned (.int .i8 (G j)) ∧ w' = w := by
  have hc1 := (h.ch i hi).c0
  have hc2 := hG j hj
  clear h hG
  go_enter Try.func42, Try.ntmps42
  go_wp2
  go_ret
  exact ⟨rfl, rfl⟩

theorem ListAt.drewN {w : World} {Lb Cb n : Nat} {I L : Nat → Nat} {E D : Nat → Int} {S : Nat → Bool} (h : ListAt w Lb Cb n I L E D S) (q : Nat) : ListAt (w.drewN q) Lb Cb n I L E D S :=
  h.keep (below_drewN (Below.refl _ _) q)

set_option maxHeartbeats 1000000 in
theorem sameGaps_any {w : World} {Lb Cb n : Nat} {I L : Nat → Nat} {E D : Nat → Int} {S : Nat → Bool} (h : ListAt w Lb Cb n I L E D S) (i : Nat) (hi : i < n) (hL : L i ≤ 1048576) (G : Nat → Int) (hG : GapsAt w (I i) (L i) G)
    (ao : Option Addr) (cp : Nat) (p : Nat → Prop) (hs : SeqOn p w ao (L i) (fun j => .int .i8 (G j))) :
    Calls Try.prog 19 #[.pointer (some ⟨Cb, i * 4, none⟩), .slice ao (L i) cp] w fun e w' => e = .returned (.bool true) ∧ ∃ q, w' = w.drewN q := by
  go_enter Try.func19, Try.ntmps19
  go_wp2_with fail
  refine (chunkLen_any h i hi).mono ?_
  rintro e w ⟨rfl, rfl⟩
  go_wp2
  go_loopw [5] (fun x wr => ∃ k q : Nat, k ≤ L i ∧ x = .int .i64 k ∧ wr = w.drewN q) (fun x _ => L i - (intOf x).toNat)
  case atStart => exact ⟨0, 0, Nat.zero_le _, rfl, rfl⟩
  case round =>
    obtain ⟨k, q, hk, rfl, hw⟩ := hrel
    by_cases hlt : k < L i
    · obtain ⟨b, off, ha, -, hc⟩ := hs (by omega)
      subst ha
      have hc1 : wr.cell? ⟨b, off + k, none⟩ = some (.int .i8 (G k)) := by rw [hw]; exact hc k hlt
      have i0 : (k : Int) < (L i : Int) := by omega
      have ct : ∀ m, Calls Try.prog 42 #[.pointer (some ⟨Cb, i * 4, none⟩), .int .i64 k] (wr.drewN m) fun e w' => e = .returned (.int .i8 (G k)) ∧ w' = (wr.drewN m) := by
        rw [hw]
        exact fun m => chunkGap_any ((h.drewN q).drewN m) i hi G (hG.keep rfl) k hlt
      have CT := hide ct
      have HW := hide hw
      clear ct hc hs hw
      go_wp2
      go_quiet ((go_at_call 42; exact Calls.quiet_of_same (unhide CT _)))
      go_wp2
      go_roundw
      case rel => exact ⟨k + 1, q + nq, by omega, by go_num, by rw [unhide HW]; simp⟩
      case measure => simp [intOf]; omega
    · subst hw
      go_wp2
      go_ret
      exact ⟨rfl, q, rfl⟩

set_option maxHeartbeats 4000000 in
set_option maxRecDepth 100000 in
theorem touch_any (a0 a1 a2 a3 : Option Addr) (n c0 n1 c1 n2 c2 n3 c3 : Nat) (z : Int) (L : Nat → Nat) (G : Nat → Nat → Int) (f1 f2 : Nat → Int) (f3 : Nat → Bool) (w : World)
    (hn : n ≤ 9223372036854775807) (hn1 : n1 ≤ 9223372036854775807) (hn2 : n2 ≤ 9223372036854775807) (hn3 : n3 ≤ 9223372036854775807) (hL : ∀ r, r < n → L r ≤ 9223372036854775807)
    (hz0 : a0 = none → n = 0) (hz1 : a1 = none → n1 = 0) (hz2 : a2 = none → n2 = 0) (hz3 : a3 = none → n3 = 0)
    (h0 : RowsOn (· < w.heap.size) w a0 n L G) (h1 : SeqOn (· < w.heap.size) w a1 n1 (fun j => .int .i64 (f1 j)))
    (h2 : SeqOn (· < w.heap.size) w a2 n2 (fun j => .int .i8 (f2 j))) (h3 : SeqOn (· < w.heap.size) w a3 n3 (fun j => .bool (f3 j))) :
    Calls Try.prog 10 #[.slice a0 n c0, .slice a1 n1 c1, .slice a2 n2 c2, .slice a3 n3 c3, .int .i64 z] w (Law w) := by
  go_enter Try.func10, Try.ntmps10
  go_wp2_with fail
  refine (zzTouch_any a0 a1 a2 a3 n c0 n1 c1 n2 c2 n3 c3 z L G w _ hn hn1 hn2 hn3 h0 hL).mono ?_
  rintro e w ⟨r, rfl, rfl, hr⟩
  cases r
  · clear hr h0 h1 h2 h3 hL hz0 hz1 hz2 hz3
    go_wp2
    go_ret
    exact ⟨rfl, Below.refl _ _⟩
  clear hn hn1 hn2 hn3 hL
  obtain ⟨hn, hL, hn1, hn2, hn3⟩ := hr rfl
  clear hr
  have HL := hide hL
  clear hL
  go_wp2_with fail
  refine (b2Bytes_any a0 a1 a2 a3 n c0 n1 c1 n2 c2 n3 c3 L G w _ hn hn1 hn2 hn3 h0 (unhide HL)).mono ?_
  rintro e w ⟨t, rfl, rfl⟩
  by_cases ht : 1048576 < t
  · clear h0 h1 h2 h3 hz0 hz1 hz2 hz3
    go_wp2
    go_ret
    exact ⟨rfl, Below.refl _ _⟩
  by_cases hzc : 0 ≤ z ∧ z ≤ n
  case neg =>
    clear h0 h1 h2 h3 hz0 hz1 hz2 hz3
    go_wp2
    all_goals
      first
        | (exfalso; omega)
        | (go_ret; exact ⟨rfl, Below.refl _ _⟩)
  obtain ⟨c, rfl⟩ := Int.eq_ofNat_of_zero_le hzc.1
  have hc : c ≤ n := by omega
  clear hzc
  go_wp2_with fail
  refine (cloneRows_any a0 n c0 L G w hn (unhide HL) hz0 h0).mono ?_
  rintro e w1 ⟨b0, d0, rfl, hB1, -, h0'⟩
  replace h1 := (h1.below hB1 (fun b hb => hb)).mono (p' := (· < w1.heap.size)) (fun b hb => Nat.lt_of_lt_of_le hb hB1.size)
  replace h2 := (h2.below hB1 (fun b hb => hb)).mono (p' := (· < w1.heap.size)) (fun b hb => Nat.lt_of_lt_of_le hb hB1.size)
  replace h3 := (h3.below hB1 (fun b hb => hb)).mono (p' := (· < w1.heap.size)) (fun b hb => Nat.lt_of_lt_of_le hb hB1.size)
  replace h0' := h0'.mono (p' := (· < w1.heap.size)) (fun b hb => hb.2)
  clear h0
  go_wp2_with fail
  refine (cloneInts_any a1 n1 c1 f1 w1 hn1 hz1 h1).mono ?_
  rintro e wA ⟨b1, d1, rfl, hB2, -, h1'⟩
  replace h2 := (h2.below hB2 (fun b hb => hb)).mono (p' := (· < wA.heap.size)) (fun b hb => Nat.lt_of_lt_of_le hb hB2.size)
  replace h3 := (h3.below hB2 (fun b hb => hb)).mono (p' := (· < wA.heap.size)) (fun b hb => Nat.lt_of_lt_of_le hb hB2.size)
  replace h0' := (h0'.below hB2 (fun b hb => hb)).mono (p' := (· < wA.heap.size)) (fun b hb => Nat.lt_of_lt_of_le hb hB2.size)
  replace h1' := h1'.mono (p' := (· < wA.heap.size)) (fun b hb => hb.2)
  have hBA : Below w.heap.size w wA := hB1.trans (hB2.mono hB1.size)
  clear h1 hB1 hB2
  go_wp2_with fail
  refine (cloneRow_any a2 n2 c2 f2 wA hn2 hz2 h2).mono ?_
  rintro e wB ⟨b2, d2, rfl, hB2, -, h2'⟩
  replace h3 := (h3.below hB2 (fun b hb => hb)).mono (p' := (· < wB.heap.size)) (fun b hb => Nat.lt_of_lt_of_le hb hB2.size)
  replace h0' := (h0'.below hB2 (fun b hb => hb)).mono (p' := (· < wB.heap.size)) (fun b hb => Nat.lt_of_lt_of_le hb hB2.size)
  replace h1' := (h1'.below hB2 (fun b hb => hb)).mono (p' := (· < wB.heap.size)) (fun b hb => Nat.lt_of_lt_of_le hb hB2.size)
  replace h2' := h2'.mono (p' := (· < wB.heap.size)) (fun b hb => hb.2)
  have hBB : Below w.heap.size w wB := hBA.trans (hB2.mono hBA.size)
  clear h2 hBA hB2
  go_wp2_with fail
  refine (cloneBools_any a3 n3 c3 f3 wB hn3 hz3 h3).mono ?_
  rintro e w2 ⟨b3, d3, rfl, hB2, -, h3'⟩
  replace h0' := (h0'.below hB2 (fun b hb => hb)).mono (p' := (· < w2.heap.size)) (fun b hb => Nat.lt_of_lt_of_le hb hB2.size)
  replace h1' := (h1'.below hB2 (fun b hb => hb)).mono (p' := (· < w2.heap.size)) (fun b hb => Nat.lt_of_lt_of_le hb hB2.size)
  replace h2' := (h2'.below hB2 (fun b hb => hb)).mono (p' := (· < w2.heap.size)) (fun b hb => Nat.lt_of_lt_of_le hb hB2.size)
  replace h3' := h3'.mono (p' := (· < w2.heap.size)) (fun b hb => hb.2)
  have hB : Below w.heap.size w w2 := hBB.trans (hB2.mono hBB.size)
  clear h3 hBB hB2 hz0 hz1 hz2 hz3
  go_wp2_with fail
  refine (build_any b0 b1 b2 b3 n d0 n1 d1 n2 d2 n3 d3 L G f1 f2 f3 w2 hn hn1 hn2 hn3 (unhide HL) h0' h1' h2' h3').mono ?_
  rintro e w3 ⟨rfl, hBu⟩
  go_wp2_with fail
  refine (newList_any w2.heap.size n w3).mono ?_
  rintro e w4 ⟨rfl, rfl⟩
  obtain ⟨I, hLi, hGi⟩ := list_of_built hBu
  have hB3 : Below w.heap.size w (w3.alloc (.cells #[.slice (some ⟨w2.heap.size, 0, none⟩) n n, .int .i64 64] 71)) :=
    (hB.trans (hBu.bel.mono hB.size)).alloc (Nat.le_trans hB.size hBu.bel.size) _
  have hlt3 := hBu.lt
  have hs2 := hB.size
  replace h0' := (h0'.below hBu.bel (fun b hb => hb)).keep (w' := w3.alloc (.cells #[.slice (some ⟨w2.heap.size, 0, none⟩) n n, .int .i64 64] 71)) (fun b hb => Below.heap_alloc _ _ _ (Nat.lt_of_lt_of_le hb hBu.bel.size))
  replace h1' := (h1'.below hBu.bel (fun b hb => hb)).keep (w' := w3.alloc (.cells #[.slice (some ⟨w2.heap.size, 0, none⟩) n n, .int .i64 64] 71)) (fun b hb => Below.heap_alloc _ _ _ (Nat.lt_of_lt_of_le hb hBu.bel.size))
  replace h2' := (h2'.below hBu.bel (fun b hb => hb)).keep (w' := w3.alloc (.cells #[.slice (some ⟨w2.heap.size, 0, none⟩) n n, .int .i64 64] 71)) (fun b hb => Below.heap_alloc _ _ _ (Nat.lt_of_lt_of_le hb hBu.bel.size))
  replace h3' := (h3'.below hBu.bel (fun b hb => hb)).keep (w' := w3.alloc (.cells #[.slice (some ⟨w2.heap.size, 0, none⟩) n n, .int .i64 64] 71)) (fun b hb => Below.heap_alloc _ _ _ (Nat.lt_of_lt_of_le hb hBu.bel.size))
  have hs3 := hBu.bel.size
  clear hB hBu
  generalize hW4 : w3.alloc (.cells #[.slice (some ⟨w2.heap.size, 0, none⟩) n n, .int .i64 64] 71) = W4 at *
  have hW4s : w3.heap.size + 1 = W4.heap.size := by rw [← hW4, World.size_alloc]
  clear hW4
  go_wp2_with fail
  refine (listCount_any hLi c hc hn (unhide HL)).mono ?_
  rintro e w5 ⟨rfl, hL5, hg5⟩
  have hs5 := hg5.size
  have hB5 : Below w.heap.size w w5 := below_grown hB3 hg5 (by omega) hs2
  replace h0' := h0'.keep (w' := w5) (fun b hb => hg5.block b (by omega) (by simp; omega))
  replace h1' := h1'.keep (w' := w5) (fun b hb => hg5.block b (by omega) (by simp; omega))
  replace h2' := h2'.keep (w' := w5) (fun b hb => hg5.block b (by omega) (by simp; omega))
  replace h3' := h3'.keep (w' := w5) (fun b hb => hg5.block b (by omega) (by simp; omega))
  have hG5 : ∀ i, i < n → GapsAt w5 (I i) (L i) (G i) := fun i hi => by
    obtain ⟨g1, g2, g3⟩ := hGi i hi
    exact g3.keep (hg5.block _ (by omega) (by simp; omega))
  have HG := hide hG5
  have HB := hide hB5
  clear hLi hB3 hg5 hGi hG5 hB5
  obtain ⟨A, C, hR, hRr⟩ := h0'
  have HR := hide hRr
  clear hRr
  go_wp2_with fail
  refine (chunkCount_any hL5).mono ?_
  rintro e w5 ⟨rfl, rfl⟩
  go_wp2
  go_loopw [12] (fun i wr => ∃ k q : Nat, k ≤ n ∧ i = .int .i64 k ∧ wr = w5.drewN q) (fun i _ => n - (intOf i).toNat)
  case atStart => exact ⟨0, 0, Nat.zero_le _, rfl, rfl⟩
  case round =>
    obtain ⟨k, q, hk, rfl, rfl⟩ := hrel
    by_cases hlt : k < n
    · obtain ⟨b, off, ha, -, hc⟩ := hR (by omega)
      subst ha
      have hc1 := hc k hlt
      have hLq := hL5.drewN q
      have hE : k < c → cntTo L (pick n1 f1) c (n - c) k = pick n1 f1 k := fun h => by
        simp only [cntTo]; rw [if_neg (by omega)]
      have HE := hide hE
      clear hE hc hR
      go_wp2_with fail
      refine (listChunk_any hLq k hlt).mono ?_
      rintro e _ ⟨rfl, rfl⟩
      by_cases hkc : k < c
      · have e17 := chunkEnd_any hLq k hlt
        rw [unhide HE hkc] at e17
        go_wp2_with fail
        refine e17.mono ?_
        rintro e _ ⟨rfl, rfl⟩
        go_wp2_with fail
        refine (endAt_any b1 n1 d1 k f1 (w5.drewN q) _ hn1 (by omega) (h1'.keep (fun _ _ => rfl))).mono ?_
        rintro e _ ⟨rfl, rfl⟩
        clear e17
        go_wp2_with fail
        refine (chunkWidest_any hLq k hlt).mono ?_
        rintro e _ ⟨rfl, rfl⟩
        go_wp2_with fail
        refine (oldAt_any b2 n2 d2 k f2 (w5.drewN q) _ hn2 (by omega) (h2'.keep (fun _ _ => rfl))).mono ?_
        rintro e _ ⟨rfl, rfl⟩
        go_wp2_with fail
        refine (chunkShared_any hLq k hlt).mono ?_
        rintro e _ ⟨rfl, rfl⟩
        go_wp2_with fail
        refine (markAt_any b3 n3 d3 k f3 (w5.drewN q) _ hn3 (by omega) (h3'.keep (fun _ _ => rfl))).mono ?_
        rintro e _ ⟨rfl, rfl⟩
        go_wp2_with fail
        refine (sameGaps_any hLq k hlt (unhide HL k hlt) (G k) ((unhide HG k hlt).keep rfl) (A k) (C k) _ ((unhide HR k hlt).2.keep (fun _ _ => rfl))).mono ?_
        rintro e _ ⟨rfl, q', rfl⟩
        go_wp2
        go_roundw
        case rel => exact ⟨k + 1, q + q', by omega, by go_num, by simp⟩
        case measure => simp [intOf]; omega
      · go_wp2_with fail
        refine (chunkWidest_any hLq k hlt).mono ?_
        rintro e _ ⟨rfl, rfl⟩
        go_wp2_with fail
        refine (oldAt_any b2 n2 d2 k f2 (w5.drewN q) _ hn2 (by omega) (h2'.keep (fun _ _ => rfl))).mono ?_
        rintro e _ ⟨rfl, rfl⟩
        go_wp2_with fail
        refine (chunkShared_any hLq k hlt).mono ?_
        rintro e _ ⟨rfl, rfl⟩
        go_wp2_with fail
        refine (markAt_any b3 n3 d3 k f3 (w5.drewN q) _ hn3 (by omega) (h3'.keep (fun _ _ => rfl))).mono ?_
        rintro e _ ⟨rfl, rfl⟩
        go_wp2_with fail
        refine (sameGaps_any hLq k hlt (unhide HL k hlt) (G k) ((unhide HG k hlt).keep rfl) (A k) (C k) _ ((unhide HR k hlt).2.keep (fun _ _ => rfl))).mono ?_
        rintro e _ ⟨rfl, q', rfl⟩
        go_wp2
        go_roundw
        case rel => exact ⟨k + 1, q + q', by omega, by go_num, by simp⟩
        case measure => simp [intOf]; omega
    · go_wp2
      go_ret
      exact ⟨rfl, below_drewN (unhide HB) q⟩

end Go.Proofs.Qxb6003464a
