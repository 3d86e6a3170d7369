/-
  template.accepted (39), ZZAccepted (22).
-/
import Derived.Test.Qxb6600910aHolds
import Derived.Deep.RegionHeld
namespace Go.Proofs.Qxb6600910a
open Go.RowKit

/-- What 'accepted' asks of the one proposal. -/
def accQ (x : UInt8) (y : Int) (tm : List Trans) (q : Prp) : Bool := q.num == 1 && (q.proto == x && (decide ((q.spi.length : Int) = y) && (decide (q.trs.length = tm.length) && holdsP q.trs tm)))
def accB (x : UInt8) (y : Int) (tm : List Trans) : List Prp → Bool
  | [q] => accQ x y tm q
  | _ => false
theorem accB_no (x : UInt8) (y : Int) (tm : List Trans) (ps : List Prp) (h : ps.length ≠ 1) : accB x y tm ps = false := by
  match ps with
  | [] => rfl
  | [q] => simp at h
  | _ :: _ :: _ => rfl

/-- How 'accepted' ends. -/
def Acc (w : World) (vP : Value) (r : Bool) (e : Ending) (w' : World) : Prop :=
  Below w.heap.size w w' ∧ ((r = false ∧ e = .returned (.pointer none)) ∨ (r = true ∧ ∃ b off c, vP = .slice (some ⟨b, off, none⟩) 1 c ∧ e = .returned (.pointer (some ⟨b, off, none⟩))))

theorem Acc.no {w w' : World} {vP : Value} {r : Bool} {e : Ending} (hb : Below w.heap.size w w') (h : r = false) (he : e = .returned (.pointer none)) : Acc w vP r e w' := ⟨hb, .inl ⟨h, he⟩⟩

set_option maxHeartbeats 4000000 in
set_option maxRecDepth 100000 in
theorem accepted_any (x : UInt8) (y : Int) (vT vP : Value) (S : Nat) (tm : List Trans) (ps : List Prp) (w : World) (hS : S < w.heap.size) (hc : w.cell? ⟨S, 0, none⟩ = some vP) (hP : IsPrps (· < w.heap.size) w vP ps) (hT : IsTranses (· < w.heap.size) w vT tm)
    (hl : tm.length ≤ 1048576) (hTl : ∀ t ∈ tm, LT 1048576 t) (hPl : ∀ q ∈ ps, LP 1048576 q) :
    Calls Try.prog 39 #[.agg #[bv x, .int .i64 y, vT], .pointer (some ⟨S, 0, none⟩)] w (Acc w vP (accB x y tm ps)) := by
  have HT := hide hT
  have HL := hide hTl
  have HP := hide hPl
  obtain ⟨ao, cap, rfl, -, hs⟩ := hP
  obtain ⟨to, capt, rfl, -, -⟩ := hT
  clear hTl hPl
  obtain ⟨W0, hW0⟩ : ∃ W0, W0 = w.alloc (.cells #[bv x, .int .i64 y, .slice to tm.length capt] 73) := ⟨_, rfl⟩
  have hs0 : W0.heap.size = w.heap.size + 1 := by rw [hW0]; simp
  have k0 : W0.cell? ⟨w.heap.size, 0, none⟩ = some (.int .u8 (x.toNat : Int)) := by rw [hW0]; simp [bv]
  have k1 : W0.cell? ⟨w.heap.size, 1, none⟩ = some (.int .i64 y) := by rw [hW0]; simp
  have k2 : W0.cell? ⟨w.heap.size, 2, none⟩ = some (.slice to tm.length capt) := by rw [hW0]; simp
  have hb0 : Below w.heap.size w W0 := by rw [hW0]; exact (Below.refl _ _).alloc (Nat.le_refl _) _
  have HB0 := hide hb0
  have hc' : W0.cell? ⟨S, 0, none⟩ = some (.slice ao ps.length cap) := (hb0.cell (p := ⟨S, 0, none⟩) hS).trans hc
  clear hb0
  have HW := hide hW0
  clear hW0
  unfold bv at HW
  unfold bv
  by_cases h1 : ps.length = 1
  · obtain ⟨q, rfl⟩ := List.length_eq_one_iff.1 h1
    obtain ⟨b, off, rfl, hbl, hel⟩ := hs (by simp)
    have hE : elPrp (· < w.heap.size) W0 b off q := by
      have := (hel 0 (by simp)).move hbl (p' := (· < w.heap.size)) (w' := W0) (fun b hb => ⟨hb, (unhide HB0).block b hb⟩)
      simpa using this
    clear hel hs h1
    have c0 := hE.c0
    have c1 := hE.c1
    obtain ⟨vs, c2, aos, caps, rfl, -, -⟩ := hE.c2
    obtain ⟨vt, c3, hTr⟩ := hE.c3
    have hTr' := hTr
    obtain ⟨aot, capq, rfl, -, -⟩ := hTr'
    have HTr := hide hTr
    unfold bv at c0 c1
    clear hE hTr
    rw [List.length_singleton] at hc' hc
    show Calls _ _ _ _ (Acc w _ (accQ x y tm q))
    by_cases e0 : q.num = 1
    · by_cases e1 : q.proto = x
      · by_cases e2 : (q.spi.length : Int) = y
        · by_cases e3 : q.trs.length = tm.length
          · have hR : Hid (accQ x y tm q = holdsP q.trs tm) := by show _ = _; unfold accQ; simp [e0, e1, e2, e3]
            have hq := unhide HP q (by simp)
            have hqt : q.trs.length ≤ 1048576 := hq.2.1
            have hk0 : ∀ b, b < w.heap.size → b < W0.drew.heap.size ∧ W0.drew.heap[b]? = w.heap[b]? := fun b hb => ⟨by show b < W0.heap.size; omega, (unhide HB0).block b hb⟩
            have CT := hide (holds_any _ _ q.trs tm W0.drew hqt hl (unhide HL) ((unhide HTr).move (w' := W0.drew) fun b hb => ⟨(hk0 b hb).1, rfl⟩) ((unhide HT).move (w' := W0.drew) hk0))
            have hbw : b < W0.heap.size := by have : b < w.heap.size := hbl; omega
            rw [e0] at c0
            rw [e1] at c1
            subst e2
            rw [e3] at c3 CT
            clear e0 e1 e3 hq hqt hk0 HP
            go_enter Try.func39, Try.ntmps39
            go_wp2
            rw [← unhide HW]
            clear HW hc
            have K : Hid (∀ w1, Below W0.drew.heap.size W0.drew w1 → (w1.cell? ⟨b, off, none⟩ = some (.int .u8 ((1 : UInt8).toNat : Int)) ∧ w1.cell? ⟨b, off + 1, none⟩ = some (.int .u8 (x.toNat : Int)) ∧ w1.cell? ⟨b, off + 2, none⟩ = some (.slice aos q.spi.length caps) ∧ w1.cell? ⟨b, off + 3, none⟩ = some (.slice aot tm.length capq) ∧
                w1.cell? ⟨w.heap.size, 0, none⟩ = some (.int .u8 (x.toNat : Int)) ∧ w1.cell? ⟨w.heap.size, 1, none⟩ = some (.int .i64 (q.spi.length : Int)) ∧ w1.cell? ⟨w.heap.size, 2, none⟩ = some (.slice to tm.length capt))) := fun w1 h => by
              have e : ∀ g o, g < W0.heap.size → w1.cell? ⟨g, o, none⟩ = W0.cell? ⟨g, o, none⟩ := fun g o hg => h.cell (p := ⟨g, o, none⟩) hg
              exact ⟨(e _ _ hbw).trans c0, (e _ _ hbw).trans c1, (e _ _ hbw).trans c2, (e _ _ hbw).trans c3, (e _ _ (by omega)).trans k0, (e _ _ (by omega)).trans k1, (e _ _ (by omega)).trans k2⟩
            go_region_held (fun w1 => w1.cell? ⟨b, off, none⟩ = some (.int .u8 ((1 : UInt8).toNat : Int)) ∧ w1.cell? ⟨b, off + 1, none⟩ = some (.int .u8 (x.toNat : Int)) ∧ w1.cell? ⟨b, off + 2, none⟩ = some (.slice aos q.spi.length caps) ∧ w1.cell? ⟨b, off + 3, none⟩ = some (.slice aot tm.length capq) ∧
                w1.cell? ⟨w.heap.size, 0, none⟩ = some (.int .u8 (x.toNat : Int)) ∧ w1.cell? ⟨w.heap.size, 1, none⟩ = some (.int .i64 (q.spi.length : Int)) ∧ w1.cell? ⟨w.heap.size, 2, none⟩ = some (.slice to tm.length capt))
              (first | exact unhide K _ hb | go_keep)
              (first | (go_at_call 35; refine (unhide CT).mono ?_; rintro e w1 ⟨rfl, hb⟩))
            all_goals
              have hB : Below w.heap.size w w1 := (unhide HB0).trans (Below.mono (B := W0.heap.size) ⟨hb.os, hb.tape, hb.output, hb.size, hb.block⟩ (by omega))
              clear hb K CT
              cases hr : holdsP q.trs tm
              · have hN : Hid (accQ x (q.spi.length : Int) tm q = false) := by show _ = _; rw [unhide hR, hr]
                clear hR
                go_wp2
                go_ret
                exact Acc.no hB (unhide hN) rfl
              · have hY : Hid (accQ x (q.spi.length : Int) tm q = true) := by show _ = _; rw [unhide hR, hr]
                clear hR
                go_wp2
                go_ret
                exact ⟨hB, .inr ⟨unhide hY, _, _, _, rfl, rfl⟩⟩
          · have n3 := nat_ne e3
            have hN : Hid (accQ x y tm q = false) := by show _ = _; unfold accQ; simp [e3]
            rw [e0] at c0
            rw [e1] at c1
            subst e2
            clear e0 e1 e3
            go_enter Try.func39, Try.ntmps39
            go_wp2
            rw [← unhide HW]
            clear HW hc
            go_quiet (fail)
            go_wp2
            go_ret
            exact Acc.no (below_drewN (unhide HB0) _) (unhide hN) rfl
        · have n2 : ((q.spi.length : Int) != y) = true := by simpa using e2
          have hN : Hid (accQ x y tm q = false) := by show _ = _; unfold accQ; simp [e2]
          rw [e0] at c0
          rw [e1] at c1
          clear e0 e1 e2
          go_enter Try.func39, Try.ntmps39
          go_wp2
          rw [← unhide HW]
          clear HW hc
          go_quiet (fail)
          go_wp2
          go_ret
          exact Acc.no (below_drewN (unhide HB0) _) (unhide hN) rfl
      · have n1 := u8_ne e1
        have hN : Hid (accQ x y tm q = false) := by show _ = _; unfold accQ; simp [e1]
        rw [e0] at c0
        clear e0 e1
        go_enter Try.func39, Try.ntmps39
        go_wp2
        rw [← unhide HW]
        clear HW hc
        go_quiet (fail)
        go_wp2
        go_ret
        exact Acc.no (below_drewN (unhide HB0) _) (unhide hN) rfl
    · have n0 : ((q.num.toNat : Int) != 1) = true := by
        simp only [bne_iff_ne, ne_eq]; intro e; exact e0 (UInt8.toNat.inj (by show q.num.toNat = 1; omega))
      have hN : Hid (accQ x y tm q = false) := by show _ = _; unfold accQ; simp [e0]
      clear e0
      go_enter Try.func39, Try.ntmps39
      go_wp2
      rw [← unhide HW]
      clear HW hc
      go_quiet (fail)
      go_wp2
      go_ret
      exact Acc.no (below_drewN (unhide HB0) _) (unhide hN) rfl
  · have h1' : ¬ ((ps.length : Int) = 1) := by omega
    have hN := hide (accB_no x y tm ps h1)
    clear hs h1
    go_enter Try.func39, Try.ntmps39
    go_wp2
    rw [← unhide HW]
    go_ret
    exact Acc.no (unhide HB0) (unhide hN) rfl

theorem zzAccepted_any (x : UInt8) (y : Int) (vT vP : Value) (S : Nat) (tm : List Trans) (ps : List Prp) (w : World) (hS : S < w.heap.size) (hc : w.cell? ⟨S, 0, none⟩ = some vP) (hP : IsPrps (· < w.heap.size) w vP ps) (hT : IsTranses (· < w.heap.size) w vT tm)
    (hl : tm.length ≤ 1048576) (hTl : ∀ t ∈ tm, LT 1048576 t) (hPl : ∀ q ∈ ps, LP 1048576 q) :
    Calls Try.prog 22 #[bv x, .int .i64 y, vT, .pointer (some ⟨S, 0, none⟩)] w (Acc w vP (accB x y tm ps)) := by
  have CT := hide (accepted_any x y vT vP S tm ps w hS hc hP hT hl hTl hPl)
  obtain ⟨to, capt, rfl, -, -⟩ := hT
  clear hP hTl hPl
  unfold bv at *
  go_enter Try.func22, Try.ntmps22
  go_wp2_with fail
  refine (unhide CT).mono ?_
  rintro e w1 ⟨hb, ⟨hr, rfl⟩ | ⟨hr, b, off, c, rfl, rfl⟩⟩
  · have HR := hide hr
    clear CT hr
    go_wp2
    go_ret
    exact Acc.no hb (unhide HR) rfl
  · have HR := hide hr
    clear CT hr
    go_wp2
    go_ret
    exact ⟨hb, .inr ⟨unhide HR, _, _, _, rfl, rfl⟩⟩
end Go.Proofs.Qxb6600910a
