/-
  zzB2CloneRows (23).
-/
import Derived.Test.Qxb6003464aClone
namespace Go.Proofs.Qxb6003464a
open Go.RowKit

theorem info22 : (Try.prog.info? 22).map (fun i => (i.zero, i.size, i.bytes)) = some (some (.slice none 0 0), 1, 24) := by kernel_rfl

/-- The rows copied so far. -/
structure Copied (w wr : World) (n : Nat) (L : Nat → Nat) (G : Nat → Nat → Int) (k : Nat) : Prop where
  ex : ∃ (A : Nat → Option Addr) (C : Nat → Nat), wr.ownsRow w.heap.size 22 1 (.slice (some ⟨w.heap.size, 0, none⟩) n n) n (fillTo (fun r => .slice (A r) (L r) (C r)) (.slice none 0 0) n k) ∧
    ∀ r, r < k → (A r = none → L r = 0) ∧ SeqOn (fun b => w.heap.size < b ∧ b < wr.heap.size) wr (A r) (L r) (fun i => .int .i8 (G r i))
  bel : Below w.heap.size w wr
  sz : w.heap.size < wr.heap.size

theorem Copied.own {w wr : World} {n : Nat} {L : Nat → Nat} {G : Nat → Nat → Int} {k : Nat} (h : Copied w wr n L G k) (hk : k < n) : wr.cell? ⟨w.heap.size, k, none⟩ = some (.slice none 0 0) ∧ wr.frozen? ⟨w.heap.size, k, none⟩ = false := by
  obtain ⟨A, C, ho, _⟩ := h.ex
  exact ⟨by rw [ho.cellAt k (by omega), fillTo_any _ _ _ _ _ hk, if_neg (by omega)], ho.frozenAt k⟩

theorem Copied.next {w wr w1 : World} {n : Nat} {L : Nat → Nat} {G : Nat → Nat → Int} {k : Nat} (h : Copied w wr n L G k) (hb : Below wr.heap.size wr w1) (ao : Option Addr) (c : Nat) (hz : ao = none → L k = 0)
    (hs : SeqOn (fun b => wr.heap.size ≤ b ∧ b < w1.heap.size) w1 ao (L k) (fun i => .int .i8 (G k i))) : Copied w (w1.setCell ⟨w.heap.size, k, none⟩ (.slice ao (L k) c)) n L G (k + 1) := by
  obtain ⟨A, C, ho, hr⟩ := h.ex
  have hsz := h.sz
  have hsz1 := hb.size
  have ho1 : w1.ownsRow w.heap.size 22 1 (.slice (some ⟨w.heap.size, 0, none⟩) n n) n (fillTo (fun r => .slice (if r = k then ao else A r) (L r) (if r = k then c else C r)) (.slice none 0 0) n k) := by
    rw [fillTo_congr (f := fun r => .slice (if r = k then ao else A r) (L r) (if r = k then c else C r)) (g := fun r => .slice (A r) (L r) (C r)) _ _ _ (fun j hj => by simp [show j ≠ k by omega])]
    exact ho.kept (row := none) ⟨hb.os, hb.tape, hb.output, hb.size, fun i hi _ => hb.block i hi⟩ (.inr (by simp [Value.ownBlock]))
  refine ⟨⟨fun r => if r = k then ao else A r, fun r => if r = k then c else C r, ?_, ?_⟩, ?_, ?_⟩
  · have := (ho1.stored k (.slice ao (L k) c)).1
    have e : (Value.slice ao (L k) c) = (fun r => Value.slice (if r = k then ao else A r) (L r) (if r = k then c else C r)) k := by simp
    rw [e, fillTo_set] at this
    rw [e]
    exact this
  · intro r hr'
    have hset : ∀ b, b ≠ w.heap.size → (w1.setCell ⟨w.heap.size, k, none⟩ (.slice ao (L k) c)).heap[b]? = w1.heap[b]? := fun b hne => Below.heap_setCell _ _ _ _ hne
    have hss : (w1.setCell ⟨w.heap.size, k, none⟩ (.slice ao (L k) c)).heap.size = w1.heap.size := by simp [World.setCell]
    by_cases e : r = k
    · subst e
      simp only [if_true]
      refine ⟨hz, ?_⟩
      refine (hs.keep (fun b hbb => hset b (by omega))).mono (fun b hbb => ?_)
      rw [hss]; omega
    · simp only [if_neg e]
      obtain ⟨h1, h2⟩ := hr r (by omega)
      refine ⟨h1, ((h2.keep (w' := w1) (fun b hbb => hb.block b hbb.2)).keep (fun b hbb => hset b (by omega))).mono (fun b hbb => ?_)⟩
      rw [hss]; omega
  · exact (h.bel.trans (hb.mono (by omega))).setCell (Nat.le_refl _) _
  · simp [World.setCell]; omega

theorem Copied.done {w wr : World} {n : Nat} {L : Nat → Nat} {G : Nat → Nat → Int} (h : Copied w wr n L G n) : RowsOn (fun b => w.heap.size ≤ b ∧ b < wr.heap.size) wr (some ⟨w.heap.size, 0, none⟩) n L G := by
  obtain ⟨A, C, ho, hr⟩ := h.ex
  have hsz := h.sz
  refine ⟨A, C, fun hn => ⟨w.heap.size, 0, rfl, ⟨Nat.le_refl _, hsz⟩, fun j hj => ?_⟩, fun r hr' => ⟨(hr r hr').1, (hr r hr').2.mono (fun b hb => by omega)⟩⟩
  rw [Nat.zero_add, ho.cellAt j (by omega), fillTo_at _ _ _ _ _ hj hj]

set_option maxHeartbeats 1000000 in
theorem cloneRows_some (a : Addr) (n c : Nat) (L : Nat → Nat) (G : Nat → Nat → Int) (w : World) (hn : n ≤ 1048576) (hL : ∀ r, r < n → L r ≤ 1048576) (h : RowsOn (· < w.heap.size) w (some a) n L G) :
    Calls Try.prog 23 #[.slice (some a) n c] w fun e w' => e = .returned (.slice (some ⟨w.heap.size, 0, none⟩) n n) ∧ Copied w w' n L G n := by
  have q0 : ∀ (w : World) (a : Option Addr) (n c n' c' : Nat), (binOp .eql 38 (.slice a n c) (.slice none n' c')).run Try.prog w = .ok (.bool a.isNone) w := fun w a n c n' c' => Lib.run_eql_slice_nil w _ _ a n c n' c' Try.underlying38
  obtain ⟨i0, hi, hz0, hz1, hz2⟩ := info_parts info22
  obtain ⟨A, C, hR, hRr⟩ := h
  go_enter Try.func23, Try.ntmps23
  go_wp2_with (at_make; refine wpList_make_full _ rfl _ _ 38 rfl w.heap.size 22 i0 (.slice none 0 0) 1 Try.underlying38 hi hz0 hz1 .i64 .i64 (n : Int) (n : Int) n rfl rfl rfl rfl (by rw [hz2]; omega) (by unfold maxLen; omega) (Nat.le_refl _) ?_)
  intro w1 hown hg
  have hb1 : Below w.heap.size w w1 := (Below.refl _ _).grown hg (Nat.le_refl _) (fun k h => by cases h)
  have hC : Copied w w1 n L G 0 := ⟨⟨fun _ => none, fun _ => 0, by rw [fillTo_zero]; simpa [Value.cells, toList_madeCells_one] using hown, fun r hr => by omega⟩, hb1, (hown.lt w.heap.size rfl).2⟩
  clear hown hg q0 hb1
  go_wp2
  go_loopw [4] (fun i wr => ∃ k : Nat, k ≤ n ∧ i = .int .i64 k ∧ Copied w wr n L G k) (fun i _ => n - (intOf i).toNat)
  case atStart => exact ⟨0, Nat.zero_le _, rfl, hC⟩
  case round =>
    clear hC
    obtain ⟨k, hk, rfl, hC⟩ := hrel
    by_cases hlt : k < n
    · obtain ⟨b, off, ha, hbl, hc⟩ := hR (by omega)
      simp only [Option.some.injEq] at ha
      subst ha
      have hc1 : wr.cell? ⟨b, off + k, none⟩ = some (.slice (A k) (L k) (C k)) := (hC.bel.cell (p := ⟨b, off + k, none⟩) hbl).trans (hc k hlt)
      obtain ⟨hn1, hs1⟩ := hRr k hlt
      have hs2 : SeqOn (· < wr.heap.size) wr (A k) (L k) (fun i => .int .i8 (G k i)) := (hs1.below hC.bel (fun b hb => hb)).mono (fun b hb => Nat.lt_of_lt_of_le hb hC.bel.size)
      have hLk := hL k hlt
      clear hs1
      go_wp2_with fail
      refine (cloneRow_any (A k) (L k) (C k) (G k) wr hLk hn1 hs2).mono ?_
      rintro e w2 ⟨ao', c', rfl, hb2, hz', hs'⟩
      obtain ⟨o1, o2⟩ := hC.own hlt
      have hsz := hC.sz
      have g1 := (hb2.cell (p := ⟨w.heap.size, k, none⟩) hsz).trans o1
      have g2 := (hb2.frozen (p := ⟨w.heap.size, k, none⟩) hsz).trans o2
      have hN := hC.next hb2 ao' c' hz' hs'
      clear hC hb2 hs' o1 o2 hc hs2
      go_wp2
      go_roundw
      case rel => exact ⟨k + 1, by omega, by go_num, hN⟩
      case measure => simp [intOf]; omega
    · have hkn : k = n := by omega
      subst hkn
      go_wp2
      go_ret
      exact ⟨rfl, hC⟩

theorem cloneRows_none (n c : Nat) (w : World) : Calls Try.prog 23 #[.slice none n c] w fun e w' => e = .returned (.slice none 0 0) ∧ w' = w := by
  have q0 : ∀ (w : World) (a : Option Addr) (n c n' c' : Nat), (binOp .eql 38 (.slice a n c) (.slice none n' c')).run Try.prog w = .ok (.bool a.isNone) w := fun w a n c n' c' => Lib.run_eql_slice_nil w _ _ a n c n' c' Try.underlying38
  go_enter Try.func23, Try.ntmps23
  go_wp2
  go_ret
  exact ⟨rfl, rfl⟩

theorem cloneRows_any (ao : Option Addr) (n c : Nat) (L : Nat → Nat) (G : Nat → Nat → Int) (w : World) (hn : n ≤ 1048576) (hL : ∀ r, r < n → L r ≤ 1048576) (hnil : ao = none → n = 0) (h : RowsOn (· < w.heap.size) w ao n L G) :
    Calls Try.prog 23 #[.slice ao n c] w fun e w' => ∃ ao' c', e = .returned (.slice ao' n c') ∧ Below w.heap.size w w' ∧ (ao' = none → n = 0) ∧ RowsOn (fun b => w.heap.size ≤ b ∧ b < w'.heap.size) w' ao' n L G := by
  cases ao with
  | none =>
    obtain rfl := hnil rfl
    refine (cloneRows_none 0 c w).mono ?_
    rintro e w' ⟨rfl, rfl⟩
    exact ⟨none, 0, rfl, Below.refl _ _, fun _ => rfl, fun _ => none, fun _ => 0, fun h => absurd h (by omega), fun r hr => by omega⟩
  | some a =>
    refine (cloneRows_some a n c L G w hn hL h).mono ?_
    rintro e w' ⟨rfl, hC⟩
    exact ⟨_, _, rfl, hC.bel, fun h => by simp at h, hC.done⟩

end Go.Proofs.Qxb6003464a
