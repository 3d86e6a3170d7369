/-
  zzToSA (21).
-/
import Derived.Test.Qxb6600910aWire
import Derived.Deep.RegionHeld
import Derived.WalkSmall
namespace Go.Proofs.Qxb6600910a
open Go.RowKit

theorem info42 : (Try.prog.info? 42).map (fun i => (i.zero, i.size, i.bytes)) = some (some (.agg #[.int .u8 0, .int .u8 0, .slice none 0 0, .slice none 0 0]), 4, 56) := by kernel_rfl

section
variable {α : Type} {s T : Nat} {el : (Nat → Prop) → World → Nat → Nat → α → Prop} {w wr w1 : World} {l : List α} {k : Nat}

/-- A store into the table's own cells from element k on. -/
theorem Filling.touch (st : Stable s el) (h : Filling s T el w wr l k) {o : Nat} (ho : k * s ≤ o) (u : Value) : Filling s T el w (wr.setCell ⟨w.heap.size, o, none⟩ u) l k := by
  refine ⟨h.tab.set o u, fun i hi hik => st _ _ _ _ _ _ _ (h.each i hi hik) (fun j hj => cell_set_off _ ?_) (fun b hb => ⟨⟨hb.1, by rw [size_set]; exact hb.2⟩, heap_set _ (by omega)⟩)⟩
  have : (i + 1) * s ≤ k * s := Nat.mul_le_mul_right s (by omega)
  rw [Nat.add_mul] at this
  omega
/-- New blocks; draws. -/
theorem Filling.later (st : Stable s el) (h : Filling s T el w wr l k) (hb : Below wr.heap.size wr w1) : Filling s T el w w1 l k :=
  ⟨h.tab.later hb, fun i hi hik => st _ _ _ _ _ _ _ (h.each i hi hik) (fun j _ => hb.cell (p := ⟨w.heap.size, i * s + j, none⟩) h.tab.lt) (fun b hbb => ⟨⟨hbb.1, Nat.lt_of_lt_of_le hbb.2 hb.size⟩, hb.block b hbb.2⟩)⟩
theorem Filling.close (h : Filling s T el w wr l k) (hk : k < l.length) (he : el (fun b => w.heap.size < b ∧ b < wr.heap.size) wr w.heap.size (k * s) l[k]) : Filling s T el w wr l (k + 1) := by
  refine ⟨h.tab, fun i hi hik => ?_⟩
  by_cases e : i = k
  · subst e; exact he
  · exact h.each i hi (by omega)
end

theorem below_set2 {B : Nat} {w w1 : World} (h : Below B w w1) (a : Addr) (u : Value) : Below B (w.setCell a u) (w1.setCell a u) := by
  refine ⟨h.os, h.tape, h.output, by rw [size_set, size_set]; exact h.size, fun k hk => ?_⟩
  simp only [World.setCell, Array.getElem?_modify]
  rw [h.block k hk]

/-- The proposal's first cells are laid. -/
structure Stage (X wr : World) (ps : List Prp) (k : Nat) (q : Prp) (i : Nat) : Prop where
  fill : Filling 4 42 elPrp X wr ps k
  c0 : 0 < i → wr.cell? ⟨X.heap.size, k * 4, none⟩ = some (bv q.num)
  c1 : 1 < i → wr.cell? ⟨X.heap.size, k * 4 + 1, none⟩ = some (bv q.proto)
  c2 : 2 < i → ∃ v, wr.cell? ⟨X.heap.size, k * 4 + 2, none⟩ = some v ∧ IsBytes (fun b => X.heap.size < b ∧ b < wr.heap.size) wr v q.spi

section
variable {X wr w1 : World} {ps : List Prp} {k : Nat} {q : Prp}

theorem Stage.later {i : Nat} (h : Stage X wr ps k q i) (hb : Below wr.heap.size wr w1) : Stage X w1 ps k q i := by
  have hlt := h.fill.tab.lt
  refine ⟨h.fill.later stableP hb, fun hi => (hb.cell (p := ⟨X.heap.size, _, none⟩) hlt).trans (h.c0 hi), fun hi => (hb.cell (p := ⟨X.heap.size, _, none⟩) hlt).trans (h.c1 hi), fun hi => ?_⟩
  obtain ⟨v, e, hv⟩ := h.c2 hi
  exact ⟨v, (hb.cell (p := ⟨X.heap.size, _, none⟩) hlt).trans e, hv.move fun b hbb => ⟨⟨hbb.1, Nat.lt_of_lt_of_le hbb.2 hb.size⟩, hb.block b hbb.2⟩⟩

theorem Stage.one (h : Stage X wr ps k q 0) (hk : k < ps.length) : Stage X (wr.setCell ⟨X.heap.size, k * 4, none⟩ (bv q.num)) ps k q 1 := by
  obtain ⟨x, y⟩ := h.fill.tab.cell (k * 4) (by omega)
  exact ⟨h.fill.touch stableP (Nat.le_refl _) _, fun _ => cell_set_same _ y, fun hi => by omega, fun hi => by omega⟩
theorem Stage.two (h : Stage X wr ps k q 1) (hk : k < ps.length) : Stage X (wr.setCell ⟨X.heap.size, k * 4 + 1, none⟩ (bv q.proto)) ps k q 2 := by
  obtain ⟨x, y⟩ := h.fill.tab.cell (k * 4 + 1) (by omega)
  exact ⟨h.fill.touch stableP (by omega) _, fun _ => by rw [cell_set_off _ (by omega)]; exact h.c0 (by omega), fun _ => cell_set_same _ y, fun hi => by omega⟩
theorem Stage.three (h : Stage X wr ps k q 2) (hk : k < ps.length) (hb : Below wr.heap.size wr w1) {v : Value} (hv : IsBytes (fun b => wr.heap.size ≤ b ∧ b < w1.heap.size) w1 v q.spi) : Stage X (w1.setCell ⟨X.heap.size, k * 4 + 2, none⟩ v) ps k q 3 := by
  have h' := h.later hb
  have hlt := h.fill.tab.lt
  obtain ⟨x, y⟩ := h'.fill.tab.cell (k * 4 + 2) (by omega)
  exact ⟨h'.fill.touch stableP (by omega) _, fun _ => by rw [cell_set_off _ (by omega)]; exact h'.c0 (by omega), fun _ => by rw [cell_set_off _ (by omega)]; exact h'.c1 (by omega),
    fun _ => ⟨v, cell_set_same _ y, hv.move fun b hbb => ⟨⟨by omega, by rw [size_set]; exact hbb.2⟩, heap_set _ (by omega)⟩⟩⟩
theorem Stage.four (h : Stage X wr ps k q 3) (hk : k < ps.length) (hq : ps[k] = q) (hb : Below wr.heap.size wr w1) {v : Value} (hv : IsTranses (fun b => wr.heap.size ≤ b ∧ b < w1.heap.size) w1 v q.trs) : Filling 4 42 elPrp X (w1.setCell ⟨X.heap.size, k * 4 + 3, none⟩ v) ps (k + 1) := by
  have h' := h.later hb
  have hlt := h.fill.tab.lt
  obtain ⟨x, y⟩ := h'.fill.tab.cell (k * 4 + 3) (by omega)
  obtain ⟨v2, e2, hv2⟩ := h'.c2 (by omega)
  subst hq
  refine (h'.fill.touch stableP (o := k * 4 + 3) (by omega) v).close hk ⟨?_, ?_, ⟨v2, ?_, ?_⟩, ⟨v, cell_set_same _ y, ?_⟩⟩
  · rw [cell_set_off _ (by omega)]; exact h'.c0 (by omega)
  · rw [cell_set_off _ (by omega)]; exact h'.c1 (by omega)
  · rw [cell_set_off _ (by omega)]; exact e2
  · exact hv2.move fun b hbb => ⟨⟨by omega, by rw [size_set]; exact hbb.2⟩, heap_set _ (by omega)⟩
  · exact hv.move fun b hbb => ⟨⟨by omega, by rw [size_set]; exact hbb.2⟩, heap_set _ (by omega)⟩
end

theorem keepS {w : World} {g o : Nat} {u : Value} {a b : Addr} {x y : Value} (ha : a.block ≠ g) (hb : b.block ≠ g) (h1 : w.cell? a = some x) (h2 : w.cell? b = some y) :
    (w.setCell ⟨g, o, none⟩ u).drew.cell? a = some x ∧ (w.setCell ⟨g, o, none⟩ u).drew.cell? b = some y :=
  ⟨(cell_set _ _ _ ha).trans h1, (cell_set _ _ _ hb).trans h2⟩

theorem keepT {w : World} {g o : Nat} {u : Value} {a b : Addr} {x y : Value} (ha : a.block ≠ g) (hb : b.block ≠ g) (h1 : w.cell? a = some x) (h2 : w.cell? b = some y) :
    (w.setCell ⟨g, o, none⟩ u).cell? a = some x ∧ (w.setCell ⟨g, o, none⟩ u).cell? b = some y :=
  ⟨(cell_set _ _ _ ha).trans h1, (cell_set _ _ _ hb).trans h2⟩

/-- How zzToSA ends. -/
def SAed (w : World) (ps : List Prp) (e : Ending) (w' : World) : Prop :=
  ∃ vP, e = .returned (.pointer (some ⟨w.heap.size, 0, none⟩)) ∧ w'.cell? ⟨w.heap.size, 0, none⟩ = some vP ∧ IsPrps (fun b => w.heap.size < b ∧ b < w'.heap.size) w' vP ps ∧ Below w.heap.size w w' ∧ w.heap.size < w'.heap.size

set_option maxHeartbeats 4000000 in
set_option maxRecDepth 100000 in
theorem toSA_any (v : Value) (ps : List Prp) (w : World) (hl : ps.length ≤ 1048576) (hT : ∀ q ∈ ps, LP 1048576 q) (h : IsPrps (· < w.heap.size) w v ps) : Calls Try.prog 21 #[v] w (SAed w ps) := by
  have q1 : ∀ (w : World) (a : Option Addr) (n c n' c' : Nat), (binOp .neq 30 (.slice a n c) (.slice none n' c')).run Try.prog w = .ok (.bool (!a.isNone)) w := fun w a n c n' c' => run_neq_slice_nil_any w _ _ a n c n' c' Try.underlying30
  obtain ⟨ao, cap, rfl, hz, hs⟩ := h
  cases ao with
  | none =>
    have := hz rfl
    subst this
    clear hs hT
    go_enter Try.func21, Try.ntmps21
    go_wp2
    go_ret
    exact ⟨.slice none 0 0, rfl, by simp, ⟨none, 0, rfl, fun _ => rfl, fun h => by simp at h⟩, (Below.refl _ _).alloc (Nat.le_refl _) _, by simp⟩
  | some a =>
  have HT := hide hT
  clear hT hz
  obtain ⟨i0, hi, hz0, hz1, hz2⟩ := info_parts info42
  go_enter Try.func21, Try.ntmps21
  go_wp2_with (at_make; go_must (refine wpList_make_full _ rfl _ _ 43 rfl (w.heap.size + 1) 42 i0 _ 4 Try.underlying43 hi hz0 hz1 .i64 .i64 (ps.length : Int) (ps.length : Int) ps.length rfl rfl rfl rfl (by rw [hz2]; omega) (by unfold maxLen; omega) (by rw [World.size_alloc]; exact Nat.le_refl _) ?_))
  intro w1 hown hg
  have hb1 : Below (w.heap.size + 1) (w.alloc (.cells #[.slice none 0 0] 45)) w1 := (Below.refl _ _).grown hg (by simp) (fun k h => by cases h)
  have g0 : w1.cell? ⟨w.heap.size, 0, none⟩ = some (.slice none 0 0) := by rw [hb1.cell (p := ⟨w.heap.size, 0, none⟩) (by simp)]; simp
  have gf : w1.frozen? ⟨w.heap.size, 0, none⟩ = false := by rw [hb1.frozen (p := ⟨w.heap.size, 0, none⟩) (by simp)]; simp
  -- the world as if the table's address had stood in the box from the first
  obtain ⟨X, hX⟩ : ∃ X, X = (w.alloc (.cells #[.slice none 0 0] 45)).setCell ⟨w.heap.size, 0, none⟩ (.slice (some ⟨w.heap.size + 1, 0, none⟩) ps.length ps.length) := ⟨_, rfl⟩
  have hXs : X.heap.size = w.heap.size + 1 := by rw [hX, size_set, World.size_alloc]
  have hXc : X.cell? ⟨w.heap.size, 0, none⟩ = some (.slice (some ⟨w.heap.size + 1, 0, none⟩) ps.length ps.length) := by rw [hX]; exact cell_set_same (v := .slice none 0 0) _ (by simp)
  have hXb : Below w.heap.size w X := by rw [hX]; exact ((Below.refl _ _).alloc (Nat.le_refl _) _).setCell (Nat.le_refl _) _
  have hF : Filling 4 42 elPrp X (w1.setCell ⟨w.heap.size, 0, none⟩ (.slice (some ⟨w.heap.size + 1, 0, none⟩) ps.length ps.length)) ps 0 := by
    refine ⟨⟨⟨_, by rw [hXs]; exact ownsRow_setCell_below hown (by simp) _⟩, ?_⟩, fun i _ h => by omega⟩
    rw [hXs, hX]
    exact below_set2 hb1 _ _
  clear hX hown hg hi hz0 hz1 hz2 q1 hb1
  go_wp2
  go_loopw [4] (fun i wr => ∃ k : Nat, k ≤ ps.length ∧ i = .int .i64 k ∧ Filling 4 42 elPrp X wr ps k) (fun i _ => ps.length - (intOf i).toNat)
  case atStart => exact ⟨0, Nat.zero_le _, rfl, hF⟩
  case round =>
    clear hF g0 gf
    obtain ⟨k, hk, rfl, hF⟩ := hrel
    have hbX := hF.tab.bel
    rw [hXs] at hbX
    have sc : wr.cell? ⟨w.heap.size, 0, none⟩ = some (.slice (some ⟨w.heap.size + 1, 0, none⟩) ps.length ps.length) := (hbX.cell (p := ⟨w.heap.size, 0, none⟩) (by simp)).trans hXc
    by_cases hlt : k < ps.length
    · obtain ⟨b, off, ha, hbl, hel⟩ := hs (by omega)
      simp only [Option.some.injEq] at ha
      subst ha
      have hE : elPrp (· < w.heap.size) wr b (off + k * 4) ps[k] := (hel k hlt).move hbl (fun b hb => ⟨hb, by rw [hbX.block b (by omega), hXb.block b hb]⟩)
      have hTr := unhide HT _ (List.getElem_mem hlt)
      clear hel
      obtain ⟨q, hq⟩ : ∃ q, q = ps[k] := ⟨_, rfl⟩
      have hS0 : Stage X wr ps k q 0 := ⟨hF, fun h => by omega, fun h => by omega, fun h => by omega⟩
      have HQ := hide hq.symm
      rw [← hq] at hE hTr
      clear hF hbX hq
      have t0 := hE.c0
      unfold bv at t0
      obtain ⟨x0, y0⟩ := hS0.fill.tab.cell (k * 4) (by omega)
      have fz := hS0.fill.tab.frz
      rw [hXs] at y0 fz
      have n1 : b ≠ w.heap.size := by omega
      have n2 : b ≠ w.heap.size + 1 := by omega
      have i1 : (k : Int) < (ps.length : Int) := by omega
      go_wp2
      have K0 := hide (keepS (g := w.heap.size + 1) (o := k * 4) (u := .int .u8 (q.num.toNat : Int)) (a := ⟨w.heap.size, 0, none⟩) (b := ⟨b, off + k * 4, none⟩) (by simp) (by simpa using n2) sc t0)
      go_region_held (fun W => W.cell? ⟨w.heap.size, 0, none⟩ = some (.slice (some ⟨w.heap.size + 1, 0, none⟩) ps.length ps.length) ∧ W.cell? ⟨b, off + k * 4, none⟩ = some (.int .u8 (q.num.toNat : Int))) (first | exact unhide K0 | go_keep) (fail)
      have hS1 : Stage X (wr.setCell ⟨w.heap.size + 1, k * 4, none⟩ (.int .u8 (q.num.toNat : Int))).drew ps k q 1 := by
        have := (hS0.one hlt).later (w1 := (wr.setCell ⟨X.heap.size, k * 4, none⟩ (bv q.num)).drew) (Below.refl _ _).drew
        rw [hXs] at this
        exact this
      have hE1 : elPrp (· < w.heap.size) (wr.setCell ⟨w.heap.size + 1, k * 4, none⟩ (.int .u8 (q.num.toNat : Int))).drew b (off + k * 4) q :=
        hE.move hbl (fun b hb => ⟨hb, heap_set _ (by omega)⟩)
      have sc1 := (unhide K0).1
      clear hS0 hE sc t0 y0 fz K0
      generalize (wr.setCell ⟨w.heap.size + 1, k * 4, none⟩ (.int .u8 (q.num.toNat : Int))).drew = wA at *
      -- the protocol
      have t1 := hE1.c1
      unfold bv at t1
      obtain ⟨x1, y1⟩ := hS1.fill.tab.cell (k * 4 + 1) (by omega)
      have fz := hS1.fill.tab.frz
      rw [hXs] at y1 fz
      have K1 := hide (keepS (g := w.heap.size + 1) (o := k * 4 + 1) (u := .int .u8 (q.proto.toNat : Int)) (a := ⟨w.heap.size, 0, none⟩) (b := ⟨b, off + k * 4 + 1, none⟩) (by simp) (by simpa using n2) sc1 t1)
      go_wp2
      go_region_held (fun W => W.cell? ⟨w.heap.size, 0, none⟩ = some (.slice (some ⟨w.heap.size + 1, 0, none⟩) ps.length ps.length) ∧ W.cell? ⟨b, off + k * 4 + 1, none⟩ = some (.int .u8 (q.proto.toNat : Int))) (first | exact unhide K1 | go_keep) (fail)
      have hS2 : Stage X (wA.setCell ⟨w.heap.size + 1, k * 4 + 1, none⟩ (.int .u8 (q.proto.toNat : Int))).drew ps k q 2 := by
        have := (hS1.two hlt).later (w1 := (wA.setCell ⟨X.heap.size, k * 4 + 1, none⟩ (bv q.proto)).drew) (Below.refl _ _).drew
        rw [hXs] at this
        exact this
      have hE2 : elPrp (· < w.heap.size) (wA.setCell ⟨w.heap.size + 1, k * 4 + 1, none⟩ (.int .u8 (q.proto.toNat : Int))).drew b (off + k * 4) q :=
        hE1.move hbl (fun b hb => ⟨hb, heap_set _ (by omega)⟩)
      have sc2 := (unhide K1).1
      clear hS1 hE1 sc1 t1 y1 fz K1
      generalize (wA.setCell ⟨w.heap.size + 1, k * 4 + 1, none⟩ (.int .u8 (q.proto.toNat : Int))).drew = wB at *
      -- the SPI
      obtain ⟨hq0, hq1, hq2⟩ := hTr
      obtain ⟨vs, t2, hSp⟩ := hE2.c2
      have hSp2 : IsBytes (· < wB.drew.heap.size) wB.drew vs q.spi := hSp.move (fun b hb => ⟨by have := hS2.fill.tab.lt; show b < wB.heap.size; omega, rfl⟩)
      have e26 := hide (cloneBytes_any vs q.spi wB.drew hq0 hSp2)
      obtain ⟨aos, caps, rfl, -, -⟩ := hSp
      have hltB := hS2.fill.tab.lt
      have hst3 : ∀ (w5 : World) (ao5 : Option Addr) (c5 : Nat), IsBytes (fun b => wB.drew.heap.size ≤ b ∧ b < w5.heap.size) w5 (.slice ao5 q.spi.length c5) q.spi → Below wB.drew.heap.size wB.drew w5 → Stage X (w5.setCell ⟨w.heap.size + 1, k * 4 + 2, none⟩ (.slice ao5 q.spi.length c5)) ps k q 3 := by
        intro w5 ao5 c5 h1 h2
        have := hS2.three hlt (w1 := w5) ⟨h2.os, h2.tape, h2.output, h2.size, h2.block⟩ h1
        rw [hXs] at this
        exact this
      have HS3 := hide hst3
      obtain ⟨x2, y2⟩ := hS2.fill.tab.cell (k * 4 + 2) (by omega)
      have fz2 := hS2.fill.tab.frz (k * 4 + 2)
      rw [hXs] at y2 fz2 hltB
      have HE2 := hide hE2
      have y2' := hide y2
      have fz2' := hide fz2
      clear hst3 hS2 hE2 hSp2 y2 fz2
      go_wp2
      go_region_held (fun W => W.cell? ⟨w.heap.size, 0, none⟩ = some (.slice (some ⟨w.heap.size + 1, 0, none⟩) ps.length ps.length) ∧ W.cell? ⟨b, off + k * 4 + 2, none⟩ = some (.slice aos q.spi.length caps)) (first | exact unhide K2 | go_keep) (first | (go_at_call 26; refine (unhide e26).mono ?_; rintro e w5 ⟨ao5, c5, rfl, hb5, hB5⟩; have g2 := (hB5.cell (p := ⟨w.heap.size + 1, k * 4 + 2, none⟩) hltB).trans (unhide y2'); have gf := (hB5.frozen (p := ⟨w.heap.size + 1, k * 4 + 2, none⟩) hltB).trans (unhide fz2'); have s5 := (hB5.cell (p := ⟨w.heap.size, 0, none⟩) (by show w.heap.size < wB.heap.size; omega)).trans sc2; have u5 := (hB5.cell (p := ⟨b, off + k * 4 + 2, none⟩) (by show b < wB.heap.size; omega)).trans t2; have K2 := hide (keepT (g := w.heap.size + 1) (o := k * 4 + 2) (u := .slice ao5 q.spi.length c5) (a := ⟨w.heap.size, 0, none⟩) (b := ⟨b, off + k * 4 + 2, none⟩) (by simp) (by simpa using n2) s5 u5)))
      have hS3 := unhide HS3 w5 ao5 c5 hb5 hB5
      have hE3 : elPrp (· < w.heap.size) (w5.setCell ⟨w.heap.size + 1, k * 4 + 2, none⟩ (.slice ao5 q.spi.length c5)) b (off + k * 4) q :=
        (unhide HE2).move hbl (fun b hb => ⟨hb, by rw [heap_set _ (by omega), hB5.block b (by show b < wB.heap.size; omega)]; rfl⟩)
      have sc3 := (unhide K2).1
      clear HS3 HE2 hb5 hB5 K2 g2 gf s5 u5 sc2 t2 y2' fz2' e26
      generalize w5.setCell ⟨w.heap.size + 1, k * 4 + 2, none⟩ (.slice ao5 q.spi.length c5) = wC at *
      -- the transforms
      obtain ⟨vt, t3, hTt⟩ := hE3.c3
      have hltC := hS3.fill.tab.lt
      rw [hXs] at hltC
      have hTt2 : IsTranses (· < wC.drew.heap.size) wC.drew vt q.trs := hTt.move (fun b hb => ⟨by show b < wC.heap.size; omega, rfl⟩)
      have e13 := hide (toWire_any vt q.trs wC.drew hq1 hq2 hTt2)
      obtain ⟨aot, capt, rfl, -, -⟩ := hTt
      have hst4 : ∀ (w6 : World) (ao6 : Option Addr) (c6 : Nat), IsTranses (fun b => wC.drew.heap.size ≤ b ∧ b < w6.heap.size) w6 (.slice ao6 q.trs.length c6) q.trs → Below wC.drew.heap.size wC.drew w6 → Filling 4 42 elPrp X (w6.setCell ⟨w.heap.size + 1, k * 4 + 3, none⟩ (.slice ao6 q.trs.length c6)) ps (k + 1) := by
        intro w6 ao6 c6 h1 h2
        have := hS3.four hlt (unhide HQ) (w1 := w6) ⟨h2.os, h2.tape, h2.output, h2.size, h2.block⟩ h1
        rw [hXs] at this
        exact this
      have HS4 := hide hst4
      obtain ⟨x3, y3⟩ := hS3.fill.tab.cell (k * 4 + 3) (by omega)
      have fz3 := hS3.fill.tab.frz (k * 4 + 3)
      rw [hXs] at y3 fz3
      have y3' := hide y3
      have fz3' := hide fz3
      clear hst4 hS3 hE3 hTt2 y3 fz3
      go_wp2
      go_region_held (fun W => W.cell? ⟨w.heap.size, 0, none⟩ = some (.slice (some ⟨w.heap.size + 1, 0, none⟩) ps.length ps.length) ∧ W.cell? ⟨b, off + k * 4 + 3, none⟩ = some (.slice aot q.trs.length capt)) (first | exact unhide K3 | go_keep) (first | (go_at_call 13; refine (unhide e13).mono ?_; rintro e w6 ⟨ao6, c6, rfl, hb6, hB6⟩; have g3 := (hB6.cell (p := ⟨w.heap.size + 1, k * 4 + 3, none⟩) hltC).trans (unhide y3'); have gf := (hB6.frozen (p := ⟨w.heap.size + 1, k * 4 + 3, none⟩) hltC).trans (unhide fz3'); have s6 := (hB6.cell (p := ⟨w.heap.size, 0, none⟩) (by show w.heap.size < wC.heap.size; omega)).trans sc3; have u6 := (hB6.cell (p := ⟨b, off + k * 4 + 3, none⟩) (by show b < wC.heap.size; omega)).trans t3; have K3 := hide (keepT (g := w.heap.size + 1) (o := k * 4 + 3) (u := .slice ao6 q.trs.length c6) (a := ⟨w.heap.size, 0, none⟩) (b := ⟨b, off + k * 4 + 3, none⟩) (by simp) (by simpa using n2) s6 u6)))
      have HF := hide (unhide HS4 w6 ao6 c6 hb6 hB6)
      clear HS4 hb6 hB6 K3 g3 gf s6 u6 sc3 t3 y3' fz3' e13
      go_wp2
      go_roundw
      case rel => exact ⟨k + 1, by omega, by go_num, unhide HF⟩
      case measure => simp [intOf]; omega
    · have hkn : k = ps.length := by omega
      subst hkn
      have hD := hF.done stableP
      have hlt := hF.tab.lt
      rw [hXs] at hD hlt
      have hD2 : IsPrps (fun b => w.heap.size < b ∧ b < wr.heap.size) wr (.slice (some ⟨w.heap.size + 1, 0, none⟩) ps.length ps.length) ps := IsPrps.move hD (fun b hb => ⟨⟨by omega, hb.2⟩, rfl⟩)
      have H1 := hide hD2
      have H2 : Hid (Below w.heap.size w wr) := hXb.trans (hbX.mono (by omega))
      clear hD hD2 hF hbX hs
      go_wp2
      go_ret
      exact ⟨_, rfl, sc, unhide H1, unhide H2, by omega⟩
end Go.Proofs.Qxb6600910a
