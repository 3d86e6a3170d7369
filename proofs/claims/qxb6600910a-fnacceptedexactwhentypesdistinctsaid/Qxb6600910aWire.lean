/-
  zzToWire (13).
-/
import Derived.Test.Qxb6600910aFill
import Derived.Test.Qxb6600910aClone
namespace Go.Proofs.Qxb6600910a
open Go.RowKit

theorem info61 : (Try.prog.info? 61).map (fun i => (i.zero, i.size, i.bytes)) = some (some (.agg #[.int .u8 0, .int .u16 0, .slice none 0 0]), 3, 32) := by kernel_rfl
theorem info66 : (Try.prog.info? 66).map (fun i => (i.zero, i.size, i.bytes)) = some (some (.agg #[.int .u16 0, .bool false, .slice none 0 0]), 3, 32) := by kernel_rfl

/-- How zzToWire ends. -/
def Wired (w : World) (l : List Trans) (e : Ending) (w' : World) : Prop :=
  ∃ ao c, e = .returned (.slice ao l.length c) ∧ IsTranses (fun b => w.heap.size ≤ b ∧ b < w'.heap.size) w' (.slice ao l.length c) l ∧ Below w.heap.size w w'

/-- The outer table: k transforms laid; the others' attributes are nil still. -/
structure OutT (w wr : World) (ts : List Trans) (k : Nat) : Prop where
  fill : Filling 3 61 elTrans w wr ts k
  zero : ∀ i, k ≤ i → i < ts.length → wr.cell? ⟨w.heap.size, i * 3 + 2, none⟩ = some (.slice none 0 0)

/-- The first two stores of an element. -/
def put2 (w : World) (g o : Nat) (u v : Value) : World := (w.setCell ⟨g, o, none⟩ u).setCell ⟨g, o + 1, none⟩ v
theorem put2_size (w : World) (g o : Nat) (u v : Value) : (put2 w g o u v).heap.size = w.heap.size := by simp only [put2, size_set]
theorem put2_heap {w : World} {g o k : Nat} {u v : Value} (h : k ≠ g) : (put2 w g o u v).heap[k]? = w.heap[k]? := by unfold put2; rw [heap_set _ h, heap_set _ h]
theorem put2_cell {w : World} {g o o' : Nat} {u v : Value} (h : o' < o ∨ o + 2 ≤ o') : (put2 w g o u v).cell? ⟨g, o', none⟩ = w.cell? ⟨g, o', none⟩ := by unfold put2; rw [cell_set_off _ (by omega), cell_set_off _ (by omega)]
theorem put2_0 {w : World} {g o : Nat} {u v x : Value} (h : w.cell? ⟨g, o, none⟩ = some x) : (put2 w g o u v).cell? ⟨g, o, none⟩ = some u := by unfold put2; rw [cell_set_off _ (by omega), cell_set_same _ h]
theorem put2_1 {w : World} {g o : Nat} {u v x : Value} (h : w.cell? ⟨g, o + 1, none⟩ = some x) : (put2 w g o u v).cell? ⟨g, o + 1, none⟩ = some v := by
  unfold put2; rw [cell_set_same (v := x)]; rw [cell_set_off _ (by omega)]; exact h

theorem OutT.nil {w wr : World} {ts : List Trans} {k : Nat} (h : OutT w wr ts k) (hk : k < ts.length) (hn : ts[k].attrs = []) : OutT w (put2 wr w.heap.size (k * 3) (bv ts[k].ty) (hv ts[k].id)) ts (k + 1) := by
  obtain ⟨x0, y0⟩ := h.fill.tab.cell (k * 3) (by omega)
  obtain ⟨x1, y1⟩ := h.fill.tab.cell (k * 3 + 1) (by omega)
  refine ⟨h.fill.next stableT hk ((h.fill.tab.set _ _).set _ _) (by rw [put2_size]; exact Nat.le_refl _) (fun b hb _ => put2_heap (by omega)) (fun o ho => put2_cell (by omega)) ⟨put2_0 y0, put2_1 y1, .slice none 0 0, ?_, ?_⟩, fun i h1 h2 => ?_⟩
  · rw [put2_cell (by omega)]; exact h.zero k (Nat.le_refl _) hk
  · rw [hn]; exact ⟨none, 0, rfl, fun _ => rfl, fun h => by simp at h⟩
  · rw [put2_cell (by omega)]; exact h.zero i (by omega) h2

theorem OutT.some {w wr W : World} {ts : List Trans} {k : Nat} (h : OutT w wr ts k) (hk : k < ts.length) {va : Value} (hb : Below wr.heap.size (put2 wr w.heap.size (k * 3) (bv ts[k].ty) (hv ts[k].id)) W) (ha : IsAttrs (fun b => wr.heap.size ≤ b ∧ b < W.heap.size) W va ts[k].attrs) :
    OutT w (W.setCell ⟨w.heap.size, k * 3 + 2, none⟩ va) ts (k + 1) := by
  obtain ⟨x0, y0⟩ := h.fill.tab.cell (k * 3) (by omega)
  obtain ⟨x1, y1⟩ := h.fill.tab.cell (k * 3 + 1) (by omega)
  have hlt := h.fill.tab.lt
  have hsz : wr.heap.size ≤ W.heap.size := by have := hb.size; rw [put2_size] at this; exact this
  have ht : Tab w W 61 3 ts.length := ((h.fill.tab.set _ _).set _ _).later (by rw [size_set, size_set]; exact hb)
  have hcell : ∀ o, W.cell? ⟨w.heap.size, o, none⟩ = (put2 wr w.heap.size (k * 3) (bv ts[k].ty) (hv ts[k].id)).cell? ⟨w.heap.size, o, none⟩ := fun o => hb.cell (p := ⟨w.heap.size, o, none⟩) hlt
  obtain ⟨x2, y2⟩ := ht.cell (k * 3 + 2) (by omega)
  refine ⟨h.fill.next stableT hk (ht.set _ _) (by rw [size_set]; exact hsz) (fun b h1 h2 => ?_) (fun o ho => ?_) ⟨?_, ?_, va, cell_set_same _ y2, ?_⟩, fun i h1 h2 => ?_⟩
  · rw [heap_set _ (by omega), hb.block b h2, put2_heap (by omega)]
  · rw [cell_set_off _ (by omega), hcell, put2_cell (by omega)]
  · rw [cell_set_off _ (by omega), hcell, put2_0 y0]
  · rw [cell_set_off _ (by omega), hcell, put2_1 y1]
  · exact ha.move (fun b hbb => ⟨⟨by omega, by rw [size_set]; exact hbb.2⟩, heap_set _ (by omega)⟩)
  · rw [cell_set_off _ (by omega), hcell, put2_cell (by omega)]; exact h.zero i (by omega) h2

/-- An attribute is laid: its three stores, the copy of its value between. -/
theorem attr_next {w wr W : World} {ats : List Attr} {k : Nat} (h : Filling 3 66 elAttr w wr ats k) (hk : k < ats.length) {va : Value} (hb : Below wr.heap.size (put2 wr w.heap.size (k * 3) (hv ats[k].ty) (.bool ats[k].tv)) W) (ha : IsBytes (fun b => wr.heap.size ≤ b ∧ b < W.heap.size) W va ats[k].val) :
    Filling 3 66 elAttr w (W.setCell ⟨w.heap.size, k * 3 + 2, none⟩ va) ats (k + 1) := by
  obtain ⟨x0, y0⟩ := h.tab.cell (k * 3) (by omega)
  obtain ⟨x1, y1⟩ := h.tab.cell (k * 3 + 1) (by omega)
  have hlt := h.tab.lt
  have hsz : wr.heap.size ≤ W.heap.size := by have := hb.size; rw [put2_size] at this; exact this
  have ht : Tab w W 66 3 ats.length := ((h.tab.set _ _).set _ _).later (by rw [size_set, size_set]; exact hb)
  have hcell : ∀ o, W.cell? ⟨w.heap.size, o, none⟩ = (put2 wr w.heap.size (k * 3) (hv ats[k].ty) (.bool ats[k].tv)).cell? ⟨w.heap.size, o, none⟩ := fun o => hb.cell (p := ⟨w.heap.size, o, none⟩) hlt
  obtain ⟨x2, y2⟩ := ht.cell (k * 3 + 2) (by omega)
  refine h.next stableA hk (ht.set _ _) (by rw [size_set]; exact hsz) (fun b h1 h2 => ?_) (fun o ho => ?_) ⟨?_, ?_, va, cell_set_same _ y2, ?_⟩
  · rw [heap_set _ (by omega), hb.block b h2, put2_heap (by omega)]
  · rw [cell_set_off _ (by omega), hcell, put2_cell (by omega)]
  · rw [cell_set_off _ (by omega), hcell, put2_0 y0]
  · rw [cell_set_off _ (by omega), hcell, put2_1 y1]
  · exact ha.move (fun b hbb => ⟨⟨by omega, by rw [size_set]; exact hbb.2⟩, heap_set _ (by omega)⟩)

set_option maxHeartbeats 4000000 in
set_option maxRecDepth 100000 in
theorem toWire_any (v : Value) (ts : List Trans) (w : World) (hl : ts.length ≤ 1048576) (hT : ∀ t ∈ ts, LT 1048576 t) (h : IsTranses (· < w.heap.size) w v ts) : Calls Try.prog 13 #[v] w (Wired w ts) := by
  have q0 : ∀ (w : World) (a : Option Addr) (n c n' c' : Nat), (binOp .eql 22 (.slice a n c) (.slice none n' c')).run Try.prog w = .ok (.bool a.isNone) w := fun w a n c n' c' => Lib.run_eql_slice_nil w _ _ a n c n' c' Try.underlying22
  have q1 : ∀ (w : World) (a : Option Addr) (n c n' c' : Nat), (binOp .neq 53 (.slice a n c) (.slice none n' c')).run Try.prog w = .ok (.bool (!a.isNone)) w := fun w a n c n' c' => run_neq_slice_nil_any w _ _ a n c n' c' Try.underlying53
  obtain ⟨ao, cap, rfl, hz, hs⟩ := h
  cases ao with
  | none =>
    have := hz rfl
    subst this
    clear hs hT q1
    go_enter Try.func13, Try.ntmps13
    go_wp2
    go_ret
    exact ⟨none, 0, rfl, ⟨none, 0, rfl, fun _ => rfl, fun h => by simp at h⟩, Below.refl _ _⟩
  | some a =>
  have HT := hide hT
  clear hT hz
  obtain ⟨i0, hi, hz0, hz1, hz2⟩ := info_parts info61
  go_enter Try.func13, Try.ntmps13
  go_wp2_with (at_make; go_must (refine wpList_make_full _ rfl _ _ 26 rfl w.heap.size 61 i0 _ 3 Try.underlying26 hi hz0 hz1 .i64 .i64 (ts.length : Int) (ts.length : Int) ts.length rfl rfl rfl rfl (by rw [hz2]; omega) (by unfold maxLen; omega) (Nat.le_refl _) ?_))
  intro w1 hown hg
  have hO : OutT w w1 ts 0 := ⟨⟨⟨⟨_, hown⟩, (Below.refl _ _).grown hg (Nat.le_refl _) (fun k h => by cases h)⟩, fun i _ h => by omega⟩, fun i _ hi => by
    rw [hown.cellAt _ (by omega), made_at _ _ 3 2 i rfl (by omega) hi]; rfl⟩
  clear hown hg hi hz0 hz1 hz2 q0
  go_wp2
  go_loopw [4] (fun i wr => ∃ k : Nat, k ≤ ts.length ∧ i = .int .i64 k ∧ OutT w wr ts k) (fun i _ => ts.length - (intOf i).toNat)
  case atStart => exact ⟨0, Nat.zero_le _, rfl, hO⟩
  case round =>
    clear hO
    obtain ⟨k, hk, rfl, hO⟩ := hrel
    by_cases hlt : k < ts.length
    · obtain ⟨b, off, ha, hbl, hel⟩ := hs (by omega)
      simp only [Option.some.injEq] at ha
      subst ha
      have hE : elTrans (· < w.heap.size) wr b (off + k * 3) ts[k] := (hel k hlt).move hbl (fun b hb => ⟨hb, hO.fill.tab.bel.block b hb⟩)
      have hTr := unhide HT _ (List.getElem_mem hlt)
      clear hel
      have t0 := hE.c0
      have t1 := hE.c1
      obtain ⟨va, t2, hAt⟩ := hE.c2
      obtain ⟨x0, y0⟩ := hO.fill.tab.cell (k * 3) (by omega)
      obtain ⟨x1, y1⟩ := hO.fill.tab.cell (k * 3 + 1) (by omega)
      have y2 := hO.zero k (Nat.le_refl _) hlt
      have fz := hO.fill.tab.frz
      unfold bv at t0
      unfold hv at t1
      have hAt' := hAt
      obtain ⟨ao', cap', rfl, hz', hs'⟩ := hAt'
      cases ao' with
      | none =>
        have hN := hide (hO.nil hlt (hz' rfl))
        have hz'' := hz' rfl
        clear hs' hE hAt hO hz'
        generalize ts[k] = tr at *
        go_wp2
        go_roundw
        case rel => exact ⟨k + 1, by omega, by go_num, unhide hN⟩
        case measure => simp [intOf]; omega
      | some a' =>
        obtain ⟨hA1, hA2⟩ := hTr
        have hS := fun W va => hide (hO.some (W := W) (va := va) hlt)
        have HS := hide hS
        have hOb := hO.fill.tab.lt
        have hbl' : b < wr.heap.size := by omega
        have HO := hide hO.fill.tab.frz
        clear hS hE hO
        generalize ts[k] = tr at *
        have HA := hide hA2
        have HAt := hide hAt
        clear hA2 hz' hAt hs'
        obtain ⟨j0, gi, gz0, gz1, gz2⟩ := info_parts info66
        go_wp2_with (at_make; go_must (refine wpList_make_full _ rfl _ _ 59 rfl wr.heap.size 66 j0 _ 3 Try.underlying59 gi gz0 gz1 .i64 .i64 (tr.attrs.length : Int) (tr.attrs.length : Int) tr.attrs.length rfl rfl rfl rfl (by rw [gz2]; omega) (by unfold maxLen; omega) (by rw [size_set, size_set]; exact Nat.le_refl _) ?_))
        intro w2 hown hg
        have hs2 := put2_size wr w.heap.size (k * 3) (bv tr.ty) (hv tr.id)
        have hF : Filling 3 66 elAttr (put2 wr w.heap.size (k * 3) (bv tr.ty) (hv tr.id)) w2 tr.attrs 0 :=
          ⟨⟨⟨_, by rw [hs2]; exact hown⟩, (Below.refl _ _).grown hg (Nat.le_refl _) (fun k h => by cases h)⟩, fun i _ h => by omega⟩
        have HAt2 : Hid (IsAttrs (· < w.heap.size) (put2 wr w.heap.size (k * 3) (bv tr.ty) (hv tr.id)) (.slice (some a') tr.attrs.length cap') tr.attrs) :=
          IsAttrs.move (unhide HAt) (fun b hb => ⟨hb, put2_heap (by omega)⟩)
        have hO2 : ∀ o, (put2 wr w.heap.size (k * 3) (bv tr.ty) (hv tr.id)).frozen? ⟨w.heap.size, o, none⟩ = false := fun o => by
          unfold put2; rw [World.frozen?_setCell, World.frozen?_setCell]; exact unhide HO o
        have hO3 : (put2 wr w.heap.size (k * 3) (bv tr.ty) (hv tr.id)).cell? ⟨w.heap.size, k * 3 + 2, none⟩ = some (.slice none 0 0) := by rw [put2_cell (by omega)]; exact y2
        clear hown hg gi gz0 gz1 gz2 HAt HO x0 y0 x1 y1 y2 fz t0 t1 t2
        obtain ⟨wo, rfl⟩ : ∃ wo, wo = wr := ⟨_, rfl⟩
        generalize put2 wo w.heap.size (k * 3) (bv tr.ty) (hv tr.id) = W2 at *
        clear hs
        go_wp2
        go_loopw [7] (fun i wx => ∃ j : Nat, j ≤ tr.attrs.length ∧ i = .int .i64 j ∧ Filling 3 66 elAttr W2 wx tr.attrs j) (fun i _ => tr.attrs.length - (intOf i).toNat)
        case atStart => exact ⟨0, Nat.zero_le _, rfl, hF⟩
        case round =>
          clear hF
          obtain ⟨j, hj, rfl, hF⟩ := hrel
          by_cases hjl : j < tr.attrs.length
          · obtain ⟨ao', cap'', e', -, hs'⟩ := unhide HAt2
            simp only [Value.slice.injEq, true_and] at e'
            obtain ⟨e1, e2⟩ := e'
            subst e1 e2
            obtain ⟨b', off', ha, hbl2, hel⟩ := hs' (by omega)
            simp only [Option.some.injEq] at ha
            subst ha
            have hE : elAttr (· < w.heap.size) wr b' (off' + j * 3) tr.attrs[j] := (hel j hjl).move hbl2 (fun b hb => ⟨hb, hF.tab.bel.block b (by omega)⟩)
            have hV := unhide HA _ (List.getElem_mem hjl)
            have t0 := hE.c0
            have t1 := hE.c1
            obtain ⟨vb, t2, hBy⟩ := hE.c2
            obtain ⟨x0, y0⟩ := hF.tab.cell (j * 3) (by omega)
            obtain ⟨x1, y1⟩ := hF.tab.cell (j * 3 + 1) (by omega)
            obtain ⟨x2, y2⟩ := hF.tab.cell (j * 3 + 2) (by omega)
            rw [hs2] at y0 y1 y2
            have fz := hF.tab.frz
            rw [hs2] at fz
            unfold hv at t0
            have hltF := hF.tab.lt
            rw [hs2] at hltF
            have hNx := fun W va => hide (attr_next (W := W) (va := va) hF hjl)
            rw [hs2] at hNx
            have HN := hide hNx
            clear hNx hel hs' HAt2 hE hF
            generalize tr.attrs[j] = at' at *
            have hBy2 : IsBytes (· < (put2 wr wo.heap.size (j * 3) (hv at'.ty) (.bool at'.tv)).heap.size) (put2 wr wo.heap.size (j * 3) (hv at'.ty) (.bool at'.tv)) vb at'.val :=
              hBy.move (fun b hb => ⟨by rw [put2_size]; omega, put2_heap (by omega)⟩)
            have e26 := cloneBytes_any vb at'.val _ hV hBy2
            have HC := hide e26
            obtain ⟨aob, capb, rfl, -, -⟩ := hBy
            clear e26 hBy2
            go_wp2_with fail
            refine (unhide HC).mono ?_
            rintro e w5 ⟨ao5, c5, rfl, hb5, hB5⟩
            rw [put2_size] at hb5 hB5
            have hNN := unhide HN w5 (.slice ao5 at'.val.length c5) hB5 hb5
            have g2 : w5.cell? ⟨wo.heap.size, j * 3 + 2, none⟩ = some x2 := by
              rw [hB5.cell (p := ⟨wo.heap.size, j * 3 + 2, none⟩) hltF, put2_cell (by omega)]; exact y2
            have gf : w5.frozen? ⟨wo.heap.size, j * 3 + 2, none⟩ = false := by
              rw [hB5.frozen (p := ⟨wo.heap.size, j * 3 + 2, none⟩) hltF]; unfold put2; rw [World.frozen?_setCell, World.frozen?_setCell]; exact fz _
            have HNN := hide hNN
            clear hb5 hB5 HN HC hNN y0 y1 y2 fz t0 t1 t2
            go_wp2
            go_roundw
            case rel => exact ⟨j + 1, by omega, by go_num, unhide HNN⟩
            case measure => simp [intOf]; omega
          · have hjm : j = tr.attrs.length := by omega
            subst hjm
            have hD := hF.done stableA
            rw [hs2] at hD
            have hbel := hF.tab.bel
            rw [hs2] at hbel
            have g2 : wr.cell? ⟨w.heap.size, k * 3 + 2, none⟩ = some (.slice none 0 0) := (hbel.cell (p := ⟨w.heap.size, k * 3 + 2, none⟩) hOb).trans hO3
            have gf : wr.frozen? ⟨w.heap.size, k * 3 + 2, none⟩ = false := (hbel.frozen (p := ⟨w.heap.size, k * 3 + 2, none⟩) hOb).trans (hO2 _)
            have HNN := hide (unhide HS wr _ hbel hD)
            clear hF hD hbel HS hO2 hO3 HAt2
            go_wp2
            go_roundw
            case rel => exact ⟨k + 1, by omega, by go_num, unhide HNN⟩
            case measure => simp [intOf]; omega
    · have hkn : k = ts.length := by omega
      subst hkn
      have H1 := hide (hO.fill.done stableT)
      have H2 := hide hO.fill.tab.bel
      clear hO hs
      go_wp2
      go_ret
      exact ⟨_, _, rfl, H1, H2⟩
end Go.Proofs.Qxb6600910a
