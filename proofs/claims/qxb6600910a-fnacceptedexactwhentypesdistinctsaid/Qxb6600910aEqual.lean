/-
  (*Transform).Equal (45).
-/
import Derived.Test.Qxb6600910aMem
import Derived.Test.Qxb6600910aProg
import Derived.BigQuiet
import Derived.Laws.BytesArg
namespace Go.Proofs.Qxb6600910a
open Go.RowKit

def strB (l : List UInt8) : ByteArray := ⟨l.toArray⟩
theorem strB_ne {a b : List UInt8} (h : a ≠ b) : ((strB a).toList == (strB b).toList) = false := by
  rw [ByteArray.toList_eq, ByteArray.toList_eq]
  simpa [strB] using h

theorem strOfNums_bytes (l : List UInt8) : strOfNums (l.map fun c => (c.toNat : Int)) = strB l := by
  unfold strOfNums strB
  congr 1
  rw [List.map_map]
  congr 1
  conv => rhs; rw [← List.map_id l]
  apply List.map_congr_left
  intro c _
  simp

/-- string(d). -/
theorem run_str (w : World) (p : Nat → Prop) (v : Value) (l : List UInt8) (h : IsBytes p w v l) : (convert 33 9 v).run Try.prog w = .ok (.string (strB l)) w := by
  obtain ⟨ao, cap, rfl, hz, hs⟩ := h
  by_cases h0 : l.length = 0
  · have h1 : l = [] := List.eq_nil_of_length_eq_zero h0
    subst h1
    cases ao with
    | none => exact run_convert_bytes_nil w 33 5 Try.underlying33 Try.underlying5 0 cap 9 Try.underlying9
    | some a =>
      rw [List.length_nil, run_convert_bytes_string w 33 9 5 _ 0 cap Try.underlying33 Try.underlying5 Try.underlying9]
      have hl : (loadCells a 0).run Try.prog w = .ok #[] w := run_loadCells_list (P := Try.prog) w a [] (fun j v h => by simp at h)
      simp [Conv.bytesToString, hl]
      rfl
  · obtain ⟨b, off, rfl, -, hc⟩ := hs (by omega)
    have := run_convert_bytes_arg w 33 5 Try.underlying33 Try.underlying5 b off l.length cap (l.map fun c => (c.toNat : Int)) (by simp) (fun i hi => by
      have := hc i hi
      unfold elByte bv at this
      rw [Nat.mul_one] at this
      rw [this]; simp [hi]) 9 Try.underlying9
    rw [strOfNums_bytes] at this
    exact this

theorem eqAs_drop (A B : List Attr) (k : Nat) (ha : k < A.length) (hb : k < B.length) (h : eqAs A B = eqAs (A.drop k) (B.drop k)) : eqAs A B = (eqA A[k] B[k] && eqAs (A.drop (k + 1)) (B.drop (k + 1))) := by
  rw [h, List.drop_eq_getElem_cons ha, List.drop_eq_getElem_cons hb, eqAs]

/-- It answers r; only new memory is written. -/
def AnsNew (w : World) (r : Bool) (e : Ending) (w' : World) : Prop := e = .returned (.bool r) ∧ Below w.heap.size w w'

theorem u8_ne {a b : UInt8} (h : a ≠ b) : ((a.toNat : Int) != (b.toNat : Int)) = true := by
  simp only [bne_iff_ne, ne_eq]; intro e; exact h (UInt8.toNat.inj (by omega))
theorem u16_ne {a b : UInt16} (h : a ≠ b) : ((a.toNat : Int) != (b.toNat : Int)) = true := by
  simp only [bne_iff_ne, ne_eq]; intro e; exact h (UInt16.toNat.inj (by omega))
theorem nat_ne {a b : Nat} (h : a ≠ b) : ((a : Int) != (b : Int)) = true := by
  simp only [bne_iff_ne, ne_eq]; omega
theorem eqAs_len : ∀ (A B : List Attr), A.length ≠ B.length → eqAs A B = false
  | [], [], h => absurd rfl h
  | [], _ :: _, _ => rfl
  | _ :: _, [], _ => rfl
  | a :: A, b :: B, h => by rw [eqAs, eqAs_len A B (by simpa using h), Bool.and_false]
theorem below_drewN {B : Nat} {a w : World} (h : Below B a w) (n : Nat) : Below B a (w.drewN n) := ⟨h.os, h.tape, h.output, h.size, h.block⟩

set_option maxHeartbeats 4000000 in
set_option maxRecDepth 100000 in
theorem equal_any (b1 b2 : Nat) (t u : Trans) (w : World) (h1 : elTrans (· < w.heap.size) w b1 0 t) (h2 : elTrans (· < w.heap.size) w b2 0 u) (hb2 : b2 < w.heap.size) (hl2 : u.attrs.length ≤ 1048576) :
    Calls Try.prog 45 #[.pointer (some ⟨b1, 0, none⟩), .pointer (some ⟨b2, 0, none⟩)] w (AnsNew w (eqT t u)) := by
  have p0 := h1.c0
  have p1 := h1.c1
  obtain ⟨va, p2, ao, cap, rfl, hz, hs⟩ := h1.c2
  have q0 := h2.c0
  have q1 := h2.c1
  obtain ⟨vb, q2, bo, capb, rfl, hzb, hsb⟩ := h2.c2
  clear h1 h2 hz hzb
  unfold bv at p0 q0
  unfold hv at p1 q1
  go_enter Try.func45, Try.ntmps45
  by_cases e0 : t.ty = u.ty
  · by_cases e1 : t.id = u.id
    · by_cases e2 : t.attrs.length = u.attrs.length
      · have HE : Hid (eqT t u = eqAs t.attrs u.attrs) := by show _ = _; unfold eqT; rw [e0, e1]; simp
        rw [e0] at p0
        rw [e1] at p1
        rw [e2] at p2
        have E2 := hide e2
        clear e0 e1 e2
        have hI0 : Hid (eqAs t.attrs u.attrs = eqAs (t.attrs.drop 0) (u.attrs.drop 0)) := by show _ = _; simp
        go_wp2
        go_quiet (fail)
        go_wp2
        go_loopw [46] (fun i wr => ∃ k : Nat, k ≤ u.attrs.length ∧ i = .int .i64 k ∧ Below w.heap.size w wr ∧ Hid (eqAs t.attrs u.attrs = eqAs (t.attrs.drop k) (u.attrs.drop k))) (fun i _ => u.attrs.length - (intOf i).toNat)
        case atStart => exact ⟨0, Nat.zero_le _, rfl, below_drewN (Below.refl _ _) _, hI0⟩
        case round =>
          clear hI0 p0 p1 q0 q1
          obtain ⟨k, hk, rfl, hB, hI⟩ := hrel
          by_cases hkn : k < u.attrs.length
          · have E2' := unhide E2
            obtain ⟨g1, o1, rfl, hg1, hc1⟩ := hs (by omega)
            obtain ⟨g2, o2, rfl, hg2, hc2⟩ := hsb (by omega)
            have hkt : k < t.attrs.length := by omega
            clear E2'
            have A1 := (hc1 k hkt).move hg1 (w' := wr) (p' := (· < w.heap.size)) (fun b hb => ⟨hb, hB.block b hb⟩)
            have A2 := (hc2 k hkn).move hg2 (w' := wr) (p' := (· < w.heap.size)) (fun b hb => ⟨hb, hB.block b hb⟩)
            have hS := eqAs_drop _ _ k hkt hkn (unhide hI)
            rw [unhide HE]
            have hg1' : g1 < wr.heap.size := Nat.lt_of_lt_of_le hg1 hB.size
            have hg2' : g2 < wr.heap.size := Nat.lt_of_lt_of_le hg2 hB.size
            have hb2' : b2 < wr.heap.size := by have := hB.size; omega
            have q2' : wr.cell? ⟨b2, 2, none⟩ = some (.slice (some ⟨g2, o2, none⟩) u.attrs.length capb) := (hB.cell (p := ⟨b2, 2, none⟩) hb2).trans q2
            clear hc1 hc2 hs hsb hI q2 p2
            generalize (t.attrs[k]'hkt) = a at *
            generalize (u.attrs[k]'hkn) = b at *
            have a0 := A1.c0
            have a1 := A1.c1
            obtain ⟨va, a2, hBa⟩ := A1.c2
            have b0 := A2.c0
            have b1' := A2.c1
            obtain ⟨vb, b2', hBb⟩ := A2.c2
            unfold hv at a0 b0
            have hBa' := hBa
            have hBb' := hBb
            obtain ⟨aoa, capa, rfl, -, -⟩ := hBa'
            obtain ⟨aob, capb', rfl, -, -⟩ := hBb'
            have hca : ∀ o o', (convert 33 9 (.slice aoa a.val.length capa)).run Try.prog ((wr.alloc o).alloc o') = .ok (.string (strB a.val)) ((wr.alloc o).alloc o') := fun o o' => run_str _ (fun x => x < w.heap.size) _ _ (hBa.move fun x hx => ⟨hx, by rw [Below.heap_alloc _ _ _ (by simp; have := hB.size; omega), Below.heap_alloc _ _ _ (by have := hB.size; omega)]⟩)
            have hcb : ∀ o o', (convert 33 9 (.slice aob b.val.length capb')).run Try.prog ((wr.alloc o).alloc o') = .ok (.string (strB b.val)) ((wr.alloc o).alloc o') := fun o o' => run_str _ (fun x => x < w.heap.size) _ _ (hBb.move fun x hx => ⟨hx, by rw [Below.heap_alloc _ _ _ (by simp; have := hB.size; omega), Below.heap_alloc _ _ _ (by have := hB.size; omega)]⟩)
            have hB2 : ∀ o o', Hid (Below w.heap.size w ((wr.alloc o).alloc o')) := fun o o' => (hB.alloc hB.size _).alloc (by have := hB.size; simp; omega) _
            have HB2 := hide hB2
            clear hB2 A1 A2 hBa hBb
            unfold eqA at hS
            by_cases f0 : a.ty = b.ty
            · rw [f0] at a0 hS
              by_cases f1 : a.tv = b.tv
              · rw [f1] at a1 hS
                by_cases f2 : a.val = b.val
                · rw [f2] at a2 hca hS
                  have hS2 : Hid (eqAs t.attrs u.attrs = eqAs (t.attrs.drop (k + 1)) (u.attrs.drop (k + 1))) := by show _ = _; rw [hS]; simp
                  clear hS f0 f1 f2
                  go_wp2
                  go_roundw
                  case rel => exact ⟨k + 1, by omega, by go_num, unhide HB2 _ _, hS2⟩
                  case measure => simp [intOf]; omega
                · have n2 := strB_ne f2
                  have hS2 : Hid (eqAs t.attrs u.attrs = false) := by show _ = _; rw [hS]; simp [f2]
                  clear hS f0 f1 f2
                  go_wp2
                  go_ret
                  exact ⟨by rw [unhide hS2]; rfl, unhide HB2 _ _⟩
              · have hS2 : Hid (eqAs t.attrs u.attrs = false) := by show _ = _; rw [hS]; simp [f1]
                have n2 : (a.tv = true ∧ b.tv = false) ∨ (a.tv = false ∧ b.tv = true) := by
                  revert f1; cases a.tv <;> cases b.tv <;> simp
                clear hS f0 f1
                rcases n2 with ⟨x, y⟩ | ⟨x, y⟩
                all_goals
                  rw [x] at a1
                  rw [y] at b1'
                  go_wp2
                  go_ret
                  exact ⟨by rw [unhide hS2]; rfl, unhide HB2 _ _⟩
            · have n2 := u16_ne f0
              have hS2 : Hid (eqAs t.attrs u.attrs = false) := by show _ = _; rw [hS]; simp [f0]
              clear hS f0
              go_wp2
              go_ret
              exact ⟨by rw [unhide hS2]; rfl, unhide HB2 _ _⟩
          · have hkn : k = u.attrs.length := by omega
            subst hkn
            have hS2 : Hid (eqT t u = true) := by
              show _ = _
              rw [unhide HE, unhide hI, List.drop_of_length_le (by rw [unhide E2]; exact Nat.le_refl _), List.drop_of_length_le (Nat.le_refl _)]; rfl
            clear hs hsb hI HE E2
            go_wp2
            go_ret
            exact ⟨by rw [unhide hS2]; rfl, hB⟩
      · have n2 := nat_ne e2
        have hS2 : Hid (eqT t u = false) := by show _ = _; unfold eqT; rw [eqAs_len _ _ e2]; simp
        rw [e0] at p0
        rw [e1] at p1
        clear e2 e0 e1 hs hsb
        go_wp2
        go_quiet (fail)
        go_wp2
        go_ret
        exact ⟨by rw [unhide hS2]; rfl, below_drewN (Below.refl _ _) _⟩
    · have n1 := u16_ne e1
      have hS2 : Hid (eqT t u = false) := by show _ = _; unfold eqT; simp [e1]
      rw [e0] at p0
      clear e0 e1 hs hsb
      go_wp2
      go_quiet (fail)
      go_wp2
      go_ret
      exact ⟨by rw [unhide hS2]; rfl, below_drewN (Below.refl _ _) _⟩
  · have n0 := u8_ne e0
    have hS2 : Hid (eqT t u = false) := by show _ = _; unfold eqT; simp [e0]
    clear e0 hs hsb
    go_wp2
    go_quiet (fail)
    go_wp2
    go_ret
    exact ⟨by rw [unhide hS2]; rfl, below_drewN (Below.refl _ _) _⟩
end Go.Proofs.Qxb6600910a
