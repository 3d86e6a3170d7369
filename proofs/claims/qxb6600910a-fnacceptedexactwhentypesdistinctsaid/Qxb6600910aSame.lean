/-
  zzSameMultiset (23).
-/
import Derived.Test.Qxb6600910aSort
namespace Go.Proofs.Qxb6600910a
open Go.RowKit

theorem KT.later {w w1 w2 : World} {n k : Nat} {K : List (List UInt8)} (h : KT w w1 n K k) (hb : Below w1.heap.size w1 w2) : KT w w2 n K k := by
  have hlt := h.tab.lt
  refine ⟨h.tab.later hb, h.len, fun i hi hk => ?_⟩
  obtain ⟨v, hc, hy⟩ := h.each i hi hk
  have := hb.size
  exact ⟨v, (hb.cell (p := ⟨w.heap.size, i, none⟩) hlt).trans hc, hy.move fun b hb' => ⟨⟨hb'.1, by omega⟩, hb.block b hb'.2⟩⟩

/-- How zzSameMultiset ends. -/
def Same (w : World) (p : Prop) (e : Ending) (w' : World) : Prop := ∃ r : Bool, e = .returned (.bool r) ∧ (r = true ↔ p) ∧ Below w.heap.size w w'

theorem below_drew {B : Nat} {a w : World} (h : Below B a w) (n : Nat) : Below B a (w.drewN n) := ⟨h.os, h.tape, h.output, h.size, h.block⟩

set_option maxHeartbeats 4000000 in
set_option maxRecDepth 100000 in
theorem same_any (va vb : Value) (a b : List Trans) (w : World) (la : a.length ≤ 1048576) (lb : b.length ≤ 1048576) (ta : ∀ t ∈ a, LT 1048576 t) (tb : ∀ t ∈ b, LT 1048576 t) (ha : IsTranses (· < w.heap.size) w va a) (hb : IsTranses (· < w.heap.size) w vb b) :
    Calls Try.prog 23 #[va, vb] w (Same w ((a.map key).Perm (b.map key))) := by
  have HL : Hid (∀ (ts : List Trans), (∀ t ∈ ts, LT 1048576 t) → ∀ K : List (List UInt8), K.Perm (ts.map key) → ∀ x ∈ K, x.length ≤ 1099520000000) := fun ts hT K hp x hx => by
    obtain ⟨t, ht, rfl⟩ := List.mem_map.1 (hp.mem_iff.1 hx)
    rw [← keyTo_all]
    exact keyTo_len t _ (hT t ht) (Nat.le_refl _)
  have HA := hide (sorted_any va a w la ta ha)
  have HB : Hid (∀ w1, Below w.heap.size w w1 → Calls Try.prog 36 #[vb] w1 (SortedK w1 b)) := fun w1 h => sorted_any vb b w1 lb tb (hb.move fun b hb => ⟨by have := h.size; omega, h.block b hb⟩)
  obtain ⟨aoa, capa, rfl, -, -⟩ := ha
  obtain ⟨aob, capb, rfl, -, -⟩ := hb
  have TA := hide ta
  have TB := hide tb
  clear ta tb
  by_cases hne : a.length = b.length
  · rw [hne] at HA
    have HN := hide hne
    clear la
    go_enter Try.func23, Try.ntmps23
    rw [hne]
    clear hne
    go_wp2_with fail
    refine (unhide HA).mono ?_
    rintro e w1 ⟨Ka, pa, sa, rfl, ka⟩
    rw [unhide HN] at ka
    rw [unhide HN]
    have PA := hide pa
    have SA := hide sa
    have b1 := ka.tab.bel
    clear pa sa HA
    go_wp2_with fail
    refine (unhide HB w1 b1).mono ?_
    rintro e w2 ⟨Kb, pb, sb, rfl, kb⟩
    have b2 : Below w.heap.size w w2 := b1.trans (kb.tab.bel.mono b1.size)
    have ka2 := ka.later kb.tab.bel
    have PB := hide pb
    have SB := hide sb
    have hlt1 := ka.tab.lt
    have hlt2 := kb.tab.lt
    have HE : Hid (Ka = Kb ↔ (a.map key).Perm (b.map key)) := ⟨fun e => (unhide PA).symm.trans (e ▸ pb), fun h => sorted_eq Ka Kb (unhide SA) sb ((unhide PA).trans (h.trans pb.symm))⟩
    clear pb sb HB ka b1
    go_wp2
    go_loopw [7] (fun iv wr => ∃ k q : Nat, k ≤ b.length ∧ iv = .int .i64 k ∧ wr = w2.drewN q ∧ Hid (∀ i, (h1 : i < Ka.length) → (h2 : i < Kb.length) → i < k → Ka[i] = Kb[i])) (fun iv _ => b.length - (intOf iv).toNat)
    case atStart => exact ⟨0, 0, Nat.zero_le _, rfl, rfl, fun i _ _ h => by omega⟩
    case round =>
      obtain ⟨k, q, hk, rfl, hw, hI⟩ := hrel
      have la := ka2.len
      have lb' := kb.len
      by_cases hlt : k < b.length
      · have hka : k < Ka.length := by omega
        have hkb : k < Kb.length := by omega
        obtain ⟨va, ca, hya⟩ := ka2.each k hka hlt
        obtain ⟨vb, cb, hyb⟩ := kb.each k hkb hlt
        have l1 := unhide HL a (unhide TA) Ka (unhide PA) _ (List.getElem_mem hka)
        have l2 := unhide HL b (unhide TB) Kb (unhide PB) _ (List.getElem_mem hkb)
        have CT : Hid (∀ q, Calls Try.prog 40 #[va, vb] (wr.drewN q) (Quiet (wr.drewN q) (.int .i64 (cmpL Ka[k] Kb[k])))) := fun q' => by
          rw [hw]
          exact cmp_any va vb _ _ _ (fun _ => True) (hya.move fun b hb => ⟨trivial, rfl⟩) (hyb.move fun b hb => ⟨trivial, rfl⟩) l1 l2
        have HN1 : Hid (cmpL Ka[k] Kb[k] = 0 → ∀ i, (h1 : i < Ka.length) → (h2 : i < Kb.length) → i < k + 1 → Ka[i] = Kb[i]) := fun h i h1 h2 h3 => by
          by_cases e : i = k
          · subst e; exact cmpL_zero _ _ h
          · exact unhide hI i h1 h2 (by omega)
        have HN2 : Hid (cmpL Ka[k] Kb[k] ≠ 0 → ¬ (a.map key).Perm (b.map key)) := fun h hp => by
          have := (unhide HE).2 hp
          subst this
          exact h (cmpL_self _)
        have ca' : wr.cell? ⟨w.heap.size, k, none⟩ = some va := by rw [hw]; exact ca
        have cb' : wr.cell? ⟨w1.heap.size, k, none⟩ = some vb := by rw [hw]; exact cb
        have hkI : (k : Int) < (b.length : Int) := by omega
        have HW := hide hw
        have B2 := hide b2
        generalize cmpL Ka[k] Kb[k] = c at *
        obtain ⟨ao1, cap1, rfl, -, -⟩ := hya
        obtain ⟨ao2, cap2, rfl, -, -⟩ := hyb
        generalize Ka[k].length = na at *
        generalize Kb[k].length = nb at *
        clear hw ca cb la lb' hI ka2 kb b2 l1 l2
        by_cases hc : c = 0
        · subst hc
          have HN := hide (unhide HN1 rfl)
          clear HN1 HN2
          go_wp2
          go_quiet ((go_at_call 40; exact Calls.quiet_of (unhide CT _)))
          clear CT
          go_wp2
          go_roundw
          case rel => exact ⟨k + 1, q + nq, by omega, by go_num, by rw [unhide HW]; simp, unhide HN⟩
          case measure => simp [intOf]; omega
        · have hc' : (c != 0) = true := by simpa using hc
          have HN := hide (unhide HN2 hc)
          clear HN1 HN2 hc
          go_wp2
          go_quiet ((go_at_call 40; exact Calls.quiet_of (unhide CT _)))
          clear CT
          go_wp2
          go_ret
          exact ⟨false, rfl, ⟨fun h => (by cases h), fun h => absurd h (unhide HN)⟩, by rw [unhide HW]; exact below_drew (below_drew (unhide B2) _) _⟩
      · have hkn : k = b.length := by omega
        subst hkn
        have HP : Hid ((a.map key).Perm (b.map key)) := (unhide HE).1 (List.ext_getElem (by omega) fun i h1 h2 => unhide hI i h1 h2 (by omega))
        have HW := hide hw
        have B2 := hide b2
        clear hI ka2 kb la lb' hw b2
        go_wp2
        go_ret
        exact ⟨true, rfl, ⟨fun _ => unhide HP, fun _ => rfl⟩, by rw [unhide HW]; exact below_drew (unhide B2) _⟩
  · have n0 : ((a.length : Int) != (b.length : Int)) = true := by simp only [bne_iff_ne, ne_eq]; omega
    have HN : Hid (¬ (a.map key).Perm (b.map key)) := fun h => hne (by simpa using h.length_eq)
    clear HA HB hne
    go_enter Try.func23, Try.ntmps23
    go_wp2
    go_ret
    exact ⟨false, rfl, ⟨fun h => (by cases h), fun h => absurd h (unhide HN)⟩, Below.refl _ _⟩
end Go.Proofs.Qxb6600910a
