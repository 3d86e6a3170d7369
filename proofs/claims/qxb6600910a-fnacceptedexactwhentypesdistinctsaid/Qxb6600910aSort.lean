/-
  zzSortedKeys (36).
-/
import Derived.Test.Qxb6600910aKey
import Derived.Test.Qxb6600910aCmp
import Derived.Test.Qxb6600910aFill
namespace Go.Proofs.Qxb6600910a
open Go.RowKit

/-! ### insertion, with no Go in sight -/
def Le (K : List (List UInt8)) (a b : Nat) : Prop := cmpL (K.getD a []) (K.getD b []) ≤ 0
def SortedTo (K : List (List UInt8)) (i : Nat) : Prop := ∀ a b, a < b → b < i → Le K a b
def Mid (K : List (List UInt8)) (i j : Nat) : Prop := (∀ a b, a < b → b ≤ i → a ≠ j → b ≠ j → Le K a b) ∧ ∀ b, j < b → b ≤ i → Le K j b
def swapK (K : List (List UInt8)) (m : Nat) (h : m + 1 < K.length) : List (List UInt8) := (K.set m (K[m + 1]'h)).set (m + 1) (K[m]'(by omega))

theorem SortedTo.mid {K : List (List UInt8)} {i : Nat} (h : SortedTo K i) : Mid K i i :=
  ⟨fun a b hab hbi _ hb => h a b hab (by omega), fun b h1 h2 => by omega⟩
theorem Mid.zero {K : List (List UInt8)} {i : Nat} (h : Mid K i 0) : SortedTo K (i + 1) := fun a b hab hb => by
  by_cases e : a = 0
  · subst e; exact h.2 b hab (by omega)
  · exact h.1 a b hab (by omega) e (by omega)
theorem Mid.stop {K : List (List UInt8)} {i m : Nat} (h : Mid K i (m + 1)) (hm : m + 1 ≤ i) (hl : Le K m (m + 1)) : SortedTo K (i + 1) := fun a b hab hb => by
  by_cases e : a = m + 1
  · subst e; exact h.2 b hab (by omega)
  · by_cases e2 : b = m + 1
    · subst e2
      by_cases e3 : a = m
      · subst e3; exact hl
      · exact cmpL_trans _ _ _ (h.1 a m (by omega) (by omega) (by omega) (by omega)) hl
    · exact h.1 a b hab (by omega) e e2
theorem swap_at (K : List (List UInt8)) (m : Nat) (h : m + 1 < K.length) (a : Nat) : (swapK K m h).getD a [] = if a = m then K.getD (m + 1) [] else if a = m + 1 then K.getD m [] else K.getD a [] := by
  have h0 : m < K.length := by omega
  unfold swapK
  simp only [List.getD_eq_getElem?_getD, List.getElem?_set, List.length_set]
  by_cases e1 : a = m
  · subst e1
    rw [if_neg (by omega), if_pos rfl, if_pos rfl, if_pos h0, List.getElem?_eq_getElem h]
  · rw [if_neg e1]
    by_cases e2 : a = m + 1
    · subst e2
      rw [if_pos rfl, if_pos rfl, if_pos h, List.getElem?_eq_getElem h0]
    · rw [if_neg (fun e => e2 e.symm), if_neg (fun e => e1 e.symm), if_neg e2]
theorem Mid.swap {K : List (List UInt8)} {i m : Nat} (h : Mid K i (m + 1)) (hm : m + 1 ≤ i) (hK : m + 1 < K.length) (hl : 0 < cmpL (K.getD m []) (K.getD (m + 1) [])) : Mid (swapK K m hK) i m := by
  have hlt : Le K (m + 1) m := by
    have := cmpL_antisymm (K.getD m []) (K.getD (m + 1) [])
    unfold Le; omega
  constructor
  · intro a b hab hb ha hb'
    unfold Le
    rw [swap_at, swap_at, if_neg ha, if_neg hb']
    by_cases e1 : a = m + 1
    · subst e1
      rw [if_pos rfl, if_neg (by omega)]
      exact h.1 m b (by omega) hb (by omega) (by omega)
    · rw [if_neg e1]
      by_cases e2 : b = m + 1
      · subst e2
        rw [if_pos rfl]
        exact h.1 a m (by omega) (by omega) e1 (by omega)
      · rw [if_neg e2]
        exact h.1 a b hab hb e1 e2
  · intro b h1 h2
    unfold Le
    rw [swap_at, swap_at, if_pos rfl, if_neg (by omega)]
    by_cases e2 : b = m + 1
    · subst e2
      rw [if_pos rfl]
      exact hlt
    · rw [if_neg e2]
      exact h.2 b (by omega) h2
theorem swap_perm (K : List (List UInt8)) (m : Nat) (h : m + 1 < K.length) : (swapK K m h).Perm K := List.set_set_perm (by omega) h
theorem SortedTo.pairwise {K : List (List UInt8)} {i : Nat} (h : SortedTo K i) (hi : K.length ≤ i) : K.Pairwise (fun x y => cmpL x y ≤ 0) := by
  rw [List.pairwise_iff_getElem]
  intro a b ha hb hab
  have := h a b hab (by omega)
  unfold Le at this
  rw [List.getD_eq_getElem?_getD, List.getD_eq_getElem?_getD, List.getElem?_eq_getElem ha, List.getElem?_eq_getElem hb] at this
  exact this

theorem getD_at (K : List (List UInt8)) (i : Nat) (h : i < K.length) : K.getD i [] = K[i] := by
  rw [List.getD_eq_getElem?_getD, List.getElem?_eq_getElem h]; rfl

/-! ### the table of keys -/
def elKey (p : Nat → Prop) (w : World) (b o : Nat) (x : List UInt8) : Prop := ∃ v, w.cell? ⟨b, o, none⟩ = some v ∧ IsBytes p w v x

structure KT (w wr : World) (n : Nat) (K : List (List UInt8)) (k : Nat) : Prop where
  tab : Tab w wr 33 1 n
  len : K.length = n
  each : ∀ i, (h : i < K.length) → i < k → elKey (fun b => w.heap.size < b ∧ b < wr.heap.size) wr w.heap.size i K[i]

theorem own_bytes {w : World} {base : Nat} {v : Value} {l : List UInt8} (h : OwnB w base v l) : IsBytes (fun b => base ≤ b ∧ b < w.heap.size) w v l := by
  have h' : w.ownsRow base 5 1 v l.length (l.map bv) := h
  rcases h'.2 with ⟨rfl, e⟩ | ⟨g, cap, cur, rfl, hb, hgg, rest⟩
  · have : l = [] := List.eq_nil_of_length_eq_zero e
    subst this
    exact ⟨none, 0, rfl, fun _ => rfl, fun h => by simp at h⟩
  · refine ⟨_, cap, rfl, fun h => by simp at h, fun _ => ⟨g, 0, rfl, ⟨hb, lt_of_block hgg⟩, fun j hj => ?_⟩⟩
    unfold elByte
    rw [Nat.mul_one, Nat.zero_add, h'.cellAt j (by omega)]
    simp [hj]

theorem KT.put {w wr w5 : World} {n k : Nat} {K : List (List UInt8)} {v : Value} (h : KT w wr n K k) (hk : k < K.length) (hb : Below wr.heap.size wr w5) (hv : IsBytes (fun b => wr.heap.size ≤ b ∧ b < w5.heap.size) w5 v K[k]) : KT w (w5.setCell ⟨w.heap.size, k, none⟩ v) n K (k + 1) := by
  have hlt := h.tab.lt
  have ht5 := h.tab.later hb
  have hn := h.len
  obtain ⟨x, hx⟩ := ht5.cell k (by omega)
  have hs := hb.size
  refine ⟨ht5.set _ _, hn, fun i hi hik => ?_⟩
  by_cases e : i = k
  · subst e
    exact ⟨v, cell_set_same _ hx, hv.move fun b hb' => ⟨⟨by omega, by rw [size_set]; exact hb'.2⟩, heap_set _ (by omega)⟩⟩
  · obtain ⟨v', hc, hy⟩ := h.each i hi (by omega)
    refine ⟨v', ?_, hy.move fun b hb' => ⟨⟨hb'.1, by rw [size_set]; omega⟩, ?_⟩⟩
    · rw [cell_set_off _ e, hb.cell (p := ⟨w.heap.size, i, none⟩) hlt, hc]
    · rw [heap_set _ (by omega), hb.block b hb'.2]

theorem KT.swap {w wr : World} {n m : Nat} {K : List (List UInt8)} {va vb : Value} (h : KT w wr n K n) (hm : m + 1 < K.length) (ca : wr.cell? ⟨w.heap.size, m, none⟩ = some va) (cb : wr.cell? ⟨w.heap.size, m + 1, none⟩ = some vb) :
    KT w ((wr.setCell ⟨w.heap.size, m, none⟩ vb).setCell ⟨w.heap.size, m + 1, none⟩ va) n (swapK K m hm) n := by
  have hn := h.len
  have hlen : (swapK K m hm).length = K.length := by unfold swapK; simp
  have hmv : ∀ b, w.heap.size < b ∧ b < wr.heap.size → (w.heap.size < b ∧ b < ((wr.setCell ⟨w.heap.size, m, none⟩ vb).setCell ⟨w.heap.size, m + 1, none⟩ va).heap.size) ∧ ((wr.setCell ⟨w.heap.size, m, none⟩ vb).setCell ⟨w.heap.size, m + 1, none⟩ va).heap[b]? = wr.heap[b]? := fun b hb =>
    ⟨⟨hb.1, by rw [size_set, size_set]; exact hb.2⟩, by rw [heap_set _ (by omega), heap_set _ (by omega)]⟩
  refine ⟨(h.tab.set _ _).set _ _, by omega, fun i hi hik => ?_⟩
  by_cases e1 : i = m
  · subst e1
    obtain ⟨v', hc, hy⟩ := h.each (i + 1) hm (by omega)
    rw [cb] at hc
    cases hc
    have e : (swapK K i hm)[i] = K[i + 1] := by rw [← getD_at _ _ hi, swap_at, if_pos rfl, getD_at]
    rw [e]
    exact ⟨vb, by rw [cell_set_off _ (by omega)]; exact cell_set_same _ ca, hy.move hmv⟩
  · by_cases e2 : i = m + 1
    · subst e2
      obtain ⟨v', hc, hy⟩ := h.each m (by omega) (by omega)
      rw [ca] at hc
      cases hc
      have e : (swapK K m hm)[m + 1] = K[m] := by rw [← getD_at _ _ hi, swap_at, if_neg (by omega), if_pos rfl, getD_at]
      rw [e]
      exact ⟨va, cell_set_same _ (by rw [cell_set_off _ (by omega)]; exact cb), hy.move hmv⟩
    · obtain ⟨v', hc, hy⟩ := h.each i (by omega) (by omega)
      have e : (swapK K m hm)[i] = K[i]'(by omega) := by
        rw [← getD_at _ _ hi, swap_at, if_neg e1, if_neg e2, getD_at]
      rw [e]
      exact ⟨v', by rw [cell_set_off _ (by omega), cell_set_off _ (by omega)]; exact hc, hy.move hmv⟩

theorem KT.drewN {w wr : World} {n k : Nat} {K : List (List UInt8)} (h : KT w wr n K k) (q : Nat) : KT w (wr.drewN q) n K k := by
  obtain ⟨xs, ho⟩ := h.tab.own
  exact ⟨⟨⟨xs, ho⟩, ⟨h.tab.bel.os, h.tab.bel.tape, h.tab.bel.output, h.tab.bel.size, h.tab.bel.block⟩⟩, h.len, fun i hi hk => by
    obtain ⟨v, hc, hy⟩ := h.each i hi hk
    exact ⟨v, hc, hy.move fun b hb => ⟨hb, rfl⟩⟩⟩

theorem info33 : (Try.prog.info? 33).map (fun i => (i.zero, i.size, i.bytes)) = some (some (.slice none 0 0), 1, 24) := by kernel_rfl

/-- How zzSortedKeys ends. -/
def SortedK (w : World) (ts : List Trans) (e : Ending) (w' : World) : Prop :=
  ∃ K : List (List UInt8), K.Perm (ts.map key) ∧ K.Pairwise (fun x y => cmpL x y ≤ 0) ∧ e = .returned (.slice (some ⟨w.heap.size, 0, none⟩) ts.length ts.length) ∧ KT w w' ts.length K ts.length

set_option maxHeartbeats 4000000 in
set_option maxRecDepth 100000 in
theorem sorted_any (v : Value) (ts : List Trans) (w : World) (hl : ts.length ≤ 1048576) (hT : ∀ t ∈ ts, LT 1048576 t) (h : IsTranses (· < w.heap.size) w v ts) : Calls Try.prog 36 #[v] w (SortedK w ts) := by
  obtain ⟨ao, cap, rfl, -, hs⟩ := h
  have HT := hide hT
  have HL : Hid (∀ K : List (List UInt8), K.Perm (ts.map key) → ∀ x ∈ K, x.length ≤ 1099520000000) := fun K hp x hx => by
    obtain ⟨t, ht, rfl⟩ := List.mem_map.1 (hp.mem_iff.1 hx)
    rw [← keyTo_all]
    exact keyTo_len t _ (hT t ht) (Nat.le_refl _)
  clear hT
  obtain ⟨i0, hi, hz0, hz1, hz2⟩ := info_parts info33
  go_enter Try.func36, Try.ntmps36
  go_wp2_with (at_make; go_must (refine wpList_make_full _ rfl _ _ 68 rfl w.heap.size 33 i0 _ 1 Try.underlying68 hi hz0 hz1 .i64 .i64 (ts.length : Int) (ts.length : Int) ts.length rfl rfl rfl rfl (by rw [hz2]; omega) (by unfold maxLen; omega) (Nat.le_refl _) ?_))
  intro w1 hown hg
  have hO : KT w w1 ts.length (ts.map key) 0 := ⟨⟨⟨_, hown⟩, (Below.refl _ _).grown hg (Nat.le_refl _) (fun k h => by cases h)⟩, by simp, fun i _ h => by omega⟩
  clear hown hg hi hz0 hz1 hz2
  go_wp2
  go_loopw [4] (fun i wr => ∃ k : Nat, k ≤ ts.length ∧ i = .int .i64 k ∧ KT w wr ts.length (ts.map key) k) (fun i _ => ts.length - (intOf i).toNat)
  case atStart => exact ⟨0, Nat.zero_le _, rfl, hO⟩
  case round =>
    clear hO
    obtain ⟨k, hk, rfl, hO⟩ := hrel
    by_cases hlt : k < ts.length
    · obtain ⟨b, off, rfl, hbl, hel⟩ := hs (by omega)
      have hE : elTrans (· < w.heap.size) wr b (off + k * 3) ts[k] := (hel k hlt).move hbl (fun b hb => ⟨hb, hO.tab.bel.block b hb⟩)
      have hlm : k < (ts.map key).length := by simpa using hlt
      have hkk : (ts.map key)[k] = key ts[k] := by simp
      have HP : Hid (∀ w5 v5, Below wr.heap.size wr w5 → OwnB w5 (wr.heap.size + 1) v5 (key ts[k]) → KT w (w5.setCell ⟨w.heap.size, k, none⟩ v5) ts.length (ts.map key) (k + 1)) := fun w5 v5 hb ho =>
        hO.put hlm hb (by rw [hkk]; exact (own_bytes ho).move fun b h => ⟨⟨by omega, h.2⟩, rfl⟩)
      have hTr := unhide HT _ (List.getElem_mem hlt)
      have hOb := hO.tab.lt
      obtain ⟨x0, y0⟩ := hO.tab.cell k (by omega)
      have f0 := hO.tab.frz k
      have t0 := hE.c0
      have t1 := hE.c1
      obtain ⟨va, t2, hA⟩ := hE.c2
      have hA' := hA
      obtain ⟨aov, capv, rfl, -, -⟩ := hA'
      have HC := hide (key_any ts[k] _ wr hTr (hA.move fun b hb => ⟨by omega, rfl⟩))
      clear hel hE hO hkk hA hs hlm
      generalize ts[k] = t at *
      unfold bv at t0 HC
      unfold hv at t1 HC
      go_wp2_with fail
      refine (unhide HC).mono ?_
      rintro e w5 ⟨v5, rfl, ho5, hb5⟩
      have y5 : w5.cell? ⟨w.heap.size, k, none⟩ = some x0 := (hb5.cell (p := ⟨w.heap.size, k, none⟩) hOb).trans y0
      have f5 : w5.frozen? ⟨w.heap.size, k, none⟩ = false := (hb5.frozen (p := ⟨w.heap.size, k, none⟩) hOb).trans f0
      have HN := hide (unhide HP w5 v5 hb5 ho5)
      obtain ⟨ao5, c5, rfl⟩ := ho5.shape
      clear HC HP ho5 hb5 y0 f0 t0 t1 t2
      go_wp2
      go_roundw
      case rel => exact ⟨k + 1, by omega, by go_num, unhide HN⟩
      case measure => simp [intOf]; omega
    · have hkn : k = ts.length := by omega
      subst hkn
      have hS0 : Hid (SortedTo (ts.map key) 1) := fun a b h1 h2 => by omega
      obtain ⟨wo, rfl⟩ : ∃ wo, wo = wr := ⟨_, rfl⟩
      clear hs
      go_wp2
      go_loopw [5] (fun i wr => ∃ (i' : Nat) (K : List (List UInt8)), 1 ≤ i' ∧ i' ≤ ts.length + 1 ∧ i = .int .i64 i' ∧ KT w wr ts.length K ts.length ∧ K.Perm (ts.map key) ∧ Hid (SortedTo K i')) (fun i _ => ts.length + 1 - (intOf i).toNat)
      case atStart => exact ⟨1, ts.map key, Nat.le_refl _, by omega, rfl, hO, List.Perm.refl _, hS0⟩
      case round =>
        clear hO hS0
        obtain ⟨i, K, hi1, hi2, rfl, hK, hp, hS⟩ := hrel
        by_cases hin : i < ts.length
        · have hM0 : Hid (Mid K i i) := (unhide hS).mid
          obtain ⟨wo2, rfl⟩ : ∃ wo2, wo2 = wr := ⟨_, rfl⟩
          clear hS
          go_wp2
          go_loopw [6] (fun jv wr => ∃ (j : Nat) (K : List (List UInt8)), j ≤ i ∧ jv = .int .i64 j ∧ KT w wr ts.length K ts.length ∧ K.Perm (ts.map key) ∧ Hid (Mid K i j)) (fun jv _ => (intOf jv).toNat)
          case atStart => exact ⟨i, K, Nat.le_refl _, rfl, hK, hp, hM0⟩
          case round =>
            clear hK hp hM0
            obtain ⟨j, K, hji, rfl, hK, hp, hM⟩ := hrel
            cases j with
            | zero =>
              have HZ : Hid (SortedTo K (i + 1)) := (unhide hM).zero
              have HK : Hid (∀ q, KT w (wr.drewN q) ts.length K ts.length) := fun q => hK.drewN q
              have HP := hide hp
              clear hM hK hp
              go_wp2
              go_quiet (fail)
              go_wp2
              go_roundw
              case rel => exact ⟨i + 1, K, by omega, by omega, by go_num, unhide HK _, unhide HP, HZ⟩
              case measure => simp [intOf]; omega
            | succ m =>
              have hlen := hK.len
              have hmK : m + 1 < K.length := by omega
              have hL1 := unhide HL K hp _ (List.getElem_mem hmK)
              have hL0 := unhide HL K hp _ (List.getElem_mem (by omega : m < K.length))
              obtain ⟨va, ca, hya⟩ := hK.each m (by omega) (by omega)
              obtain ⟨vb, cb, hyb⟩ := hK.each (m + 1) hmK (by omega)
              have CT : Hid (∀ q, Calls Try.prog 40 #[va, vb] (wr.drewN q) (Quiet (wr.drewN q) (.int .i64 (cmpL (K[m]'(by omega)) K[m + 1])))) := fun q =>
                cmp_any va vb _ _ (wr.drewN q) _ (hya.move (w' := wr.drewN q) (p' := fun b => w.heap.size < b ∧ b < wr.heap.size) fun b hb => ⟨hb, rfl⟩) (hyb.move fun b hb => ⟨hb, rfl⟩) hL0 hL1
              have HSt : Hid (cmpL (K[m]'(by omega)) K[m + 1] ≤ 0 → SortedTo K (i + 1)) := fun h => (unhide hM).stop (by omega) (by unfold Le; rw [getD_at _ _ (by omega), getD_at _ _ hmK]; exact h)
              have HSw : Hid (0 < cmpL (K[m]'(by omega)) K[m + 1] → Mid (swapK K m hmK) i m) := fun h => (unhide hM).swap (by omega) hmK (by rw [getD_at _ _ (by omega), getD_at _ _ hmK]; exact h)
              have HK : Hid (∀ q, KT w (wr.drewN q) ts.length K ts.length) := fun q => hK.drewN q
              have HK2 : Hid (∀ q, KT w (((wr.drewN q).setCell ⟨w.heap.size, m, none⟩ vb).setCell ⟨w.heap.size, m + 1, none⟩ va) ts.length (swapK K m hmK) ts.length) := fun q => (hK.drewN q).swap hmK ca cb
              have HP := hide hp
              have HP2 : Hid ((swapK K m hmK).Perm (ts.map key)) := (swap_perm K m hmK).trans hp
              have fz := hK.tab.frz
              have hmn : m + 1 < ts.length := by omega
              have hm1 : (m : Int) < (ts.length : Int) := by omega
              have hm2 : (m : Int) + 1 < (ts.length : Int) := by omega
              obtain ⟨aoa, capa, rfl, -, -⟩ := hya
              obtain ⟨aob, capb, rfl, -, -⟩ := hyb
              generalize (K[m]'(by omega)).length = na at *
              generalize (K[m + 1]).length = nb at *
              generalize hKK : swapK K m hmK = K2 at *
              generalize cmpL (K[m]'(by omega)) K[m + 1] = c at *
              clear hM hK hp hlen hKK hmK hL0 hL1
              by_cases hc : 0 < c
              · have HM2 := hide (unhide HSw hc)
                clear HSw HSt HK HP
                go_wp2
                go_quiet ((go_at_call 40; exact Calls.quiet_of (unhide CT _)))
                clear CT
                go_wp2
                go_roundw
                case rel => exact ⟨m, K2, by omega, by go_num, unhide HK2 _, unhide HP2, HM2⟩
                case measure => simp [intOf]
              · have HM2 := hide (unhide HSt (by omega))
                have hc' : decide (c > 0) = false := by simpa using hc
                clear HSw HSt HK2 HP2
                go_wp2
                go_quiet ((go_at_call 40; exact Calls.quiet_of (unhide CT _)))
                clear CT
                go_wp2
                go_roundw
                case rel => exact ⟨i + 1, K, by omega, by omega, by go_num, unhide HK _, unhide HP, HM2⟩
                case measure => simp [intOf]; omega
        · have HF : Hid (K.Pairwise (fun x y => cmpL x y ≤ 0)) := (unhide hS).pairwise (by have := hK.len; omega)
          have HK := hide hK
          have HP := hide hp
          clear hK hp hS
          go_wp2
          go_ret
          exact ⟨K, unhide HP, unhide HF, rfl, unhide HK⟩
end Go.Proofs.Qxb6600910a
