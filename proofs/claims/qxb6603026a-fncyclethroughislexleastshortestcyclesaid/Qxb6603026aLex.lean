/-
  lexLeastShortestCycle (21).
-/
import Derived.Test.Qxb6603026aPred
import Derived.Test.Qxb6603026aSmall
import Derived.Test.Qxb6603026aWant
namespace Go.Proofs.Qxb6603026a
open Go.RowKit

def inn (G : List Int) (f k x : Nat) : Bool := decide ((x : Int) ∈ G.take k ∧ x ≠ f)
theorem inn_skip {G : List Int} {f k x : Nat} (hk : k < G.length) (h : (x : Int) = G[k] → x = f) : inn G f (k + 1) x = inn G f k x := by
  unfold inn
  rw [List.take_succ_eq_append_getElem hk]
  by_cases e : (x : Int) = G[k]
  · have := h e
    simp [this]
  · simp only [List.mem_append, List.mem_singleton, e, or_false]
theorem inn_set {G : List Int} {f k y : Nat} (hk : k < G.length) (hy : G[k] = (y : Int)) (hf : y ≠ f) (x : Nat) : (if x = y then Value.bool true else .bool (inn G f k x)) = .bool (inn G f (k + 1) x) := by
  by_cases e : x = y
  · rw [if_pos e]
    unfold inn
    rw [List.take_succ_eq_append_getElem hk, hy]
    simp [e, hf]
  · rw [if_neg e, inn_skip hk (fun h => by rw [hy] at h; omega)]

theorem info4 : (Try.prog.info? 4).map (fun i => (i.zero, i.size, i.bytes)) = some (some (.bool false), 1, 1) := by kernel_rfl

/-- How lexLeastShortestCycle ends. -/
def Lexed (w : World) (R : List (List Nat)) (f : Nat) (G : List Int) (e : Ending) (w' : World) : Prop :=
  Below w.heap.size w w' ∧ ((∃ v, e = .returned (.tuple #[v, .bool false])) ∨ ∃ v T l, e = .returned (.tuple #[v, .bool true]) ∧ IsNats (fun b => w.heap.size ≤ b ∧ b < w'.heap.size) w' v (l ++ [f]) ∧ WantOk R f (inn G f G.length) T l)

structure LexW (w wr : World) (n m bi bs bp : Nat) (I : Nat → Bool) (S P : Nat → Nat) : Prop where
  inner : Arr wr bi n (fun x => .bool (I x))
  start : Arr wr bs (n + 1) (fun x => nv (S x))
  pred : Arr wr bp m (fun x => nv (P x))
  below : Below w.heap.size w wr

structure LexQ (wr : World) (n bt bq : Nat) (T : Nat → Nat) (Q : List Nat) : Prop where
  num : Arr wr bt n (fun x => nv (T x))
  own : wr.ownsRow bq 3 1 (.slice (some ⟨bq, 0, none⟩) Q.length n) Q.length (Q.map nv)

theorem own_keep {wr w1 : World} {base : Nat} {e : TypeId} {size m cap g : Nat} {xs : List Value} (h : wr.ownsRow base e size (.slice (some ⟨g, 0, none⟩) m cap) m xs) (hk : w1.heap[g]? = wr.heap[g]?) : w1.ownsRow base e size (.slice (some ⟨g, 0, none⟩) m cap) m xs := by
  refine ⟨h.1, ?_⟩
  rcases h.2 with hn | ⟨g', cap', cur, hv, hb', hgg, rest⟩
  · exact .inl hn
  · refine .inr ⟨g', cap', cur, hv, hb', ?_, rest⟩
    simp at hv
    obtain ⟨rfl, _⟩ := hv
    rw [hk]; exact hgg

section
variable {w wr w2 : World} {n m bi bs bp bt bq : Nat} {I : Nat → Bool} {S P T : Nat → Nat} {Q : List Nat}
theorem LexW.set (h : LexW w wr n m bi bs bp I S P) (h1 : bi < bt) (h2 : bs < bt) (h3 : bp < bt) (h4 : w.heap.size ≤ bt) (o : Nat) (u : Value) : LexW w (wr.setCell ⟨bt, o, none⟩ u) n m bi bs bp I S P :=
  ⟨h.inner.other (by omega) u, h.start.other (by omega) u, h.pred.other (by omega) u, h.below.setCell (p := ⟨bt, o, none⟩) h4 u⟩
theorem LexW.grown (h : LexW w wr n m bi bs bp I S P) (h1 : bi < bq) (h2 : bs < bq) (h3 : bp < bq) (h4 : w.heap.size ≤ bq) (hg : wr.grownBy w2 (some bq)) : LexW w w2 n m bi bs bp I S P :=
  ⟨h.inner.grown hg (by simp; omega), h.start.grown hg (by simp; omega), h.pred.grown hg (by simp; omega), h.below.grown hg h.below.size (fun k hk => by simp at hk; omega)⟩
theorem LexW.grown0 (h : LexW w wr n m bi bs bp I S P) (hg : wr.grownBy w2 none) : LexW w w2 n m bi bs bp I S P :=
  ⟨h.inner.grown hg (by simp), h.start.grown hg (by simp), h.pred.grown hg (by simp), h.below.grown hg h.below.size (fun k hk => by cases hk)⟩
theorem LexQ.set (h : LexQ wr n bt bq T Q) (h1 : bt < bq) (o : Nat) (ho : o < n) (x : Nat) : LexQ (wr.setCell ⟨bt, o, none⟩ (nv x)) n bt bq (fun y => if y = o then x else T y) Q :=
  ⟨(h.num.set o ho (nv x)).congr fun y _ => by split <;> rfl, own_keep h.own (heap_set _ (by omega))⟩
theorem LexQ.grown (h : LexQ wr n bt bq T Q) (h1 : bt < bq) (hg : wr.grownBy w2 (some bq)) {u : Nat} (ho : w2.ownsRow bq 3 1 (.slice (some ⟨bq, 0, none⟩) (Q.length + 1) n) (Q.length + 1) (Q.map nv ++ [nv u])) : LexQ w2 n bt bq T (Q ++ [u]) :=
  ⟨h.num.grown hg (by simp; omega), by simpa using ho⟩
theorem LexQ.cell (h : LexQ wr n bt bq T Q) {i : Nat} (hi : i < Q.length) : wr.cell? ⟨bq, i, none⟩ = some (nv (Q.getD i 0)) := by
  rw [h.own.cellAt i (by omega), List.getElem?_map, List.getElem?_eq_getElem hi, List.getD_eq_getElem?_getD, List.getElem?_eq_getElem hi]; rfl
end

theorem grown_alloc {w w1 : World} {o : Obj} {row : Option Nat} (h : (w.alloc o).grownBy w1 row) : w.grownBy w1 row :=
  ⟨h.os, h.tape, h.output, by have := h.size; simp at this; omega, fun k hk hne => by rw [h.block k (by simp; omega) hne, Below.heap_alloc _ _ _ hk]⟩
theorem lit_at (w : World) (g : Nat) (cs : Array Value) (hg : w.heap.size = g) : ∀ (j : Nat) (x : Value), cs.toList[j]? = some x → (w.alloc (.cells cs 3)).cell? ((⟨g, 0, none⟩ : Addr).add j) = some x := by
  subst hg
  intro j x hj
  have : (⟨w.heap.size, 0, none⟩ : Addr).add j = ⟨w.heap.size, j, none⟩ := by unfold Addr.add; split <;> simp_all
  rw [this]
  simpa using hj

theorem mem_cast (l : List Nat) (f : Nat) : ((f : Int) ∈ l.map Int.ofNat) ↔ f ∈ l := by
  rw [List.mem_map]
  exact ⟨fun ⟨a, ha, e⟩ => by have : a = f := Int.ofNat.inj e
                              subst this; exact ha, fun h => ⟨f, h, rfl⟩⟩
theorem to_one {R : List (List Nat)} {f : Nat} {I : Nat → Bool} {v : Nat} (hv : v < R.length) : To R f I 1 v ↔ I v = true ∧ f ∈ R[v] := by
  unfold To
  rw [row_at hv]
  exact ⟨fun ⟨h1, u, h2, h3⟩ => ⟨h1, h3 ▸ h2⟩, fun ⟨h1, h2⟩ => ⟨h1, f, h2, rfl⟩⟩
theorem one_of (x : Value) (h : x.oneCell' = true) : ∀ u ∈ [x], u.oneCell' = true := fun u hu => by simp at hu; subst hu; exact h

/-- A row of the rows, in a later world. -/
theorem row_in {w wr : World} {ao : Option Addr} {R : List (List Nat)} (hs : 0 < R.length → ∃ b off, ao = some ⟨b, off, none⟩ ∧ b < w.heap.size ∧ ∀ j, (h : j < R.length) → elRowN (· < w.heap.size) w b (off + j * 1) R[j]) (hB : Below w.heap.size w wr) (v : Nat) (hv : v < R.length) :
    ∃ b off aor capr, ao = some ⟨b, off, none⟩ ∧ wr.cell? ⟨b, off + v, none⟩ = some (.slice aor R[v].length capr) ∧ IsNats (· < w.heap.size) wr (.slice aor R[v].length capr) R[v] := by
  obtain ⟨b, off, rfl, hbl, hel⟩ := hs (by omega)
  obtain ⟨va, c0, hV⟩ := ((hel v hv).move hbl (p' := (· < w.heap.size)) (w' := wr) (fun b hb => ⟨hb, hB.block b hb⟩)).c0
  rw [Nat.mul_one] at c0
  have hV' := hV
  obtain ⟨aor, capr, rfl, -, -⟩ := hV'
  exact ⟨b, off, aor, capr, rfl, c0, hV⟩

theorem own_nats {w : World} {base : Nat} {v : Value} {l : List Nat} (h' : w.ownsRow base 3 1 v l.length (l.map nv)) : IsNats (fun b => base ≤ b ∧ b < w.heap.size) w v l := by
  rcases h'.2 with ⟨rfl, e⟩ | ⟨g, cap, cur, rfl, hb, hgg, rest⟩
  · have : l = [] := List.eq_nil_of_length_eq_zero e
    subst this
    exact ⟨none, 0, rfl, fun _ => rfl, fun h => by simp at h⟩
  · refine ⟨_, cap, rfl, fun h => by simp at h, fun _ => ⟨g, 0, rfl, ⟨hb, lt_of_block hgg⟩, fun j hj => ?_⟩⟩
    unfold elNat
    rw [Nat.mul_one, Nat.zero_add, h'.cellAt j (by omega)]
    simp [hj]

theorem own_natsN {w : World} {base n : Nat} {v : Value} {l : List Nat} (hn : n = l.length) (h : w.ownsRow base 3 1 v n (l.map nv)) : IsNats (fun b => base ≤ b ∧ b < w.heap.size) w v l := by
  subst hn; exact own_nats h

/-- The best number among the first k of a row. -/
def Best (I : Nat → Bool) (T : Nat → Nat) (r : List Nat) (k best : Nat) : Prop :=
  (∀ i, (h : i < r.length) → i < k → I r[i] = true → 0 < T r[i] → 0 < best ∧ best ≤ T r[i]) ∧ (0 < best → ∃ u, u ∈ r ∧ I u = true ∧ T u = best)
theorem Best.start (I : Nat → Bool) (T : Nat → Nat) (r : List Nat) : Best I T r 0 0 := ⟨fun i _ h => by omega, fun h => by omega⟩
theorem Best.skip {I : Nat → Bool} {T : Nat → Nat} {r : List Nat} {k best : Nat} (h : Best I T r k best) (hk : k < r.length) (h1 : I r[k] = true → 0 < T r[k] → 0 < best ∧ best ≤ T r[k]) : Best I T r (k + 1) best :=
  ⟨fun i hi hik a b => by
    by_cases e : i = k
    · subst e; exact h1 a b
    · exact h.1 i hi (by omega) a b, h.2⟩
theorem Best.take {I : Nat → Bool} {T : Nat → Nat} {r : List Nat} {k best : Nat} (h : Best I T r k best) (hk : k < r.length) (h1 : I r[k] = true) (h0 : 0 < T r[k]) (h2 : best = 0 ∨ T r[k] < best) : Best I T r (k + 1) (T r[k]) :=
  ⟨fun i hi hik a b => by
    by_cases e : i = k
    · subst e; exact ⟨h0, Nat.le_refl _⟩
    · have := h.1 i hi (by omega) a b
      omega, fun _ => ⟨r[k], List.getElem_mem hk, h1, rfl⟩⟩

/-- The chain so far. -/
def ChainTo (R : List (List Nat)) (f : Nat) (I : Nat → Bool) (T : Nat → Nat) (L : Nat) (l : List Nat) : Prop :=
  l.getD 0 0 = f ∧ ∀ i, i + 1 < l.length → (row R (l.getD i 0)).find? (fun u => I u && T u == L - 1 - i) = some (l.getD (i + 1) 0)
theorem chain_next {R : List (List Nat)} {f : Nat} {I : Nat → Bool} {T : Nat → Nat} {L j : Nat} {l : List Nat} (h : ChainTo R f I T L l) (hN : Nums R f I T) (hR : ∀ r ∈ R, ∀ x ∈ r, x < R.length) (hf : f < R.length) (hb : ∃ u, u ∈ row R f ∧ I u = true ∧ T u = L - 1) (hj : l.length = j + 1) (hL : j + 1 < L) :
    l.getD j 0 < R.length ∧ ∃ u, u ∈ row R (l.getD j 0) ∧ I u = true ∧ T u = L - 1 - j := by
  have hlt : ∀ i, i ≤ j → l.getD i 0 < R.length := fun i => by
    induction i with
    | zero => intro _; rw [h.1]; exact hf
    | succ i ih =>
      intro hi
      have h1 := ih (by omega)
      have h2 := List.mem_of_find?_eq_some (h.2 i (by omega))
      rw [row_at h1] at h2
      exact hR _ (List.getElem_mem h1) _ h2
  refine ⟨hlt j (Nat.le_refl _), ?_⟩
  cases j with
  | zero => rw [h.1]; simpa using hb
  | succ j =>
    have h3 := List.find?_some (h.2 j (by omega))
    simp only [Bool.and_eq_true, beq_iff_eq] at h3
    obtain ⟨d, hd⟩ : ∃ d, L - 1 - j = d + 2 := ⟨L - 1 - j - 2, by omega⟩
    obtain ⟨u, h4, h5, h6⟩ := hN.down hR (hlt (j + 1) (Nat.le_refl _)) (h3.2.trans hd)
    exact ⟨u, h4, h5, by omega⟩
theorem chain_add {R : List (List Nat)} {f : Nat} {I : Nat → Bool} {T : Nat → Nat} {L j u : Nat} {l : List Nat} (h : ChainTo R f I T L l) (hj : l.length = j + 1) (hu : (row R (l.getD j 0)).find? (fun u => I u && T u == L - 1 - j) = some u) : ChainTo R f I T L (l ++ [u]) := by
  refine ⟨by rw [getD_append (by omega)]; exact h.1, fun i hi => ?_⟩
  rw [List.length_append, List.length_singleton] at hi
  rw [getD_append (by omega)]
  by_cases e : i = j
  · subst e
    rw [hu]
    congr 1
    have := getD_last (Q := l) (u := u)
    rw [hj] at this
    exact this.symm
  · rw [getD_append (by omega)]; exact h.2 i (by omega)
theorem find_at {r : List Nat} {p : Nat → Bool} {k : Nat} (hk : k < r.length) (h1 : p r[k] = true) (h2 : ∀ i, (h : i < r.length) → i < k → p r[i] = false) : r.find? p = some r[k] := by
  rw [List.find?_eq_some_iff_getElem]
  exact ⟨h1, k, hk, rfl, fun j hj => by rw [h2 j (by omega) hj]; rfl⟩

set_option maxHeartbeats 8000000 in
set_option maxRecDepth 100000 in
theorem lex_any (v0 v2 : Value) (R : List (List Nat)) (f : Nat) (G : List Int) (w : World) (hl : R.length ≤ 1048576) (hT : ∀ r ∈ R, r.length ≤ 1048576) (hR : ∀ r ∈ R, ∀ x ∈ r, x < R.length) (hf : f < R.length) (hG : G.length ≤ 1048576)
    (h : IsRowsN (· < w.heap.size) w v0 R) (h2 : IsInts (· < w.heap.size) w v2 G) : Calls Try.prog 21 #[v0, .int .i64 (f : Int), v2] w (Lexed w R f G) := by
  have H0 := hide h
  obtain ⟨ao, cap, rfl, -, hs⟩ := h
  obtain ⟨ao2, cap2, rfl, -, hs2⟩ := h2
  obtain ⟨j0, gi, gz0, gz1, gz2⟩ := info_parts info4
  obtain ⟨i0, hi, hz0, hz1, hz2⟩ := info_parts info3
  have HT := hide hT
  have HR := hide hR
  have HS := hide hs
  have HS2 := hide hs2
  clear hT hR hs hs2
  go_enter Try.func21, Try.ntmps21
  go_wp2_with (at_make; go_must (refine wpList_make_full _ rfl _ _ 57 rfl w.heap.size 4 j0 (.bool false) 1 Try.underlying57 gi gz0 gz1 .i64 .i64 (R.length : Int) (R.length : Int) R.length rfl rfl rfl rfl (by rw [gz2]; omega) (by unfold maxLen; omega) (Nat.le_refl _) ?_))
  intro w1 hown hg
  have hA0 : Arr w1 w.heap.size R.length (fun x => .bool (inn G f 0 x)) := by
    have := Arr.made (z := .bool false) (by simpa [Value.cells, toList_madeCells_one] using hown)
    exact this.congr fun o _ => by unfold inn; simp
  have hB0 : Below w.heap.size w w1 := (Below.refl _ _).grown hg (Nat.le_refl _) (fun k h => by cases h)
  clear hown hg gi gz0 gz1 gz2
  go_wp2
  go_loopw [10] (fun kv wr => ∃ k : Nat, k ≤ G.length ∧ kv = .int .i64 k ∧ Arr wr w.heap.size R.length (fun x => .bool (inn G f k x)) ∧ Below w.heap.size w wr) (fun kv _ => G.length - (intOf kv).toNat)
  case atStart => exact ⟨0, Nat.zero_le _, rfl, hA0, hB0⟩
  case round =>
    clear hA0 hB0
    obtain ⟨k, hk, rfl, hA, hB⟩ := hrel
    by_cases hkl : k < G.length
    · obtain ⟨b, off, rfl, hbl, hel⟩ := unhide HS2 (by omega)
      have t0 : wr.cell? ⟨b, off + k, none⟩ = some (.int .i64 G[k]) := by
        have := hel k hkl
        unfold elInt at this
        rw [Nat.mul_one] at this
        exact (hB.cell (p := ⟨b, off + k, none⟩) hbl).trans this
      have HK : Hid ((∀ x : Nat, x < R.length → (x : Int) = G[k] → x = f) → Arr wr w.heap.size R.length (fun x => .bool (inn G f (k + 1) x))) := fun h => hA.congr fun o ho => by rw [inn_skip hkl (h o ho)]
      have HS3 : Hid (∀ y : Nat, G[k] = (y : Int) → y < R.length → y ≠ f → Arr (wr.setCell ⟨w.heap.size, y, none⟩ (.bool true)) w.heap.size R.length (fun x => .bool (inn G f (k + 1) x))) := fun y hy hyn hyf => (hA.set y hyn _).congr fun o _ => inn_set hkl hy hyf o
      have hc := hA.cell
      have hfz := hA.frz
      have HCE := hide hc
      have HB := hide hB
      clear hel hA hc hB
      generalize G[k] = g at *
      by_cases g0 : g < 0
      · have HN := hide (unhide HK (fun x _ e => by omega))
        clear HK HS3 hfz
        go_wp2
        go_roundw
        case rel => exact ⟨k + 1, by omega, by go_num, unhide HN, unhide HB⟩
        case measure => simp [intOf]; omega
      · by_cases g1 : g < (R.length : Int)
        · obtain ⟨y, rfl⟩ : ∃ y : Nat, g = (y : Int) := ⟨g.toNat, by omega⟩
          by_cases g2 : y = f
          · subst g2
            have HN := hide (unhide HK (fun x _ e => by omega))
            clear HK HS3 hfz
            go_wp2
            go_roundw
            case rel => exact ⟨k + 1, by omega, by go_num, unhide HN, unhide HB⟩
            case measure => simp [intOf]; omega
          · have HN := hide (unhide HS3 y rfl (by omega) g2)
            have y0 := unhide HCE y (by omega)
            have z0 := hfz y
            have n2 : ((y : Int) != (f : Int)) = true := by simp only [bne_iff_ne, ne_eq]; omega
            have HB2 := hide ((unhide HB).setCell (Nat.le_refl w.heap.size) (p := ⟨w.heap.size, y, none⟩) (.bool true))
            clear HK HS3 hfz HCE
            go_wp2
            go_roundw
            case rel => exact ⟨k + 1, by omega, by go_num, unhide HN, unhide HB2⟩
            case measure => simp [intOf]; omega
        · have HN := hide (unhide HK (fun x hx e => by omega))
          clear HK HS3 hfz
          go_wp2
          go_roundw
          case rel => exact ⟨k + 1, by omega, by go_num, unhide HN, unhide HB⟩
          case measure => simp [intOf]; omega
    · have hkn : k = G.length := by omega
      subst hkn
      have hlt0 := hA.lt
      have HI : Hid (∀ x, inn G f G.length x = true → x ≠ f) := fun x h => by unfold inn at h; simp at h; exact h.2
      have hA1 := hA
      generalize hI : inn G f G.length = I at *
      have HIe := hide hI
      clear hI hA hk hkl HS2
      obtain ⟨wo, rfl⟩ : ∃ wo, wo = wr := ⟨_, rfl⟩
      have HP := hide (pred_any _ R wo hl (unhide HT) (unhide HR) ((unhide H0).move (w' := wo) fun b hb => ⟨by have := hB.size; omega, hB.block b hb⟩))
      go_wp2_with fail
      refine (unhide HP).mono ?_
      rintro e w2 ⟨S, P, bs, bp, m, rfl, hSs, hPp, hPr, hB2, hbs, hbp, hm⟩
      have hLW : LexW w w2 R.length m w.heap.size bs bp I S P := ⟨hA1.later hB2 hlt0, hSs, hPp, hB.trans (hB2.mono hB.size)⟩
      have HPr := hide hPr
      clear HP hA1 hSs hPp hPr hB2 hB
      have hl1 := hLW.inner.lt
      have hl2 := hLW.start.lt
      have hl3 := hLW.pred.lt
      go_wp2_with (at_make; first | go_must (refine wpList_make_full _ rfl (.tmp 67) (.tmp 67) 26 rfl w2.heap.size 3 i0 (.int .i64 0) 1 Try.underlying26 hi hz0 hz1 .i64 .i64 (R.length : Int) (R.length : Int) R.length rfl rfl rfl rfl (by rw [hz2]; omega) (by unfold maxLen; omega) (Nat.le_refl _) ?_))
      intro w3 hown hg
      have hT0 : Arr w3 w2.heap.size R.length (fun x => nv ((fun _ => 0) x)) := by
        have := Arr.made (z := .int .i64 0) (by simpa [Value.cells, toList_madeCells_one] using hown)
        exact this.congr fun o _ => by simp [nv]
      have hLW3 := hLW.grown0 hg
      have hbt := hT0.lt
      clear hown hg hLW
      go_wp2_with (at_make; first | go_must (refine wpList_make_own _ rfl _ _ 26 rfl w3.heap.size 3 i0 (.int .i64 0) 1 Try.underlying26 hi hz0 hz1 .i64 .i64 (R.length : Int) R.length rfl rfl rfl (by rw [hz2]; omega) (by unfold maxLen; omega) (Nat.le_refl _) ?_))
      intro w4 hown hg
      have hLW4 := hLW3.grown0 hg
      have hLQ4 : LexQ w4 R.length w2.heap.size w3.heap.size (fun _ => 0) [] := ⟨hT0.grown hg (by simp), hown⟩
      clear hown hg hLW3 hT0
      have hbw : w.heap.size ≤ w2.heap.size := by omega
      generalize w2.heap.size = bt at *
      generalize w3.heap.size = bq at *
      go_wp2
      go_loopw [15, 16] (fun qv iv wr => ∃ (v : Nat) (Q : List Nat) (T : Nat → Nat), v ≤ R.length ∧ iv = .int .i64 v ∧ qv = .slice (some ⟨bq, 0, none⟩) Q.length R.length ∧ LexW w wr R.length m w.heap.size bs bp I S P ∧ LexQ wr R.length bt bq T Q ∧ First R f I Q T v) (fun _ iv _ => R.length - (intOf iv).toNat)
      case atStart => exact ⟨0, [], fun _ => 0, Nat.zero_le _, rfl, rfl, hLW4, hLQ4, First.start R f I⟩
      case round =>
        clear hLW4 hLQ4
        obtain ⟨v, Q, T, hvn, rfl, rfl, hLW, hLQ, hF⟩ := hrel
        by_cases hlt : v < R.length
        · obtain ⟨b, off, aor, capr, rfl, c0, hV⟩ := row_in (unhide HS) hLW.below v hlt
          have hrl := unhide HT _ (List.getElem_mem hlt)
          have y0 := hLW.inner.cell v hlt
          have HE := hide (hasEdge_any _ _ (f : Int) wr _ hV.ints (by simpa using hrl))
          have hT1 := to_one (f := f) (I := I) hlt
          have HSK : Hid (¬ (I v = true ∧ f ∈ R[v]) → First R f I Q T (v + 1)) := fun h => hF.skip (fun h1 => h (hT1.1 h1))
          have HAD : Hid ((I v = true ∧ f ∈ R[v]) → First R f I (Q ++ [v]) (fun x => if x = v then 1 else T x) (v + 1)) := fun h => hF.add (hT1.2 h)
          have hQn : Q.length ≤ v := nodup_le v Q hF.nodup hF.lt
          have HW := hide hLW
          have HQ := hide hLQ
          have hdec : decide ((f : Int) ∈ R[v].map Int.ofNat) = decide (f ∈ R[v]) := by rw [decide_eq_decide]; exact mem_cast _ _
          rw [hdec] at HE
          have y1 := hLQ.num.cell v hlt
          have z1 := hLQ.num.frz v
          clear hF hT1 hLW hLQ hV hdec
          cases hIv : I v
          · rw [hIv] at y0
            have HN := hide (unhide HSK (by rw [hIv]; simp))
            clear HSK HAD HE y1 z1
            go_wp2
            go_roundw
            case rel => exact ⟨v + 1, Q, T, by omega, by go_num, rfl, unhide HW, unhide HQ, unhide HN⟩
            case measure => simp [intOf]; omega
          · rw [hIv] at y0
            by_cases hfr : f ∈ R[v]
            · have HN := hide (unhide HAD ⟨hIv, hfr⟩)
              rw [decide_eq_true hfr] at HE
              have hsz := (unhide HW).below.size
              clear HSK HAD hfr
              generalize R[v].length = rl at *
              go_wp2_with fail
              refine (unhide HE).mono ?_
              rintro e wr ⟨rfl, rfl⟩
              have HW2 := hide ((unhide HW).set (bt := bt) (by omega) (by omega) (by omega) hbw v (nv 1))
              have HQ2 := hide ((unhide HQ).set hbt v hlt 1)
              generalize T v = tv at *
              unfold nv at y1 HW2 HQ2
              clear HE HW HQ
              go_wp2_with (at_builtin; go_must (refine wpList_append_fits _ rfl (.tmp 91) (.tmp 93) 26 rfl bq 3 i0 1 Try.underlying26 hi hz1 bq Q.length R.length (Q.map nv) rfl ((unhide HQ2).own.alloc _) _ 1 1 [nv v] rfl rfl (lit_at _ _ #[nv v] (size_set _ _ _)) (one_of _ rfl) (by omega) ?_))
              intro w5 hown hg
              have HQ3 := hide ((unhide HQ2).grown hbt (grown_alloc hg) hown)
              have HW3 := hide ((unhide HW2).grown (by omega) (by omega) (by omega) (by omega) (grown_alloc hg))
              clear hown hg HQ2 HW2 y1 z1
              go_wp2
              go_roundw
              case rel => exact ⟨v + 1, Q ++ [v], _, by omega, by go_num, by simp, unhide HW3, unhide HQ3, unhide HN⟩
              case measure => simp [intOf]; omega
            · have HN := hide (unhide HSK (fun h => hfr h.2))
              rw [decide_eq_false hfr] at HE
              clear HSK HAD hfr y1 z1
              generalize R[v].length = rl at *
              go_wp2_with fail
              refine (unhide HE).mono ?_
              rintro e wr ⟨rfl, rfl⟩
              clear HE
              go_wp2
              go_roundw
              case rel => exact ⟨v + 1, Q, T, by omega, by go_num, rfl, unhide HW, unhide HQ, unhide HN⟩
              case measure => simp [intOf]; omega
        · have hvn' : v = R.length := by omega
          subst hvn'
          have hBk := hF.back
          clear hF hvn hlt
          obtain ⟨wo2, rfl⟩ : ∃ wo2, wo2 = wr := ⟨_, rfl⟩
          go_wp2
          go_loopw [15, 17] (fun qv iv wr => ∃ (h : Nat) (Q : List Nat) (T : Nat → Nat), h ≤ Q.length ∧ iv = .int .i64 h ∧ qv = .slice (some ⟨bq, 0, none⟩) Q.length R.length ∧ LexW w wr R.length m w.heap.size bs bp I S P ∧ LexQ wr R.length bt bq T Q ∧ Back R f I Q T h) (fun _ iv _ => R.length - (intOf iv).toNat)
          case atStart => exact ⟨0, Q, T, Nat.zero_le _, rfl, rfl, hLW, hLQ, hBk⟩
          case round =>
            clear hLW hLQ hBk
            obtain ⟨h, Q, T, hh, rfl, rfl, hLW, hLQ, hBk⟩ := hrel
            have hQR := hBk.size
            by_cases hlt : h < Q.length
            · have hxn := hBk.lt _ (getD_mem hlt)
              have y0 := hLQ.cell hlt
              generalize hx : Q.getD h 0 = x at *
              have y1 := hLW.start.cell x (by omega)
              have hSm := (unhide HPr).mono x hxn
              have hSt := (unhide HPr).top (x + 1) (by omega)
              have hPart : Part I Q T h (fun u => ∃ q', S x ≤ q' ∧ q' < S x ∧ P q' = u) := fun u ⟨q', h1, h2, _⟩ => by omega
              obtain ⟨wo3, rfl⟩ : ∃ wo3, wo3 = wr := ⟨_, rfl⟩
              unfold nv at y0 y1
              have HX := hide hx
              clear hx
              go_wp2
              go_loopw [15, 19] (fun qv kv wr => ∃ (q : Nat) (Q : List Nat) (T : Nat → Nat), S x ≤ q ∧ q ≤ S (x + 1) ∧ kv = .int .i64 q ∧ qv = .slice (some ⟨bq, 0, none⟩) Q.length R.length ∧ LexW w wr R.length m w.heap.size bs bp I S P ∧ LexQ wr R.length bt bq T Q ∧ Back R f I Q T h ∧ h < Q.length ∧ Hid (Q.getD h 0 = x) ∧ Part I Q T h (fun u => ∃ q', S x ≤ q' ∧ q' < q ∧ P q' = u)) (fun _ kv _ => S (x + 1) - (intOf kv).toNat)
              case atStart => exact ⟨S x, Q, T, Nat.le_refl _, hSm, rfl, rfl, hLW, hLQ, hBk, hlt, HX, hPart⟩
              case round =>
                clear hLW hLQ hBk hPart HX hlt hQR hh y0 y1
                obtain ⟨q, Q, T, hq0, hq1, rfl, rfl, hLW, hLQ, hBk, hlt, HX, hPart⟩ := hrel
                have y1 := hLW.start.cell (x + 1) (by omega)
                have hQR := hBk.size
                unfold nv at y1
                by_cases hql : q < S (x + 1)
                · obtain ⟨hun, hxu⟩ := (unhide HPr).sound x q hxn hq0 hql
                  have y2 := hLW.pred.cell q (by omega)
                  have HM : Hid (∀ u', u' = P q → (∀ us : Nat → Prop, (us = fun u => ∃ q', S x ≤ q' ∧ q' < q ∧ P q' = u) → ∀ u, (∃ q', S x ≤ q' ∧ q' < q + 1 ∧ P q' = u) → us u ∨ u = u')) := fun u' hu' us hus u ⟨q', h1, h2, h3⟩ => by
                    subst hus
                    by_cases e : q' = q
                    · subst e; exact .inr (by rw [hu', h3])
                    · exact .inl ⟨q', h1, by omega, h3⟩
                  have hxr : x ∈ row R (P q) := by rw [row_at hun]; exact hxu
                  have HMM := hide (unhide HM (P q) rfl _ rfl)
                  generalize hPq : P q = u at *
                  have y3 := hLW.inner.cell u hun
                  have y4 := hLQ.num.cell u hun
                  have y5 := hLQ.num.cell x hxn
                  have z4 := hLQ.num.frz u
                  have bT : T x ≤ 1048577 := by have := hBk.bnd h hlt; rw [unhide HX] at this; omega
                  have HSK : Hid ((I u = true → 0 < T u) → Part I Q T h (fun u => ∃ q', S x ≤ q' ∧ q' < q + 1 ∧ P q' = u)) := fun h0 => (hPart.skip hBk hlt hun h0).mono (unhide HMM)
                  have HAD : Hid (I u = true → T u = 0 → Back R f I (Q ++ [u]) (fun y => if y = u then T x + 1 else T y) h ∧ Part I (Q ++ [u]) (fun y => if y = u then T x + 1 else T y) h (fun u => ∃ q', S x ≤ q' ∧ q' < q + 1 ∧ P q' = u)) := fun h1 h2 => by
                    have e := unhide HX
                    have A := hBk.add hlt hun h1 h2 (by rw [e]; exact hxr)
                    have B := hPart.add hBk hlt hun h2
                    rw [e] at A B
                    exact ⟨A, B.mono (unhide HMM)⟩
                  have HX2 : Hid ((Q ++ [u]).getD h 0 = x) := by
                    show _ = _
                    rw [getD_append hlt]; exact unhide HX
                  have HW := hide hLW
                  have HQ := hide hLQ
                  have HBk := hide hBk
                  unfold nv at y2 y4 y5
                  clear hLW hLQ hBk hPart HM HMM hPq hxr hxu
                  have i1 : (x : Int) + 1 < (R.length : Int) + 1 := by omega
                  cases hIu : I u
                  · rw [hIu] at y3
                    have HN := hide (unhide HSK (by rw [hIu]; intro h; cases h))
                    clear HSK HAD HX2 y4 y5 z4
                    go_wp2
                    go_roundw
                    case rel => exact ⟨q + 1, Q, T, by omega, by omega, by go_num, rfl, unhide HW, unhide HQ, unhide HBk, hlt, HX, unhide HN⟩
                    case measure => simp [intOf]; omega
                  · rw [hIu] at y3
                    by_cases hT0 : T u = 0
                    · obtain ⟨hA, hPt⟩ := unhide HAD hIu hT0
                      have hsz := hA.size
                      have HA := hide hA
                      have HPt := hide hPt
                      have HW2 := hide ((unhide HW).set (bt := bt) (by omega) (by omega) (by omega) hbw u (nv (T x + 1)))
                      have HQ2 := hide ((unhide HQ).set hbt u hun (T x + 1))
                      rw [hT0] at y4
                      rw [List.length_append, List.length_singleton] at hsz
                      generalize T x = tx at *
                      unfold nv at HW2 HQ2
                      clear HSK HAD HW HQ HBk hA hPt HX hT0
                      go_wp2_with (at_builtin; go_must (refine wpList_append_fits _ rfl (.tmp 141) (.tmp 143) 26 rfl bq 3 i0 1 Try.underlying26 hi hz1 bq Q.length R.length (Q.map nv) rfl ((unhide HQ2).own.alloc _) _ 1 1 [nv u] rfl rfl (lit_at _ _ #[nv u] (size_set _ _ _)) (one_of _ rfl) (by omega) ?_))
                      intro w5 hown hg
                      have HQ3 := hide ((unhide HQ2).grown hbt (grown_alloc hg) hown)
                      have HW3 := hide ((unhide HW2).grown (by omega) (by omega) (by omega) (by omega) (grown_alloc hg))
                      clear hown hg HQ2 HW2 y4 y5 z4
                      go_wp2
                      go_roundw
                      case rel => exact ⟨q + 1, Q ++ [u], _, by omega, by omega, by go_num, by simp, unhide HW3, unhide HQ3, unhide HA, by simp; omega, HX2, unhide HPt⟩
                      case measure => simp [intOf]; omega
                    · have HN := hide (unhide HSK (by omega))
                      have hT0' : ((T u : Int) == 0) = false := by simp; omega
                      clear HSK HAD HX2 y5 z4
                      go_wp2
                      go_roundw
                      case rel => exact ⟨q + 1, Q, T, by omega, by omega, by go_num, rfl, unhide HW, unhide HQ, unhide HBk, hlt, HX, unhide HN⟩
                      case measure => simp [intOf]; omega
                · have hqe : q = S (x + 1) := by omega
                  subst hqe
                  have HN := hide (hBk.next hPart hlt (fun u hu hm => by
                    rw [unhide HX] at hm
                    rw [row_at hu] at hm
                    obtain ⟨q', h1, h2, h3⟩ := (unhide HPr).all u x hu hm
                    exact ⟨q', h1, h2, h3⟩))
                  have HW := hide hLW
                  have HQ := hide hLQ
                  clear hLW hLQ hBk hPart
                  go_wp2
                  go_roundw
                  case rel => exact ⟨h + 1, Q, T, by omega, by go_num, rfl, unhide HW, unhide HQ, unhide HN⟩
                  case measure => simp [intOf]; omega
            · have hNm := hBk.nums (by omega) (unhide HR)
              have hCap := hBk.cap
              have HNm := hide hNm
              have HCap := hide hCap
              obtain rfl : h = Q.length := by omega
              clear hBk hNm hCap hlt hh hQR HPr
              obtain ⟨b, off, aor, capr, rfl, c0, hV⟩ := row_in (unhide HS) hLW.below f hf
              have hrl := unhide HT _ (List.getElem_mem hf)
              have HE := hide (hasEdge_any _ _ (f : Int) wr _ hV.ints (by simpa using hrl))
              have hdec : decide ((f : Int) ∈ R[f].map Int.ofNat) = decide (f ∈ R[f]) := by rw [decide_eq_decide]; exact mem_cast _ _
              rw [hdec] at HE
              have HV := hide hV
              clear hdec hV
              by_cases hff : f ∈ R[f]
              · rw [decide_eq_true hff] at HE
                have HFF := hide hff
                have HLW := hide hLW
                have hszw := hLW.below.size
                clear hff hLW hLQ
                go_wp2_with fail
                refine (unhide HE).mono ?_
                rintro e wr ⟨rfl, rfl⟩
                clear HE
                go_wp2_with (at_make; first | go_must (refine wpList_make_own _ rfl _ _ 26 rfl wr.heap.size 3 i0 (.int .i64 0) 1 Try.underlying26 hi hz0 hz1 .i64 .i64 (2 : Int) 2 rfl rfl rfl (by rw [hz2]; omega) (by unfold maxLen; omega) (Nat.le_refl _) ?_))
                intro w6 hown hg
                have hB6 : Below w.heap.size w w6 := (unhide HLW).below.grown hg (unhide HLW).below.size (fun k hk => by cases hk)
                have hs6 : wr.heap.size < w6.heap.size := (hown.lt _ rfl).2
                clear hg
                go_wp2_with (at_builtin; go_must (refine wpList_append_fits _ rfl (.tmp 200) (.tmp 202) 26 rfl wr.heap.size 3 i0 1 Try.underlying26 hi hz1 wr.heap.size 0 2 [] rfl (hown.alloc _) _ 1 1 [nv f] rfl rfl (lit_at _ _ #[nv f] rfl) (one_of _ rfl) (by omega) ?_))
                intro w7 hown7 hg7
                have hB7 : Below w.heap.size w w7 := hB6.grown (grown_alloc hg7) hB6.size (fun k hk => by simp at hk; omega)
                clear hown hg7
                go_wp2
                go_loop [26, 28] (fun cv lv => cv = .slice (some ⟨wr.heap.size, 0, none⟩) 1 2 ∧ lv = .int .i64 1) (fun _ _ => 0)
                case atStart => exact ⟨rfl, rfl⟩
                case round =>
                  obtain ⟨rfl, rfl⟩ := hrel
                  go_wp2_with (at_builtin; go_must (refine wpList_append_fits _ rfl (.tmp 245) (.tmp 247) 26 rfl wr.heap.size 3 i0 1 Try.underlying26 hi hz1 wr.heap.size 1 2 [nv f] rfl (hown7.alloc _) _ 1 1 [nv f] rfl rfl (lit_at _ _ #[nv f] rfl) (one_of _ rfl) (by omega) ?_))
                  intro w8 hown8 hg8
                  have hB8 : Below w.heap.size w w8 := hB7.grown (grown_alloc hg8) hB7.size (fun k hk => by simp at hk; omega)
                  have HO : Hid (IsNats (fun b => w.heap.size ≤ b ∧ b < w8.heap.size) w8 (.slice (some ⟨wr.heap.size, 0, none⟩) 2 2) ([f] ++ [f])) := (own_nats (l := [f, f]) hown8).move fun b hb => ⟨⟨by omega, hb.2⟩, rfl⟩
                  have HWt : Hid (WantOk R f (inn G f G.length) T [f]) := by
                    show WantOk _ _ _ _ _
                    rw [unhide HIe]
                    have hfr : f ∈ row R f := by rw [row_at hf]; exact unhide HFF
                    exact ⟨unhide HNm, by simp, rfl, fun _ => rfl, fun h => absurd hfr h, fun _ => hfr, fun i hi => by simp at hi⟩
                  have HB8 := hide hB8
                  clear hown7 hown8 hg8 hB6 hB7 hB8
                  go_wp2
                  go_ret2
                  exact ⟨unhide HB8, .inr ⟨_, T, [f], rfl, unhide HO, unhide HWt⟩⟩
              · rw [decide_eq_false hff] at HE
                have HFF := hide hff
                have HLW := hide hLW
                have HNum := hide hLQ.num
                clear hff hLW hLQ
                go_wp2_with fail
                refine (unhide HE).mono ?_
                rintro e wr ⟨rfl, rfl⟩
                clear HE
                obtain ⟨aor', capr', er, -, hsr⟩ := unhide HV
                simp only [Value.slice.injEq, true_and] at er
                obtain ⟨rfl, rfl⟩ := er
                have HSR := hide hsr
                have hB0 : Hid (Best I T R[f] 0 0) := Best.start I T R[f]
                clear hsr
                go_wp2
                go_loop [22, 24] (fun bv kv => ∃ (k best : Nat), k ≤ R[f].length ∧ best ≤ 1048576 ∧ bv = .int .i64 best ∧ kv = .int .i64 k ∧ Hid (Best I T R[f] k best)) (fun _ kv => R[f].length - (intOf kv).toNat)
                case atStart => exact ⟨0, 0, Nat.zero_le _, by omega, rfl, rfl, hB0⟩
                case round =>
                  obtain ⟨k, best, hk, hbm, rfl, rfl, hBs⟩ := hrel
                  by_cases hkl : k < R[f].length
                  · obtain ⟨br, offr, rfl, hblr, helr⟩ := unhide HSR (by omega)
                    have t0 : wr.cell? ⟨br, offr + k, none⟩ = some (nv R[f][k]) := by
                      have := helr k hkl
                      unfold elNat at this
                      rw [Nat.mul_one] at this
                      exact this
                    have hun := unhide HR _ (List.getElem_mem hf) _ (List.getElem_mem hkl)
                    have HSK := hide (fun a => hide ((unhide hBs).skip hkl a))
                    have HTK := hide (fun a b c => hide ((unhide hBs).take hkl a b c))
                    have bT := unhide HCap R[f][k] hun
                    have y3 := (unhide HLW).inner.cell R[f][k] hun
                    have y4 := (unhide HNum).cell R[f][k] hun
                    clear helr hBs hB0
                    generalize R[f][k] = u at *
                    unfold nv at t0 y4
                    cases hIu : I u
                    · rw [hIu] at y3
                      have HN := hide (unhide HSK (by rw [hIu]; intro h; cases h))
                      clear HSK HTK y4
                      go_wp2
                      go_round
                      case rel => exact ⟨k + 1, best, by omega, hbm, rfl, by go_num, unhide HN⟩
                      case measure => simp [intOf]; omega
                    · rw [hIu] at y3
                      by_cases hT0 : T u = 0
                      · rw [hT0] at y4
                        have HN := hide (unhide HSK (by omega))
                        clear HSK HTK
                        go_wp2
                        go_round
                        case rel => exact ⟨k + 1, best, by omega, hbm, rfl, by go_num, unhide HN⟩
                        case measure => simp [intOf]; omega
                      · have hT1 : (T u : Int) > 0 := by omega
                        by_cases hb0 : best = 0
                        · subst hb0
                          have HN := hide (unhide HTK hIu (by omega) (.inl rfl))
                          clear HSK HTK
                          generalize T u = tu at *
                          go_wp2
                          go_round
                          case rel => exact ⟨k + 1, tu, by omega, by omega, rfl, by go_num, unhide HN⟩
                          case measure => simp [intOf]; omega
                        · have hb1 : ((best : Int) == 0) = false := by simp; omega
                          by_cases hlt2 : (T u : Int) < (best : Int)
                          · have HN := hide (unhide HTK hIu (by omega) (.inr (by omega)))
                            clear HSK HTK
                            generalize T u = tu at *
                            go_wp2
                            go_round
                            case rel => exact ⟨k + 1, tu, by omega, by omega, rfl, by go_num, unhide HN⟩
                            case measure => simp [intOf]; omega
                          · have HN := hide (unhide HSK (by omega))
                            clear HSK HTK
                            generalize T u = tu at *
                            go_wp2
                            go_round
                            case rel => exact ⟨k + 1, best, by omega, hbm, rfl, by go_num, unhide HN⟩
                            case measure => simp [intOf]; omega
                  · have hkn : k = R[f].length := by omega
                    subst hkn
                    clear hB0
                    by_cases hb0 : best = 0
                    · subst hb0
                      have HB9 := hide (unhide HLW).below
                      clear hBs
                      go_wp2
                      go_ret2
                      exact ⟨unhide HB9, .inl ⟨_, rfl⟩⟩
                    · have hBest := unhide hBs
                      have HB1 : Hid (∃ u, u ∈ row R f ∧ I u = true ∧ T u = best + 1 - 1) := by
                        obtain ⟨u, h1, h2, h3⟩ := hBest.2 (by omega)
                        exact ⟨u, by rw [row_at hf]; exact h1, h2, by omega⟩
                      have HB2 : Hid (∀ u, u ∈ row R f → I u = true → 0 < T u → best + 1 ≤ T u + 1) := fun u h1 h2 h3 => by
                        rw [row_at hf] at h1
                        obtain ⟨i, hi, rfl⟩ := List.getElem_of_mem h1
                        have := (hBest.1 i hi hi h2 h3).2
                        omega
                      have hb1 : ((best : Int) == 0) = false := by simp; omega
                      clear hBest hBs hk hkl
                      have hszw := (unhide HLW).below.size
                      have hl1 := (unhide HLW).inner.lt
                      have hl2 := (unhide HLW).start.lt
                      have hl3 := (unhide HLW).pred.lt
                      have hl4 := (unhide HNum).lt
                      go_wp2_with (at_make; first | go_must (refine wpList_make_own _ rfl _ _ 26 rfl wr.heap.size 3 i0 (.int .i64 0) 1 Try.underlying26 hi hz0 hz1 .i64 .i64 ((best : Int) + 1 + 1) (best + 2) rfl rfl (by omega) (by rw [hz2]; omega) (by unfold maxLen; omega) (Nat.le_refl _) ?_))
                      intro w6 hown hg
                      have hLW6 := (unhide HLW).grown0 hg
                      have hNum6 := (unhide HNum).grown hg (by simp)
                      have hs6 : wr.heap.size < w6.heap.size := (hown.lt _ rfl).2
                      clear hg
                      go_wp2_with (at_builtin; go_must (refine wpList_append_fits _ rfl (.tmp 200) (.tmp 202) 26 rfl wr.heap.size 3 i0 1 Try.underlying26 hi hz1 wr.heap.size 0 (best + 2) [] rfl (hown.alloc _) _ 1 1 [nv f] rfl rfl (lit_at _ _ #[nv f] rfl) (one_of _ rfl) (by omega) ?_))
                      intro w7 hown7 hg7
                      have hLW7 := hLW6.grown (bq := wr.heap.size) (by omega) (by omega) (by omega) (by omega) (grown_alloc hg7)
                      have hNum7 := hNum6.grown (grown_alloc hg7) (by simp; omega)
                      have hC7 : ChainTo R f I T (best + 1) [f] := ⟨rfl, fun i h => by simp at h⟩
                      clear hown hg7 hLW6 hNum6
                      have hbc := hs6
                      generalize wr.heap.size = bc at *
                      go_wp2
                      go_loopw [26, 27, 28] (fun cv uv lv wr => ∃ (j : Nat) (l : List Nat), Hid (l.length = j + 1) ∧ j ≤ best ∧ cv = .slice (some ⟨bc, 0, none⟩) (j + 1) (best + 2) ∧ uv = .int .i64 (l.getD j 0 : Nat) ∧ lv = .int .i64 ((best + 1 - j : Nat) : Int) ∧ wr.ownsRow bc 3 1 (.slice (some ⟨bc, 0, none⟩) (j + 1) (best + 2)) (j + 1) (l.map nv) ∧ LexW w wr R.length m w.heap.size bs bp I S P ∧ Arr wr bt R.length (fun x => nv (T x)) ∧ ChainTo R f I T (best + 1) l) (fun _ _ lv _ => (intOf lv).toNat)
                      case atStart => exact ⟨0, [f], rfl, by omega, rfl, rfl, rfl, hown7, hLW7, hNum7, hC7⟩
                      case round =>
                        clear hown7 hLW7 hNum7 hC7
                        obtain ⟨j, l, hlj, hjb, rfl, rfl, rfl, hown, hLW, hNum, hC⟩ := hrel
                        by_cases hjl : j < best
                        · obtain ⟨hcn, hex⟩ := chain_next hC (unhide HNm) (unhide HR) hf (unhide HB1) (unhide hlj) (by omega)
                          obtain ⟨d, hd⟩ : ∃ d, best = j + d + 1 := ⟨best - j - 1, by omega⟩
                          have e1 : best + 1 - j = d + 2 := by omega
                          have e2 : best + 1 - 1 - j = d + 1 := by omega
                          rw [e2] at hex
                          have HCA : Hid (∀ u, (row R (l.getD j 0)).find? (fun u => I u && T u == d + 1) = some u → ChainTo R f I T (best + 1) (l ++ [u])) := fun u hu => chain_add hC (unhide hlj) (by rw [e2]; exact hu)
                          obtain ⟨b2, off2, aor2, capr2, er, c2, hV2⟩ := row_in (unhide HS) hLW.below (l.getD j 0) hcn
                          simp only [Option.some.injEq, Addr.mk.injEq, and_true] at er
                          obtain ⟨rfl, rfl⟩ := er
                          have hrl2 := unhide HT _ (List.getElem_mem hcn)
                          rw [row_at hcn] at hex HCA
                          have HEX := hide hex
                          have HRR : Hid (∀ x ∈ R[l.getD j 0], x < R.length) := unhide HR _ (List.getElem_mem hcn)
                          rw [e1]
                          have hd1 : j + d + 1 ≤ best := by omega
                          have hd2 : best ≤ j + d + 1 := by omega
                          clear hd e1
                          have HOW := hide hown
                          have HLW2 := hide hLW
                          have HNum2 := hide hNum
                          clear hC hex e2 hown hLW hNum c0 HLW HNum
                          generalize l.getD j 0 = cur at *
                          obtain ⟨aor3, capr3, er, -, hsr2⟩ := hV2
                          simp only [Value.slice.injEq, true_and] at er
                          obtain ⟨rfl, rfl⟩ := er
                          have HSR2 := hide hsr2
                          clear hsr2 HSR HV
                          generalize hrw : R[cur] = r at *
                          clear hrw
                          have hI1 : Hid (∀ i, (h : i < r.length) → i < 0 → (I r[i] && T r[i] == d + 1) = false) := fun i _ h => by omega
                          obtain ⟨wo4, rfl⟩ : ∃ wo4, wo4 = wr := ⟨_, rfl⟩
                          go_wp2
                          go_loop [29, 31] (fun nx kv => ∃ k : Nat, k ≤ r.length ∧ nx = .int .i64 (-1) ∧ kv = .int .i64 k ∧ Hid (∀ i, (h : i < r.length) → i < k → (I r[i] && T r[i] == d + 1) = false)) (fun _ kv => r.length - (intOf kv).toNat)
                          case atStart => exact ⟨0, Nat.zero_le _, rfl, rfl, hI1⟩
                          case round =>
                            clear hI1
                            obtain ⟨k, hk, rfl, rfl, hI1⟩ := hrel
                            by_cases hkl : k < r.length
                            · obtain ⟨br, offr, rfl, hblr, helr⟩ := unhide HSR2 (by omega)
                              have t0 : wo4.cell? ⟨br, offr + k, none⟩ = some (nv r[k]) := by
                                have := helr k hkl
                                unfold elNat at this
                                rw [Nat.mul_one] at this
                                exact this
                              have hun := unhide HRR _ (List.getElem_mem hkl)
                              have y3 := (unhide HLW2).inner.cell r[k] hun
                              have y4 := (unhide HNum2).cell r[k] hun
                              have HNX := hide (fun a => hide (step_of (P := fun u => (I u && T u == d + 1) = false) hkl (unhide hI1) a))
                              have HFD := hide (fun a => hide (find_at (p := fun u => I u && T u == d + 1) hkl a (unhide hI1)))
                              clear helr hI1
                              generalize r[k] = u at *
                              unfold nv at t0 y4
                              cases hIu : I u
                              · rw [hIu] at y3
                                have HN := hide (unhide HNX (by rw [hIu]; rfl))
                                clear HNX HFD y4
                                go_wp2
                                go_round
                                case rel => exact ⟨k + 1, by omega, rfl, by go_num, unhide HN⟩
                                case measure => simp [intOf]; omega
                              · rw [hIu] at y3
                                by_cases hTd : T u = d + 1
                                · have HCC := hide (unhide HCA u (unhide (unhide HFD (by rw [hIu, hTd]; simp))))
                                  rw [hTd] at y4
                                  clear HNX HFD HCA HEX
                                  go_wp2_with (at_builtin; go_must (refine wpList_append_fits _ rfl (.tmp 240) (.tmp 242) 26 rfl bc 3 i0 1 Try.underlying26 hi hz1 bc (j + 1) (best + 2) (l.map nv) rfl ((unhide HOW).alloc _) _ 1 1 [nv u] rfl rfl (lit_at _ _ #[nv u] rfl) (one_of _ rfl) (by omega) ?_))
                                  intro w8 hown8 hg8
                                  have HLW8 := hide ((unhide HLW2).grown (bq := bc) (by omega) (by omega) (by omega) (by omega) (grown_alloc hg8))
                                  have HNum8 := hide ((unhide HNum2).grown (grown_alloc hg8) (by simp; omega))
                                  have HO8 : Hid (w8.ownsRow bc 3 1 (.slice (some ⟨bc, 0, none⟩) (j + 1 + 1) (best + 2)) (j + 1 + 1) ((l ++ [u]).map nv)) := by
                                    show World.ownsRow _ _ _ _ _ _ _
                                    simpa using hown8
                                  have HG : Hid ((l ++ [u]).getD (j + 1) 0 = u) := by
                                    have := getD_last (Q := l) (u := u)
                                    rw [unhide hlj] at this
                                    exact this
                                  have HL8 : Hid ((l ++ [u]).length = j + 1 + 1) := by
                                    show _ = _
                                    rw [List.length_append, unhide hlj]; rfl
                                  clear hown8 hg8 HOW HLW2 HNum2
                                  go_wp2
                                  go_roundw
                                  case rel => exact ⟨j + 1, l ++ [u], HL8, by omega, rfl, by rw [unhide HG], by go_num, unhide HO8, unhide HLW8, unhide HNum8, unhide HCC⟩
                                  case measure => simp [intOf]; omega
                                · have hTd' : ((T u : Int) == (d : Int) + 1) = false := by simp; omega
                                  have HN := hide (unhide HNX (by rw [hIu]; simpa using hTd))
                                  clear HNX HFD
                                  generalize T u = tu at *
                                  go_wp2
                                  go_round
                                  case rel => exact ⟨k + 1, by omega, rfl, by go_num, unhide HN⟩
                                  case measure => simp [intOf]; omega
                            · exfalso
                              obtain ⟨u, h1, h2, h3⟩ := unhide HEX
                              obtain ⟨i, hi, rfl⟩ := List.getElem_of_mem h1
                              have := unhide hI1 i hi (by omega)
                              rw [h2, h3] at this
                              simp at this
                        · obtain rfl : j = best := by omega
                          have e1 : j + 1 - j = 1 := by omega
                          rw [e1]
                          have HC := hide hC
                          have HB8 := hide hLW.below
                          clear hC hLW hNum HLW HNum HSR HV
                          go_wp2_with (at_builtin; go_must (refine wpList_append_fits _ rfl (.tmp 245) (.tmp 247) 26 rfl bc 3 i0 1 Try.underlying26 hi hz1 bc (j + 1) (j + 2) (l.map nv) rfl (hown.alloc _) _ 1 1 [nv f] rfl rfl (lit_at _ _ #[nv f] rfl) (one_of _ rfl) (by omega) ?_))
                          intro w8 hown8 hg8
                          have HB9 := hide ((unhide HB8).grown (grown_alloc hg8) (unhide HB8).size (fun k hk => by simp at hk; omega))
                          have HO : Hid (IsNats (fun b => w.heap.size ≤ b ∧ b < w8.heap.size) w8 (.slice (some ⟨bc, 0, none⟩) (j + 1 + 1) (j + 2)) (l ++ [f])) := by
                            have h1 := own_natsN (l := l ++ [f]) (n := j + 1 + 1) (v := .slice (some ⟨bc, 0, none⟩) (j + 1 + 1) (j + 2)) (base := bc) (w := w8) (by rw [List.length_append, unhide hlj]; rfl) (by simpa using hown8)
                            exact h1.move fun b hb => ⟨⟨by omega, hb.2⟩, rfl⟩
                          have HWt : Hid (WantOk R f (inn G f G.length) T l) := by
                            show WantOk _ _ _ _ _
                            rw [unhide HIe]
                            have hlj' := unhide hlj
                            have hfr : f ∉ row R f := by rw [row_at hf]; exact unhide HFF
                            refine ⟨unhide HNm, by omega, (unhide HC).1, fun h => absurd h hfr, fun _ u h1 h2 h3 => ?_, fun h => by omega, fun i hi => ?_⟩
                            · have := unhide HB2 u h1 h2 h3
                              omega
                            · have := (unhide HC).2 i hi
                              rw [hlj']
                              exact this
                          clear hown hown8 hg8
                          go_wp2
                          go_ret2
                          exact ⟨unhide HB9, .inr ⟨_, T, l, rfl, unhide HO, unhide HWt⟩⟩
end Go.Proofs.Qxb6603026a
