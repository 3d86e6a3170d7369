/-
  graph.cycleThrough (32).
-/
import Derived.Test.Qxb6603026aTail
import Derived.Test.Qxb6603026aMap
import Derived.Test.Qxb6603026aRev
import Derived.Test.Qxb6603026aLex
import Derived.Deep.AppendLies
namespace Go.Proofs.Qxb6603026a
open Go.RowKit

theorem mk70 (w : World) (n : Nat) : (Instr.makeMap 70 (some (.int .i64 (n : Int)))).run Try.prog w = .ok (.map (some w.heap.size)) (w.alloc (.map #[] 0)) := by
  simp [Instr.makeMap, asInt, asIntOf]
theorem mk71 (w : World) : (Instr.makeMap 71 none).run Try.prog w = .ok (.map (some w.heap.size)) (w.alloc (.map #[] 0)) := by
  simp [Instr.makeMap]

/-- The least number of which p holds. -/
theorem least_of {p : Nat → Prop} (h : ∃ m, p m) : ∃ m, p m ∧ ∀ m', p m' → m ≤ m' := by
  obtain ⟨m, hm⟩ := h
  induction m using Nat.strongRecOn with
  | _ m ih =>
    by_cases h1 : ∃ m', m' < m ∧ p m'
    · obtain ⟨m', h2, h3⟩ := h1
      exact ih m' h2 h3
    · exact ⟨m, hm, fun m' h2 => Nat.le_of_not_lt fun h3 => h1 ⟨m', h3, h2⟩⟩
theorem eps_of {p : Nat → Prop} (h : ∃ m, p m) : p (Classical.epsilon fun m => p m ∧ ∀ m', p m' → m ≤ m') ∧ ∀ m', p m' → (Classical.epsilon fun m => p m ∧ ∀ m', p m' → m ≤ m') ≤ m' := Classical.epsilon_spec (least_of h)

/-- What came is told: its keys are Q, and the parents. -/
structure Came (f : Nat) (Q : List Nat) (C : Nat → Nat) (g : Int → Option Int) : Prop where
  has : ∀ v : Nat, (g (v : Int)).isSome = decide (v ∈ Q)
  par : ∀ v : Nat, v ∈ Q → v ≠ f → g (v : Int) = some (C v : Int)

theorem Came.start (f : Nat) (C : Nat → Nat) : Came f [f] C (fun z => if z = (f : Int) then some (-1) else none) := by
  refine ⟨fun v => ?_, fun v hv hne => by simp at hv; exact absurd hv hne⟩
  by_cases e : v = f
  · subst e; simp
  · have : ¬ ((v : Int) = (f : Int)) := by omega
    simp [this, e]
theorem Came.add {f : Nat} {Q : List Nat} {C : Nat → Nat} {g : Int → Option Int} (h : Came f Q C g) (u x : Nat) (hu : u ∉ Q) : Came f (Q ++ [u]) (fun v => if v = u then x else C v) (fun z => if z = (u : Int) then some (x : Int) else g z) := by
  refine ⟨fun v => ?_, fun v hv hne => ?_⟩
  · by_cases e : v = u
    · subst e; simp
    · have : ¬ ((v : Int) = (u : Int)) := by omega
      simp only [this, if_false, h.has v]
      simp [e]
  · by_cases e : v = u
    · subst e; simp
    · have : ¬ ((v : Int) = (u : Int)) := by omega
      simp only [this, e, if_false]
      exact h.par v (by simpa [e] using hv) hne

/-- The worlds of the search. -/
structure CycW (w wr : World) (vd : Value) (G : List Int) (bg bm base : Nat) (nQ : Nat) (g : Int → Option Int) : Prop where
  box : wr.cell? ⟨w.heap.size, 2, none⟩ = some vd
  mb : MapB wr bg G.length (fun z => decide (z ∈ G))
  mi : MapI wr bm nQ g
  bel : Below w.heap.size w wr
  b1 : w.heap.size < bg
  b2 : bg < bm
  b3 : bm < base
  b4 : base < wr.heap.size

theorem CycW.grown {w wr w2 : World} {vd : Value} {G : List Int} {bg bm base nQ : Nat} {g : Int → Option Int} (h : CycW w wr vd G bg bm base nQ g) {r : Nat} (hr : base ≤ r) (hg : wr.grownBy w2 (some r)) : CycW w w2 vd G bg bm base nQ g := by
  have h1 := h.b1
  have h2 := h.b2
  have h3 := h.b3
  have h4 := h.b4
  refine ⟨?_, h.mb.kept hg (by simp; omega), h.mi.kept hg (by simp; omega), h.bel.grown hg h.bel.size (fun k hk => by simp at hk; omega), h1, h2, h3, Nat.lt_of_lt_of_le h4 hg.size⟩
  rw [World.cell?_of_block (a := ⟨w.heap.size, 2, none⟩) (hg.block w.heap.size (by omega) (by simp; omega))]
  exact h.box

theorem wpList_append_eq {P : Program} {w w' : World} {ops : Array Oper} {rest : List Oper} {o : Oper} {a : Act} {Q : Exit → Act → World → Prop} (hgd : o.guard = none) (s x : Operand) (t : TypeId)
    (ho : o.op = .call { callee := .builtin .append, args := #[s, x], argTypes := #[t, t] }) (v1 v2 v' : Value) (hs : a.eval s = v1) (hx : a.eval x = v2) (hrun : (Builtin.append_ #[t, t] o.type #[v1, v2]).run P w = .ok v' w')
    (h : wpList P ops Q rest (a.put o.dst v') w') : wpList P ops Q (o :: rest) a w := by
  refine wpList_plain hgd fun K hK => ?_
  unfold Oper.wp
  simp [execOp, ho, resolve, invoke, builtin, hs, hx, hrun, Result.andThen]
  exact hK _ _ h

/-- The map 'came' is written. -/
theorem CycW.put {w wr w2 : World} {vd : Value} {G : List Int} {bg bm base nQ : Nat} {g g' : Int → Option Int} (h : CycW w wr vd G bg bm base nQ g) (hI : MapI w2 bm (nQ + 1) g') (hg : wr.grownBy w2 (some bm)) : CycW w w2 vd G bg bm base (nQ + 1) g' := by
  have h1 := h.b1
  have h2 := h.b2
  have h3 := h.b3
  have h4 := h.b4
  refine ⟨?_, h.mb.kept hg (by simp; omega), hI, h.bel.grown hg h.bel.size (fun k hk => by simp at hk; omega), h1, h2, h3, Nat.lt_of_lt_of_le h4 hg.size⟩
  rw [World.cell?_of_block (a := ⟨w.heap.size, 2, none⟩) (hg.block w.heap.size (by omega) (by simp; omega))]
  exact h.box

/-- The path as it is gathered, from the end. -/
def pathTo (l : List Nat) (f r j : Nat) : List Nat := f :: (List.range (r - j)).map (fun q => l.getD (r - q) 0)
theorem pathTo_next (l : List Nat) (f r j : Nat) (hj : j + 1 ≤ r) : pathTo l f r j = pathTo l f r (j + 1) ++ [l.getD (j + 1) 0] := by
  unfold pathTo
  rw [show r - j = (r - (j + 1)) + 1 by omega, List.range_succ, List.map_append, List.cons_append]
  congr 2
  simp only [List.map_cons, List.map_nil]
  congr 2
  omega
theorem pathTo_len (l : List Nat) (f r j : Nat) : (pathTo l f r j).length = r - j + 1 := by simp [pathTo]

theorem rev_path (l : List Nat) (f r a : Nat) (hl : l.length = r + 1) (h0 : l.getD 0 0 = f) (ha : r ≤ a + a + 1) (i : Nat) (hi : i < r + 2) : revTo 1 r a (fun i => nv ((pathTo l f r 0 ++ [f]).getD i 0)) i = nv ((l ++ [f]).getD i 0) := by
  have hp : (pathTo l f r 0).length = r + 1 := by rw [pathTo_len]; omega
  have hF : ∀ q, 1 ≤ q → q ≤ r → (pathTo l f r 0 ++ [f]).getD q 0 = l.getD (r + 1 - q) 0 := fun q h1 h2 => by
    rw [getD_append (by omega)]
    obtain ⟨q', rfl⟩ : ∃ q', q = q' + 1 := ⟨q - 1, by omega⟩
    unfold pathTo
    rw [List.getD_eq_getElem?_getD, List.getElem?_cons_succ, List.getElem?_map, List.getElem?_range (by omega)]
    show l.getD (r - q') 0 = _
    congr 1; omega
  unfold revTo
  by_cases e0 : i = 0
  · subst e0
    rw [if_neg (by omega)]
    refine congrArg nv ?_
    rw [getD_append (by omega), getD_append (by omega), h0]; rfl
  · by_cases e1 : i = r + 1
    · subst e1
      rw [if_neg (by omega)]
      refine congrArg nv ?_
      have h1 := getD_last (Q := pathTo l f r 0) (u := f)
      have h2 := getD_last (Q := l) (u := f)
      rw [hp] at h1
      rw [hl] at h2
      rw [h1, h2]
    · have h2 : (l ++ [f]).getD i 0 = l.getD i 0 := getD_append (by omega)
      rw [h2]
      by_cases e2 : 1 ≤ i ∧ i < 1 + r ∧ (i - 1 < a ∨ r ≤ i - 1 + a)
      · rw [if_pos e2]
        refine congrArg nv ?_
        rw [hF _ (by omega) (by omega)]
        congr 1; omega
      · rw [if_neg e2]
        refine congrArg nv ?_
        rw [hF i (by omega) (by omega)]
        congr 1; omega

theorem WantOk.short {R : List (List Nat)} {f : Nat} {I : Nat → Bool} {T : Nat → Nat} {l : List Nat} (h : WantOk R f I T l) (hR : ∀ r ∈ R, ∀ x ∈ r, x < R.length) (hf : f < R.length) : l.length ≤ R.length + 1 := by
  have hn : ((List.range (l.length - 1)).map (fun i => l.getD (i + 1) 0)).Nodup := by
    rw [List.Nodup, List.pairwise_map]
    refine List.Pairwise.imp_of_mem (fun {a b} ha hb hab => ?_) List.pairwise_lt_range
    rw [List.mem_range] at ha hb
    intro e
    have h1 := (h.num a (by omega)).2
    have h2 := (h.num b (by omega)).2
    rw [e, h2] at h1
    omega
  have h3 := nodup_le R.length _ hn (fun x hx => by
    obtain ⟨i, hi, rfl⟩ := List.mem_map.1 hx
    rw [List.mem_range] at hi
    exact h.node hR hf _ (by omega))
  simp at h3
  omega

def lenV : Value → Nat
  | .slice _ n _ => n
  | _ => 0

/-- How cycleThrough ends. -/
def Cycled (w : World) (l : List Nat) (e : Ending) (w' : World) : Prop := ∃ v, e = .returned v ∧ IsNats (fun b => w.heap.size ≤ b ∧ b < w'.heap.size) w' v l ∧ Below w.heap.size w w'

/-- The state at the head of a round. -/
def CycP (R : List (List Nat)) (f : Nat) (I : Nat → Bool) (l : List Nat) (w : World) (vd : Value) (G : List Int) (bg bm base : Nat) (td : Value) (wr : World) (m : Nat) : Prop :=
  ∃ Q dp C h r k b off cap g, m + h = R.length ∧ td = .slice (some ⟨b, off, none⟩) (Q.length - h) cap ∧ Tail wr base b off (Q.length - h) cap (Q.drop h) ∧ Fwd R f I l Q dp C h r k ∧ Came f Q C g ∧ CycW w wr vd G bg bm base Q.length g

set_option maxHeartbeats 8000000 in
set_option maxRecDepth 100000 in
theorem cycle_any (vd vg : Value) (R : List (List Nat)) (f : Nat) (G : List Int) (T : Nat → Nat) (l : List Nat) (w : World) (hl : R.length ≤ 1048576) (hT : ∀ r ∈ R, r.length ≤ 1048576) (hR : ∀ r ∈ R, ∀ x ∈ r, x < R.length) (hf : f < R.length) (hG : G.length ≤ 1048576) (hGw : ∀ x ∈ G, (Lit.int .i64 x).wf = true)
    (h : IsRowsN (· < w.heap.size) w vd R) (h2 : IsInts (· < w.heap.size) w vg G) (hw : WantOk R f (inn G f G.length) T l) :
    Calls Try.prog 32 #[.agg #[.slice none 0 0, .map none, vd, .slice none 0 0, .int .i64 0, .slice none 0 0, .map none], .int .i64 (f : Int), vg] w (Cycled w (l ++ [f])) := by
  have hIf : inn G f G.length f = false := by unfold inn; simp
  have HIG : Hid (∀ u : Nat, u ≠ f → inn G f G.length u = decide ((u : Int) ∈ G)) := fun u hu => by unfold inn; rw [List.take_of_length_le (Nat.le_refl _)]; simp [hu]
  have HH := hide h
  obtain ⟨ao, cap, rfl, -, hs⟩ := h
  obtain ⟨ao2, cap2, rfl, -, hs2⟩ := h2
  have HT := hide hT
  have HR := hide hR
  have HS := hide hs
  have HS2 := hide hs2
  have HW := hide hw
  have HIf := hide hIf
  have HGw := hide hGw
  have m70 := mk70
  have m71 := mk71
  clear hT hR hs hs2 hw hIf hGw
  go_enter Try.func32, Try.ntmps32
  have hM0 : MapB ((w.alloc (.cells #[.slice none 0 0, .map none, .slice ao R.length cap, .slice none 0 0, .int .i64 0, .slice none 0 0, .map none] 54)).alloc (.map #[] 0)) (w.heap.size + 1) 0 (fun z => decide (z ∈ G.take 0)) := by
    have := MapB.made (w.alloc (.cells #[.slice none 0 0, .map none, .slice ao R.length cap, .slice none 0 0, .int .i64 0, .slice none 0 0, .map none] 54))
    simpa using this
  have hB0 : Below w.heap.size w ((w.alloc (.cells #[.slice none 0 0, .map none, .slice ao R.length cap, .slice none 0 0, .int .i64 0, .slice none 0 0, .map none] 54)).alloc (.map #[] 0)) := ((Below.refl _ _).alloc (Nat.le_refl _) _).alloc (by simp) _
  have hX0 : ((w.alloc (.cells #[.slice none 0 0, .map none, .slice ao R.length cap, .slice none 0 0, .int .i64 0, .slice none 0 0, .map none] 54)).alloc (.map #[] 0)).cell? ⟨w.heap.size, 2, none⟩ = some (.slice ao R.length cap) := by simp
  have HM0 := hide hM0
  have HB0 := hide hB0
  have HX0 := hide hX0
  clear hM0 hB0 hX0
  go_wp2
  go_loopw [24] (fun kv wr => ∃ k : Nat, k ≤ G.length ∧ kv = .int .i64 k ∧ MapB wr (w.heap.size + 1) k (fun z => decide (z ∈ G.take k)) ∧ wr.cell? ⟨w.heap.size, 2, none⟩ = some (.slice ao R.length cap) ∧ Below w.heap.size w wr) (fun kv _ => G.length - (intOf kv).toNat)
  case atStart => exact ⟨0, Nat.zero_le _, rfl, unhide HM0, unhide HX0, unhide HB0⟩
  case round =>
    clear HM0 HX0 HB0
    obtain ⟨k, hk, rfl, hM, hX, hB⟩ := hrel
    by_cases hkl : k < G.length
    · obtain ⟨b, off, rfl, hbl, hel⟩ := unhide HS2 (by omega)
      have t0 : wr.cell? ⟨b, off + k, none⟩ = some (.int .i64 G[k]) := by
        have := hel k hkl
        unfold elInt at this
        rw [Nat.mul_one] at this
        exact (hB.cell (p := ⟨b, off + k, none⟩) hbl).trans this
      obtain ⟨w5, hrun, hM5, hg5⟩ := hM.put (by unfold maxLen; omega) (unhide HGw _ (List.getElem_mem hkl))
      have hlt := hM.lt
      have HM5 : Hid (MapB w5 (w.heap.size + 1) (k + 1) (fun z => decide (z ∈ G.take (k + 1)))) := by
        have e : (fun z => decide (z ∈ G.take (k + 1))) = fun z => if z = G[k] then true else decide (z ∈ G.take k) := by
          funext z
          rw [List.take_succ_eq_append_getElem hkl]
          by_cases e : z = G[k]
          · simp only [List.mem_append, List.mem_singleton, e, or_true, if_true]; simp
          · simp only [List.mem_append, List.mem_singleton, e, or_false, if_false]
        show MapB _ _ _ _
        rw [e]; exact hM5
      have HX5 : Hid (w5.cell? ⟨w.heap.size, 2, none⟩ = some (.slice ao R.length cap)) := by
        show _ = _
        rw [World.cell?_of_block (a := ⟨w.heap.size, 2, none⟩) (hg5.block w.heap.size (by omega) (by simp))]; exact hX
      have HB5 := hide (hB.grown hg5 hB.size (fun j hj => by simp at hj; omega))
      clear hel hM hX hB hM5 hg5
      generalize G[k] = g at *
      go_wp2
      go_roundw
      case rel => exact ⟨k + 1, by omega, by go_num, unhide HM5, unhide HX5, unhide HB5⟩
      case measure => simp [intOf]; omega
    · have hkn : k = G.length := by omega
      subst hkn
      rw [List.take_of_length_le (Nat.le_refl _)] at hM
      have hlt := hM.lt
      obtain ⟨w6, hrun, hI6, hg6⟩ := (MapI.made wr).put (by unfold maxLen; omega) (x := (f : Int)) (y := -1) (WalkArith.wf_i64 (by omega)) (by decide)
      have hg6' : wr.grownBy w6 (some wr.heap.size) := ((World.grownBy_alloc wr (.map #[] 0) (some wr.heap.size)).trans hg6)
      have hM6 := hM.kept hg6' (by simp; omega)
      have hX6 : w6.cell? ⟨w.heap.size, 2, none⟩ = some (.slice ao R.length cap) := by
        rw [World.cell?_of_block (a := ⟨w.heap.size, 2, none⟩) (hg6'.block w.heap.size (by omega) (by simp; omega))]; exact hX
      have hB6 := hB.grown hg6' hB.size (fun j hj => by simp at hj; omega)
      have hl6 := hI6.lt
      clear hM hX hB hg6 hg6' hk hkl HS2
      obtain ⟨wo, rfl⟩ : ∃ wo, wo = wr := ⟨_, rfl⟩
      have hC0 : CycP R f (inn G f G.length) l w (.slice ao R.length cap) G (w.heap.size + 1) wo.heap.size w6.heap.size (.slice (some ⟨w6.heap.size, 0, none⟩) 1 1) (w6.alloc (.cells #[.int .i64 (f : Int)] 3)) R.length := by
        refine ⟨[f], fun _ => 0, fun _ => 0, 0, 0, 0, w6.heap.size, 0, 1, _, rfl, rfl, ⟨rfl, Nat.le_refl _, fun j hj => ?_, fun j hj => ?_, fun o => by simp, Nat.le_refl _, by simp⟩, Fwd.start (unhide HW) hf _, Came.start f _, ?_⟩
        · simp at hj; subst hj; simp [nv]
        · have : j = 0 := by omega
          subst this; simp
        · have hga := World.grownBy_alloc w6 (.cells #[.int .i64 (f : Int)] 3) none
          refine ⟨?_, hM6.kept hga (by simp), hI6.kept hga (by simp), hB6.alloc hB6.size _, by omega, by omega, hl6, by simp⟩
          rw [World.cell?_of_block (a := ⟨w.heap.size, 2, none⟩) (hga.block w.heap.size (by omega) (by simp))]; exact hX6
      have HC0 := hide hC0
      clear hC0 hM6 hX6 hB6 hI6
      go_wp2
      go_loopw [11] (fun td wr => ∃ m, CycP R f (inn G f G.length) l w (.slice ao R.length cap) G (w.heap.size + 1) wo.heap.size w6.heap.size td wr m) (fun td wr => Classical.epsilon fun m => CycP R f (inn G f G.length) l w (.slice ao R.length cap) G (w.heap.size + 1) wo.heap.size w6.heap.size td wr m ∧ ∀ m', CycP R f (inn G f G.length) l w (.slice ao R.length cap) G (w.heap.size + 1) wo.heap.size w6.heap.size td wr m' → m ≤ m')
      case atStart => exact ⟨_, unhide HC0⟩
      case round =>
        clear HC0
        have hme := eps_of hrel
        obtain ⟨Q, dp, C, h, r, k, b, off, cp, g, hm, rfl, hTl, hF, hCm, hCW⟩ := hme.1
        have HM := hide hm
        clear hme hrel hm
        have hkl := hF.kl
        have hhk := hF.hk
        have hQn := nodup_le _ _ hF.nodup hF.lt
        have hxn := hF.lt _ (getD_mem (by omega : h < Q.length))
        obtain ⟨bd, offd, aor, capr, er, c0, hV⟩ := row_in (unhide HS) hCW.bel (Q.getD h 0) hxn
        have y0 : wr.cell? ⟨b, off, none⟩ = some (nv (Q.getD h 0)) := by
          have := hTl.cell 0 (by simp; omega)
          rw [Nat.add_zero] at this
          rw [this]
          simp [List.getD_eq_getElem?_getD, List.getElem?_eq_getElem (by omega : h < Q.length)]
        subst er
        have y1 := hCW.box
        have hrl := unhide HT _ (List.getElem_mem hxn)
        have HRR : Hid (∀ y ∈ R[Q.getD h 0], y < R.length) := unhide HR _ (List.getElem_mem hxn)
        have HRW : Hid (row R (Q.getD h 0) = R[Q.getD h 0]) := row_at hxn
        have HX : Hid (Q.getD h 0 = Q.getD h 0) := rfl
        generalize hxe : Q.getD h 0 = x at *
        obtain ⟨aor3, capr3, er, -, hsr⟩ := hV
        simp only [Value.slice.injEq, true_and] at er
        obtain ⟨rfl, rfl⟩ := er
        have HSR : Hid (∀ wx, Below w.heap.size w wx → ∀ t, (ht : t < R[x].length) → ∃ br offr, aor = some ⟨br, offr, none⟩ ∧ wx.cell? ⟨br, offr + t, none⟩ = some (nv R[x][t])) := fun wx hbx t ht => by
          obtain ⟨br, offr, e, hblr, helr⟩ := hsr (by omega)
          refine ⟨br, offr, e, ?_⟩
          have h1 := helr t ht
          unfold elNat at h1
          rw [Nat.mul_one] at h1
          have h2 : wx.heap[br]? = wr.heap[br]? := by rw [hbx.block br hblr, hCW.bel.block br hblr]
          rw [cell_keep h2]; exact h1
        have HXE := hide hxe
        have hlen0 : 0 < Q.length - h := by omega
        have hA1 : Hid (∀ i, (hi : i < R[x].length) → i < 0 → R[x][i] ≠ f) := fun i _ h => by omega
        have hA2 : Hid (h = k → r + 1 < l.length → ∀ i, (hi : i < R[x].length) → i < 0 → (inn G f G.length R[x][i] && T R[x][i] == l.length - 1 - r) = false) := fun _ _ i _ h => by omega
        clear hsr hxe HX
        unfold nv at y0
        generalize hrw : R[x] = rx at *
        obtain ⟨wo2, rfl⟩ : ∃ wo2, wo2 = wr := ⟨_, rfl⟩
        have HT0 := hide hTl
        have HF0 := hide hF
        have HCm0 := hide hCm
        have HCW0 := hide hCW
        clear hTl hF hCm hCW hrw
        go_wp2
        go_loopw [11, 47] (fun td tv wr => ∃ (t : Nat) (Q : List Nat) (dp C : Nat → Nat) (r k b off cp : Nat) (g : Int → Option Int), t ≤ rx.length ∧ tv = .int .i64 t ∧ td = .slice (some ⟨b, off, none⟩) (Q.length - h) cp ∧ Tail wr w6.heap.size b off (Q.length - h) cp (Q.drop h) ∧ Fwd R f (inn G f G.length) l Q dp C h r k ∧ Came f Q C g ∧ CycW w wr (.slice (some ⟨bd, offd, none⟩) R.length cap) G (w.heap.size + 1) wo.heap.size w6.heap.size Q.length g ∧ Hid (Q.getD h 0 = x) ∧ Hid (∀ i, (hi : i < rx.length) → i < t → rx[i] ≠ f) ∧ Hid (h = k → r + 1 < l.length → ∀ i, (hi : i < rx.length) → i < t → (inn G f G.length rx[i] && T rx[i] == l.length - 1 - r) = false)) (fun _ tv _ => rx.length - (intOf tv).toNat)
        case atStart => exact ⟨0, Q, dp, C, r, k, b, off, cp, g, Nat.zero_le _, rfl, rfl, unhide HT0, unhide HF0, unhide HCm0, unhide HCW0, HXE, hA1, hA2⟩
        case round =>
          clear HT0 HF0 HCm0 HCW0 HXE hA1 hA2 y0 y1 c0 hlen0 hkl hhk hQn
          obtain ⟨t, Q, dp, C, r, k, b, off, cp, g, htl, rfl, rfl, hTl, hF, hCm, hCW, HXE, hA1, hA2⟩ := hrel
          have hkl := hF.kl
          have hhk := hF.hk
          have hQn := nodup_le _ _ hF.nodup hF.lt
          by_cases htn : t < rx.length
          · obtain ⟨br, offr, rfl, t0⟩ := unhide HSR wr hCW.bel t htn
            have hun := unhide HRR _ (List.getElem_mem htn)
            have hmem : rx[t] ∈ row R (Q.getD h 0) := by rw [unhide HXE, unhide HRW]; exact List.getElem_mem htn
            have hGD : h = k → r + 1 < l.length → (inn G f G.length rx[t] && T rx[t] == l.length - 1 - r) = true → rx[t] = l.getD (r + 1) 0 := fun e1 e2 e3 => by
              have h1 := (unhide HW).step r e2
              rw [← hF.at_k, ← e1, unhide HXE, unhide HRW] at h1
              have h2 := find_at (p := fun u => inn G f G.length u && T u == l.length - 1 - r) htn e3 (unhide hA2 e1 e2)
              rw [h2] at h1
              exact Option.some.inj h1
            by_cases huf : rx[t] = f
            · obtain ⟨e1, e2⟩ := hF.hit (unhide HW) (unhide HR) hf (unhide HIf) (by rw [← huf]; exact hmem)
              have hxe : x = l.getD r 0 := by rw [← unhide HXE, e1]; exact hF.at_k
              have hin := hF.inq
              have hcam := hF.cam
              have hpar := hCm.par
              have HCJ : Hid (∀ j, j + 1 ≤ r → l.getD (j + 1) 0 ≠ f ∧ l.getD (j + 1) 0 < R.length ∧ g ((l.getD (j + 1) 0 : Nat) : Int) = some ((l.getD j 0 : Nat) : Int)) := fun j hj => by
                have h1 := ((unhide HW).num j (by omega)).1
                have h2 : l.getD (j + 1) 0 ≠ f := fun e => by rw [e, unhide HIf] at h1; cases h1
                exact ⟨h2, (unhide HW).node (unhide HR) hf _ (by omega), by rw [hpar _ (hin (j + 1) hj) h2, hcam j (by omega)]⟩
              have hLl : Hid (l.length = r + 1) := e2.symm
              have H00 : Hid (l.getD 0 0 = f) := (unhide HW).head
              have hb4 := hCW.b4
              have hb3 := hCW.b3
              have hb2 := hCW.b2
              have hrn : r ≤ R.length := by
                have := (unhide HW).short (unhide HR) hf
                omega
              have hCW2 := hCW.grown (r := w6.heap.size) (Nat.le_refl _) (World.grownBy_alloc wr (.cells #[.int .i64 (f : Int)] 3) (some w6.heap.size))
              have hO2 : (wr.alloc (.cells #[.int .i64 (f : Int)] 3)).ownsRow wr.heap.size 3 1 (.slice (some ⟨wr.heap.size, 0, none⟩) 1 1) 1 ((pathTo l f r r).map nv) := by
                have := World.ownsRow_lit (e := 3) (size := 1) (base := wr.heap.size) wr #[.int .i64 (f : Int)] 1 (Nat.le_refl _) (by unfold maxLen; omega) rfl
                have e : (pathTo l f r r).map nv = [.int .i64 (f : Int)] := by simp [pathTo, nv]
                rw [e]; exact this
              have HCW2 := hide hCW2
              have HO2 := hide hO2
              rw [huf] at t0
              have HXE2 := hide hxe
              clear hTl hF hCm hCW hA1 hA2 hGD hmem huf hin hcam hpar hCW2 hO2 e1 e2 hxe HSR HRR
              unfold nv at t0
              obtain ⟨wo4, rfl⟩ : ∃ wo4, wo4 = wr := ⟨_, rfl⟩
              obtain ⟨i0, hi, hz0, hz1, hz2⟩ := info_parts info3
              go_wp2
              go_loopw [15, 16] (fun pv kv wr => ∃ (j gp cpp : Nat), j ≤ r ∧ kv = .int .i64 ((l.getD j 0 : Nat) : Int) ∧ pv = .slice (some ⟨gp, 0, none⟩) (r - j + 1) cpp ∧ wr.ownsRow wo4.heap.size 3 1 (.slice (some ⟨gp, 0, none⟩) (r - j + 1) cpp) (r - j + 1) ((pathTo l f r j).map nv) ∧ CycW w wr (.slice (some ⟨bd, offd, none⟩) R.length cap) G (w.heap.size + 1) wo.heap.size w6.heap.size Q.length g) (fun pv _ _ => r + 2 - lenV pv)
              case atStart => exact ⟨r, wo4.heap.size, 1, Nat.le_refl _, by rw [← unhide HXE2], by simp, by simpa using unhide HO2, unhide HCW2⟩
              case round =>
                clear HO2 HCW2
                obtain ⟨j, gp, cpp, hjr, rfl, rfl, hO, hCW⟩ := hrel
                have hgp := hO.lt gp rfl
                cases j with
                | zero =>
                  rw [unhide H00]
                  have HO := hide hO
                  have HCW := hide hCW
                  have hws := hCW.b4
                  rw [Nat.sub_zero] at HO ⊢
                  clear hO hCW HCJ
                  go_wp2_with (at_builtin; go_must (refine wpList_append_lies _ rfl (.tmp 67) (.tmp 69) 26 rfl wo4.heap.size 3 i0 (.int .i64 0) 1 8 Try.underlying26 hi hz0 hz1 hz2 rfl (by decide) _ (r + 1) _ rfl ((unhide HO).alloc _) _ 1 1 [nv f] rfl rfl (lit_at _ _ #[nv f] rfl) (one_of _ rfl) (by omega) (by unfold maxLen; omega) (by omega) (by simp; omega) _ rfl ?_))
                  intro g8 cp8 w8 hO8 hg8 hat8 hlt8
                  have hg8' : wr.grownBy w8 (some gp) := grown_alloc hg8
                  have hCW8 := (unhide HCW).grown (r := gp) (by omega) hg8'
                  have hlb := hO8.lt g8 rfl
                  have hcap : r + 1 + 1 ≤ cp8 := by
                    rcases hO8.2 with ⟨h9, -⟩ | ⟨g', cap', cur, hv, -, -, hnc, -⟩
                    · cases h9
                    · simp at hv; omega
                  obtain ⟨cp9, rfl⟩ : ∃ cp9, cp8 = cp9 + 2 := ⟨cp8 - 2, by omega⟩
                  have hA8 : Arr w8 g8 (r + 2) (fun i => nv ((pathTo l f r 0 ++ [f]).getD i 0)) := by
                    refine ⟨fun o ho => ?_, fun o => hO8.frozenAt o, hlt8⟩
                    have hlen : (pathTo l f r 0 ++ [f]).length = r + 2 := by rw [List.length_append, pathTo_len]; simp
                    rw [hO8.cellAt o (by omega), ← List.map_singleton, ← List.map_append, List.getElem?_map, List.getElem?_eq_getElem (by omega), List.getD_eq_getElem?_getD, List.getElem?_eq_getElem (by omega)]
                    rfl
                  have HCR := hide (reverse_any (some ⟨g8, 1, none⟩) g8 (r + 2) 1 r (cp9 + 1) _ (fun i => (((pathTo l f r 0 ++ [f]).getD i 0 : Nat) : Int)) w8 (fun _ => rfl) (fun _ => rfl) (by omega) (by omega) hA8)
                  have HB8 := hide hCW8.bel
                  clear hO8 hg8 hg8' hat8 hCW8 HO HCW hA8
                  go_wp2_with fail
                  refine (unhide HCR).mono ?_
                  rintro e w9 ⟨v9, a9, rfl, ha9, hA9, hg9⟩
                  have HRS : Hid (IsNats (fun b => w.heap.size ≤ b ∧ b < w9.heap.size) w9 (.slice (some ⟨g8, 0, none⟩) (r + 1 + 1) (cp9 + 2)) (l ++ [f])) := by
                    have hll : (l ++ [f]).length = r + 1 + 1 := by rw [List.length_append, unhide hLl]; rfl
                    refine ⟨some ⟨g8, 0, none⟩, cp9 + 2, by rw [hll], fun h => by simp at h, fun _ => ⟨g8, 0, rfl, ⟨by omega, hA9.lt⟩, fun j hj => ?_⟩⟩
                    unfold elNat
                    rw [Nat.mul_one, Nat.zero_add, hA9.cell j (by omega)]
                    refine congrArg some ((rev_path l f r a9 (unhide hLl) (unhide H00) ha9 j (by omega)).trans ?_)
                    rw [List.getD_eq_getElem?_getD, List.getElem?_eq_getElem hj]
                    rfl
                  have HB9 := hide ((unhide HB8).grown hg9 (unhide HB8).size (fun j hj => by simp at hj; omega))
                  clear hA9 hg9 HCR HB8
                  go_wp2
                  go_ret
                  exact ⟨_, rfl, unhide HRS, unhide HB9⟩
                | succ j =>
                  obtain ⟨hne, hcn, hgj⟩ := unhide HCJ j (by omega)
                  have hn1 : (((l.getD (j + 1) 0 : Nat) : Int) != (f : Int)) = true := by simp only [bne_iff_ne, ne_eq]; omega
                  obtain ⟨d, hd⟩ : ∃ d, r = j + d + 1 := ⟨r - (j + 1), by omega⟩
                  have HPN := hide (pathTo_next l f r j (by omega))
                  have e1 : r - (j + 1) + 1 = d + 1 := by omega
                  rw [e1] at hO ⊢
                  have HO := hide hO
                  have HCW := hide hCW
                  have HJ1 : Hid (r - j + 1 = d + 1 + 1) := by show _ = _; omega
                  have hd1 : j + d + 1 ≤ r := by omega
                  have hd2 : r ≤ j + d + 1 := by omega
                  have hws := hCW.b4
                  clear hO hCW hd e1
                  generalize hcj : l.getD (j + 1) 0 = cj at *
                  clear hcj
                  go_wp2_with (at_builtin; go_must (refine wpList_append_lies _ rfl (.tmp 63) (.tmp 65) 26 rfl wo4.heap.size 3 i0 (.int .i64 0) 1 8 Try.underlying26 hi hz0 hz1 hz2 rfl (by decide) _ (d + 1) _ rfl ((unhide HO).alloc _) _ 1 1 [nv cj] rfl rfl (lit_at _ _ #[nv cj] rfl) (one_of _ rfl) (by omega) (by unfold maxLen; omega) (by omega) (by simp; omega) _ rfl ?_))
                  intro g8 cp8 w8 hO8 hg8 hat8 hlt8
                  have hg8' : wr.grownBy w8 (some gp) := grown_alloc hg8
                  have hCW8 := (unhide HCW).grown (r := gp) (by omega) hg8'
                  have hl8 := hCW8.mi.look (x := (cj : Int)) (WalkArith.wf_i64 (by omega))
                  rw [hgj] at hl8
                  have HCW8 := hide hCW8
                  have HO8 : Hid (w8.ownsRow wo4.heap.size 3 1 (.slice (some ⟨g8, 0, none⟩) (r - j + 1) cp8) (r - j + 1) ((pathTo l f r j).map nv)) := by
                    show World.ownsRow _ _ _ _ _ _ _
                    rw [unhide HJ1, unhide HPN, List.map_append]; exact hO8
                  have hl9 : (Instr.lookup 71 (.map (some wo.heap.size)) (.int .i64 (cj : Int)) false).run Try.prog w8 = .ok (.int .i64 ((l.getD j 0 : Nat) : Int)) w8 := hl8
                  clear hO8 hg8 hg8' hat8 hlt8 hCW8 HO HCW hl8 hgj HPN
                  go_wp2
                  go_roundw
                  case rel => exact ⟨j, g8, cp8, by omega, rfl, by rw [unhide HJ1], unhide HO8, unhide HCW8⟩
                  case measure => simp [lenV]; omega
            · have hw1 : (Lit.int .i64 (rx[t] : Int)).wf = true := WalkArith.wf_i64 (by omega)
              have hl1 := hCW.mi.lookOk hw1
              have hl2 := hCW.mb.look hw1
              rw [hCm.has] at hl1
              have hA1' : Hid (∀ i, (hi : i < rx.length) → i < t + 1 → rx[i] ≠ f) := step_of (P := fun y => y ≠ f) htn (unhide hA1) huf
              have HSK : Hid ((h = k → r + 1 < l.length → (inn G f G.length rx[t] && T rx[t] == l.length - 1 - r) = false) → (h = k → r + 1 < l.length → ∀ i, (hi : i < rx.length) → i < t + 1 → (inn G f G.length rx[i] && T rx[i] == l.length - 1 - r) = false)) := fun e e1 e2 => step_of (P := fun y => (inn G f G.length y && T y == l.length - 1 - r) = false) htn (unhide hA2 e1 e2) (e e1 e2)
              have hne : ((rx[t] : Int) == (f : Int)) = false := by simp; omega
              by_cases huQ : rx[t] ∈ Q
              · have HN := hide (unhide HSK (fun e1 e2 => by
                  cases e3 : (inn G f G.length rx[t] && T rx[t] == l.length - 1 - r)
                  · rfl
                  · have e4 := hGD e1 e2 e3
                    exact absurd (e4 ▸ huQ) (hF.fresh (unhide HW) (unhide HR) hf (unhide HIf) e1 e2)))
                rw [decide_eq_true huQ] at hl1
                have HT1 := hide hTl
                have HF1 := hide hF
                have HCm1 := hide hCm
                have HCW1 := hide hCW
                clear hTl hF hCm hCW hA1 hA2 HSK hGD hmem huQ hl2
                generalize (g (rx[t] : Int)).getD 0 = gv at *
                generalize rx[t] = u at *
                unfold nv at t0
                go_wp2
                go_roundw
                case rel => exact ⟨t + 1, Q, dp, C, r, k, b, off, cp, g, by omega, by go_num, rfl, unhide HT1, unhide HF1, unhide HCm1, unhide HCW1, HXE, hA1', HN⟩
                case measure => simp [intOf]; omega
              · rw [decide_eq_false huQ] at hl1
                by_cases huG : (rx[t] : Int) ∈ G
                · have hIu : inn G f G.length rx[t] = true := by rw [unhide HIG _ huf]; simpa using huG
                  rw [decide_eq_true huG] at hl2
                  have hxn2 : (Lit.int .i64 (x : Int)).wf = true := WalkArith.wf_i64 (by omega)
                  obtain ⟨w7, hrun7, hI7, hg7⟩ := hCW.mi.put (by unfold maxLen; omega) hw1 hxn2
                  have hCW7 := hCW.put hI7 hg7
                  have hb3 := hCW.b3
                  have hbb := hTl.base
                  have hT7 := hTl.grown hg7 (by simp; omega)
                  have hT7' := hT7.grown (World.grownBy_alloc w7 (.cells #[nv rx[t]] 3) none) (by simp)
                  have hb4 := hCW7.b4
                  obtain ⟨b8, off8, cp8, w8, hrun8, hT8, hg8⟩ := hT7'.append rx[t] w7.heap.size 26 (by simp) (by omega) (by simp; omega)
                  have hg8' := grown_alloc hg8
                  have hCW8 := hCW7.grown hbb hg8'
                  have HNX : Hid (∃ dp' r' k', Fwd R f (inn G f G.length) l (Q ++ [rx[t]]) dp' (fun y => if y = rx[t] then x else C y) h r' k' ∧ (h = k' → r' + 1 < l.length → ∀ i, (hi : i < rx.length) → i < t + 1 → (inn G f G.length rx[i] && T rx[i] == l.length - 1 - r') = false)) := by
                    by_cases hgood : h = k ∧ r + 1 < l.length ∧ T rx[t] = l.length - 1 - r
                    · obtain ⟨e1, e2, e3⟩ := hgood
                      have e4 := hGD e1 e2 (by rw [hIu, e3]; simp)
                      have h1 := hF.found (unhide HW) (unhide HR) hf (unhide HIf) e1 e2 (by rw [← e4]; exact hmem)
                      rw [← e4, unhide HXE] at h1
                      exact ⟨_, _, _, h1, fun e => by omega⟩
                    · have h1 := hF.add (unhide HW) (unhide HR) hf (unhide HIf) hun hIu huQ hmem (fun e1 e2 e3 => hgood ⟨e1, e2, e3⟩)
                      rw [unhide HXE] at h1
                      refine ⟨_, _, _, h1, unhide HSK fun e1 e2 => ?_⟩
                      cases e3 : (inn G f G.length rx[t] && T rx[t] == l.length - 1 - r)
                      · rfl
                      · simp only [Bool.and_eq_true, beq_iff_eq] at e3
                        exact absurd ⟨e1, e2, e3.2⟩ hgood
                  have HCm8 := hide (hCm.add rx[t] x huQ)
                  have HCW8 : Hid (CycW w w8 (.slice (some ⟨bd, offd, none⟩) R.length cap) G (w.heap.size + 1) wo.heap.size w6.heap.size (Q ++ [rx[t]]).length (fun z => if z = (rx[t] : Int) then some (x : Int) else g z)) := by
                    show CycW _ _ _ _ _ _ _ _ _
                    rw [List.length_append, List.length_singleton]; exact hCW8
                  have hlq : (Q ++ [rx[t]]).length - h = Q.length - h + 1 := by rw [List.length_append, List.length_singleton]; omega
                  have HT8 : Hid (Tail w8 w6.heap.size b8 off8 ((Q ++ [rx[t]]).length - h) cp8 ((Q ++ [rx[t]]).drop h)) := by
                    show Tail _ _ _ _ _ _ _
                    rw [hlq, List.drop_append_of_le_length (by omega)]; exact hT8
                  have HLQ := hide hlq
                  have HXE8 : Hid ((Q ++ [rx[t]]).getD h 0 = x) := by
                    show _ = _
                    rw [getD_append (by omega)]; exact unhide HXE
                  clear hTl hF hCm hCW hA1 hA2 HSK hGD hmem hT7 hT7' hT8 hCW7 hCW8 hI7 hg7 hg8 hg8' hlq hIu huQ huG
                  generalize (g (rx[t] : Int)).getD 0 = gv at *
                  generalize hue : rx[t] = u at *
                  unfold nv at t0 hrun8
                  go_wp2_with (at_builtin; go_must (refine wpList_append_eq rfl (.tmp 94) (.tmp 96) 26 rfl _ _ _ rfl rfl hrun8 ?_))
                  clear hrun8 hrun7
                  go_wp2
                  go_roundw
                  case rel =>
                    obtain ⟨dp', r', k', hF', hA'⟩ := unhide HNX
                    exact ⟨t + 1, Q ++ [u], dp', _, r', k', b8, off8, cp8, _, by omega, by go_num, by rw [unhide HLQ], unhide HT8, hF', unhide HCm8, unhide HCW8, HXE8, hA1', hA'⟩
                  case measure => simp [intOf]; omega
                · have hIu : inn G f G.length rx[t] = false := by rw [unhide HIG _ huf]; simpa using huG
                  rw [decide_eq_false huG] at hl2
                  have HN := hide (unhide HSK (fun e1 e2 => by rw [hIu]; rfl))
                  have HT1 := hide hTl
                  have HF1 := hide hF
                  have HCm1 := hide hCm
                  have HCW1 := hide hCW
                  clear hTl hF hCm hCW hA1 hA2 HSK hGD hmem huQ huG hIu
                  generalize (g (rx[t] : Int)).getD 0 = gv at *
                  generalize rx[t] = u at *
                  unfold nv at t0
                  go_wp2
                  go_roundw
                  case rel => exact ⟨t + 1, Q, dp, C, r, k, b, off, cp, g, by omega, by go_num, rfl, unhide HT1, unhide HF1, unhide HCm1, unhide HCW1, HXE, hA1', HN⟩
                  case measure => simp [intOf]; omega
          · have htn' : t = rx.length := by omega
            subst htn'
            have hhk2 : h < k := hF.below (unhide HW) (unhide HR) hf (by
                rw [unhide HXE, unhide HRW]
                intro hm
                obtain ⟨i, hi, e⟩ := List.getElem_of_mem hm
                exact unhide hA1 i hi hi e) (fun e1 e2 u hu => by
                rw [unhide HXE, unhide HRW] at hu
                obtain ⟨i, hi, rfl⟩ := List.getElem_of_mem hu
                exact unhide hA2 e1 e2 i hi hi)
            have hle := hTl.le
            obtain ⟨cp2, rfl⟩ : ∃ cp2, cp = cp2 + 2 := ⟨cp - 2, by omega⟩
            obtain ⟨ln, hln⟩ : ∃ ln, Q.length - h = ln + 2 := ⟨Q.length - h - 2, by omega⟩
            have hT2 : Tail wr w6.heap.size b (off + 1) (ln + 1) (cp2 + 1) (Q.drop (h + 1)) := by
              rw [hln, List.drop_eq_getElem_cons (by omega : h < Q.length)] at hTl
              exact hTl.rest
            have HP : Hid (CycP R f (inn G f G.length) l w (.slice (some ⟨bd, offd, none⟩) R.length cap) G (w.heap.size + 1) wo.heap.size w6.heap.size (.slice (some ⟨b, off + 1, none⟩) (ln + 1) (cp2 + 1)) wr (R.length - (h + 1))) :=
              ⟨Q, dp, C, h + 1, r, k, b, off + 1, cp2 + 1, g, by omega, by rw [show Q.length - (h + 1) = ln + 1 by omega], by rw [show Q.length - (h + 1) = ln + 1 by omega]; exact hT2, hF.next hhk2, hCm, hCW⟩
            have hlast : R.length - (h + 1) + h < R.length := by omega
            rw [hln]
            clear hT2 hTl hF hCm hCW hA1 hA2 HXE hln
            go_wp2
            go_roundw
            case rel => exact ⟨_, unhide HP⟩
            case measure =>
              have h1 := (eps_of ⟨_, unhide HP⟩).2 _ (unhide HP)
              have h2 := unhide HM
              refine Nat.lt_of_le_of_lt h1 ?_
              omega

theorem zzCycle_any (vd vg : Value) (R : List (List Nat)) (f : Nat) (G : List Int) (T : Nat → Nat) (l : List Nat) (w : World) (hl : R.length ≤ 1048576) (hT : ∀ r ∈ R, r.length ≤ 1048576) (hR : ∀ r ∈ R, ∀ x ∈ r, x < R.length) (hf : f < R.length) (hG : G.length ≤ 1048576) (hGw : ∀ x ∈ G, (Lit.int .i64 x).wf = true)
    (h : IsRowsN (· < w.heap.size) w vd R) (h2 : IsInts (· < w.heap.size) w vg G) (hw : WantOk R f (inn G f G.length) T l) :
    Calls Try.prog 22 #[vd, .int .i64 (f : Int), vg] w (Cycled w (l ++ [f])) := by
  have CT := hide (cycle_any vd vg R f G T l w hl hT hR hf hG hGw h h2 hw)
  obtain ⟨ao, cap, rfl, -, -⟩ := h
  obtain ⟨ao2, cap2, rfl, -, -⟩ := h2
  clear hT hR hGw hw
  go_enter Try.func22, Try.ntmps22
  go_wp2_with fail
  refine (unhide CT).mono ?_
  rintro e w1 ⟨v, rfl, hv, hb⟩
  have HV := hide hv
  clear hv CT
  go_wp2
  go_ret
  exact ⟨_, rfl, unhide HV, hb⟩
end Go.Proofs.Qxb6603026a
