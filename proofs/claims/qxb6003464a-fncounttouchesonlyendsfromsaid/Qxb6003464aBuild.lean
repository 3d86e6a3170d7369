/-
  zzB2Build (26): the chunks, as they lie in memory.
-/
import Derived.Test.Qxb6003464aChunk
import Derived.Deep.RegionWith
namespace Go.Proofs.Qxb6003464a
open Go.RowKit

theorem info28 : (Try.prog.info? 28).map (fun i => (i.zero, i.size, i.bytes)) = some (some (.agg #[.slice none 0 0, .int .i64 0, .int .i8 0, .bool false]), 4, 40) := by kernel_rfl

/-- Chunk i of the list in block Cb. -/
structure ChunkAt (w : World) (Cb i I L : Nat) (E D : Int) (S : Bool) : Prop where
  c0 : w.cell? ⟨Cb, i * 4, none⟩ = some (.slice (some ⟨I, 0, none⟩) L L)
  c1 : w.cell? ⟨Cb, i * 4 + 1, none⟩ = some (.int .i64 E)
  c2 : w.cell? ⟨Cb, i * 4 + 2, none⟩ = some (.int .i8 D)
  c3 : w.cell? ⟨Cb, i * 4 + 3, none⟩ = some (.bool S)

theorem ChunkAt.keep {w w' : World} {Cb i I L : Nat} {E D : Int} {S : Bool} (h : ChunkAt w Cb i I L E D S) (hb : w'.heap[Cb]? = w.heap[Cb]?) : ChunkAt w' Cb i I L E D S :=
  ⟨(World.cell?_of_block (a := ⟨Cb, _, none⟩) hb).trans h.c0, (World.cell?_of_block (a := ⟨Cb, _, none⟩) hb).trans h.c1, (World.cell?_of_block (a := ⟨Cb, _, none⟩) hb).trans h.c2, (World.cell?_of_block (a := ⟨Cb, _, none⟩) hb).trans h.c3⟩

/-- The gaps of a chunk's items, in block I. -/
def GapsAt (w : World) (I L : Nat) (G : Nat → Int) : Prop := ∀ j, j < L → w.cell? ⟨I, j * 8 + 7, none⟩ = some (.int .i8 (G j))

theorem GapsAt.keep {w w' : World} {I L : Nat} {G : Nat → Int} (h : GapsAt w I L G) (hb : w'.heap[I]? = w.heap[I]?) : GapsAt w' I L G :=
  fun j hj => (World.cell?_of_block (a := ⟨I, _, none⟩) hb).trans (h j hj)

/-- k of n chunks are built, in block w.heap.size. -/
structure Built (w wr : World) (n : Nat) (L : Nat → Nat) (G : Nat → Nat → Int) (E D : Nat → Int) (S : Nat → Bool) (k : Nat) : Prop where
  own : ∃ xs, wr.ownsRow w.heap.size 28 4 (.slice (some ⟨w.heap.size, 0, none⟩) n n) n xs
  each : ∀ i, i < k → ∃ I, w.heap.size < I ∧ I < wr.heap.size ∧ ChunkAt wr w.heap.size i I (L i) (E i) (D i) (S i) ∧ GapsAt wr I (L i) (G i)
  bel : Below w.heap.size w wr

section
variable {w wr w1 : World} {n : Nat} {L : Nat → Nat} {G : Nat → Nat → Int} {E D : Nat → Int} {S : Nat → Bool} {k : Nat}

theorem Built.lt (h : Built w wr n L G E D S k) : w.heap.size < wr.heap.size := by
  obtain ⟨xs, ho⟩ := h.own
  exact (ho.lt _ rfl).2
theorem Built.frz (h : Built w wr n L G E D S k) (o : Nat) : wr.frozen? ⟨w.heap.size, o, none⟩ = false := by
  obtain ⟨xs, ho⟩ := h.own
  exact ho.frozenAt o
theorem Built.cell (h : Built w wr n L G E D S k) (o : Nat) (ho : o < n * 4) : ∃ v, wr.cell? ⟨w.heap.size, o, none⟩ = some v := by
  obtain ⟨xs, hx⟩ := h.own
  have := hx.1
  rw [hx.cellAt _ ho]
  exact ⟨_, List.getElem?_eq_getElem (by omega)⟩

theorem own_below {base B : Nat} {e : TypeId} {size m cap g : Nat} {xs : List Value} (h : wr.ownsRow base e size (.slice (some ⟨g, 0, none⟩) m cap) m xs) (hb : Below B wr w1) (hg : g < B) : w1.ownsRow base e size (.slice (some ⟨g, 0, none⟩) m cap) m xs := by
  refine ⟨h.1, ?_⟩
  rcases h.2 with hn | ⟨g', cap', cur, hv, hb', hgg, rest⟩
  · exact .inl hn
  · refine .inr ⟨g', cap', cur, hv, hb', ?_, rest⟩
    simp at hv
    obtain ⟨rfl, _⟩ := hv
    rw [hb.block _ hg]; exact hgg

/-- The four stores of one chunk. -/
def put4 (w : World) (Cb k I L : Nat) (E D : Int) (S : Bool) : World :=
  (((w.setCell ⟨Cb, k * 4, none⟩ (.slice (some ⟨I, 0, none⟩) L L)).setCell ⟨Cb, k * 4 + 1, none⟩ (.int .i64 E)).setCell ⟨Cb, k * 4 + 2, none⟩ (.int .i8 D)).setCell ⟨Cb, k * 4 + 3, none⟩ (.bool S)

theorem cell_set_same {w : World} {Cb o : Nat} {v : Value} (u : Value) (h : w.cell? ⟨Cb, o, none⟩ = some v) : (w.setCell ⟨Cb, o, none⟩ u).cell? ⟨Cb, o, none⟩ = some u := World.cell?_setCell_same _ _ _ h
theorem cell_set_off {w : World} {Cb o o' : Nat} (u : Value) (h : o' ≠ o) : (w.setCell ⟨Cb, o, none⟩ u).cell? ⟨Cb, o', none⟩ = w.cell? ⟨Cb, o', none⟩ :=
  World.cell?_setCell_other _ _ _ _ (fun e => h (congrArg Addr.off e).symm)

theorem Built.next (h : Built w wr n L G E D S k) (hk : k < n) (hb : Below wr.heap.size wr w1) {I : Nat} (hI1 : wr.heap.size ≤ I) (hI2 : I < w1.heap.size) (hG : GapsAt w1 I (L k) (G k)) :
    Built w (put4 w1 w.heap.size k I (L k) (E k) (D k) (S k)) n L G E D S (k + 1) := by
  have hlt := h.lt
  obtain ⟨xs, ho⟩ := h.own
  have ho1 := own_below ho hb hlt
  have hset : ∀ b, b ≠ w.heap.size → (put4 w1 w.heap.size k I (L k) (E k) (D k) (S k)).heap[b]? = w1.heap[b]? := fun b hne => by
    unfold put4
    rw [Below.heap_setCell _ _ _ _ hne, Below.heap_setCell _ _ _ _ hne, Below.heap_setCell _ _ _ _ hne, Below.heap_setCell _ _ _ _ hne]
  have hss : (put4 w1 w.heap.size k I (L k) (E k) (D k) (S k)).heap.size = w1.heap.size := by simp only [put4, size_set]
  have hex : ∀ o, o < n * 4 → ∃ v, w1.cell? ⟨w.heap.size, o, none⟩ = some v := fun o ho' => by
    have := ho1.1
    rw [ho1.cellAt _ ho']
    exact ⟨_, List.getElem?_eq_getElem (by omega)⟩
  refine ⟨⟨_, ((((ho1.stored _ _).1.stored _ _).1.stored _ _).1.stored _ _).1⟩, fun i hi => ?_, ?_⟩
  · by_cases e : i = k
    · subst e
      refine ⟨I, by omega, by rw [hss]; exact hI2, ?_, hG.keep (hset I (by omega))⟩
      obtain ⟨v0, e0⟩ := hex (i * 4) (by omega)
      obtain ⟨v1, e1⟩ := hex (i * 4 + 1) (by omega)
      obtain ⟨v2, e2⟩ := hex (i * 4 + 2) (by omega)
      obtain ⟨v3, e3⟩ := hex (i * 4 + 3) (by omega)
      unfold put4
      constructor
      · rw [cell_set_off _ (by omega), cell_set_off _ (by omega), cell_set_off _ (by omega), cell_set_same _ e0]
      · rw [cell_set_off _ (by omega), cell_set_off _ (by omega), cell_set_same (v := v1)]
        rw [cell_set_off _ (by omega)]; exact e1
      · rw [cell_set_off _ (by omega), cell_set_same (v := v2)]
        rw [cell_set_off _ (by omega), cell_set_off _ (by omega)]; exact e2
      · rw [cell_set_same (v := v3)]
        rw [cell_set_off _ (by omega), cell_set_off _ (by omega), cell_set_off _ (by omega)]; exact e3
    · obtain ⟨J, h1, h2, h3, h4⟩ := h.each i (by omega)
      have hsz := hb.size
      refine ⟨J, h1, by rw [hss]; omega, ?_, (h4.keep (hb.block J h2)).keep (hset J (by omega))⟩
      have h5 := h3.keep (hb.block _ hlt)
      unfold put4
      constructor
      · rw [cell_set_off _ (by omega), cell_set_off _ (by omega), cell_set_off _ (by omega), cell_set_off _ (by omega)]; exact h5.c0
      · rw [cell_set_off _ (by omega), cell_set_off _ (by omega), cell_set_off _ (by omega), cell_set_off _ (by omega)]; exact h5.c1
      · rw [cell_set_off _ (by omega), cell_set_off _ (by omega), cell_set_off _ (by omega), cell_set_off _ (by omega)]; exact h5.c2
      · rw [cell_set_off _ (by omega), cell_set_off _ (by omega), cell_set_off _ (by omega), cell_set_off _ (by omega)]; exact h5.c3
  · exact ((((h.bel.trans (hb.mono (by omega))).setCell (Nat.le_refl _) _).setCell (Nat.le_refl _) _).setCell (Nat.le_refl _) _).setCell (Nat.le_refl _) _
end

set_option maxHeartbeats 2000000 in
theorem build_any (a0 a1 a2 a3 : Option Addr) (n c0 n1 c1 n2 c2 n3 c3 : Nat) (L : Nat → Nat) (G : Nat → Nat → Int) (f1 f2 : Nat → Int) (f3 : Nat → Bool) (w : World)
    (hn : n ≤ 1048576) (hn1 : n1 ≤ 1048576) (hn2 : n2 ≤ 1048576) (hn3 : n3 ≤ 1048576) (hL : ∀ r, r < n → L r ≤ 1048576) (h0 : RowsOn (· < w.heap.size) w a0 n L G)
    (h1 : SeqOn (· < w.heap.size) w a1 n1 (fun j => .int .i64 (f1 j))) (h2 : SeqOn (· < w.heap.size) w a2 n2 (fun j => .int .i8 (f2 j))) (h3 : SeqOn (· < w.heap.size) w a3 n3 (fun j => .bool (f3 j))) :
    Calls Try.prog 26 #[.slice a0 n c0, .slice a1 n1 c1, .slice a2 n2 c2, .slice a3 n3 c3] w fun e w' => e = .returned (.slice (some ⟨w.heap.size, 0, none⟩) n n) ∧ Built w w' n L G (pick n1 f1) (pick n2 f2) (pickB n3 f3) n := by
  obtain ⟨i0, hi, hz0, hz1, hz2⟩ := info_parts info28
  obtain ⟨A, C, hR, hRr⟩ := h0
  have HL := hide hL
  clear hL
  go_enter Try.func26, Try.ntmps26
  go_wp2_with (at_make; go_must (refine wpList_make_full _ rfl _ _ 46 rfl w.heap.size 28 i0 _ 4 Try.underlying46 hi hz0 hz1 .i64 .i64 (n : Int) (n : Int) n rfl rfl rfl rfl (by rw [hz2]; omega) (by unfold maxLen; omega) (Nat.le_refl _) ?_))
  intro w1 hown hg
  have hB : Built w w1 n L G (pick n1 f1) (pick n2 f2) (pickB n3 f3) 0 := ⟨⟨_, hown⟩, fun i hi => by omega, (Below.refl _ _).grown hg (Nat.le_refl _) (fun k h => by cases h)⟩
  clear hown hg hz0 hz1 hz2 hi
  go_wp2
  go_loopw [10] (fun i wr => ∃ k : Nat, k ≤ n ∧ i = .int .i64 k ∧ Built w wr n L G (pick n1 f1) (pick n2 f2) (pickB n3 f3) k) (fun i _ => n - (intOf i).toNat)
  case atStart => exact ⟨0, Nat.zero_le _, rfl, hB⟩
  case round =>
    clear hB
    obtain ⟨k, hk, rfl, hB⟩ := hrel
    by_cases hlt : k < n
    · obtain ⟨b, off, ha, hbl, hc⟩ := hR (by omega)
      subst ha
      have hc1 : wr.cell? ⟨b, off + k, none⟩ = some (.slice (A k) (L k) (C k)) := (hB.bel.cell (p := ⟨b, off + k, none⟩) hbl).trans (hc k hlt)
      have hLk := unhide HL k hlt
      obtain ⟨_, hs1⟩ := hRr k hlt
      have hs2 : SeqOn (· < wr.drew.heap.size) wr.drew (A k) (L k) (fun i => .int .i8 (G k i)) := ((hs1.below hB.bel (fun b hb => hb)).mono (fun b hb => Nat.lt_of_lt_of_le hb hB.bel.size)).keep (fun _ _ => rfl)
      have e32 := endAt_any a1 n1 c1 k f1 wr.drew _ hn1 (by omega) ((h1.below hB.bel (fun b hb => hb)).keep (fun _ _ => rfl))
      have e38 := oldAt_any a2 n2 c2 k f2 wr.drew _ hn2 (by omega) ((h2.below hB.bel (fun b hb => hb)).keep (fun _ _ => rfl))
      have e39 := markAt_any a3 n3 c3 k f3 wr.drew _ hn3 (by omega) ((h3.below hB.bel (fun b hb => hb)).keep (fun _ _ => rfl))
      have e13 := fun en wd sh => newChunk_any (A k) (L k) (C k) (G k) en wd sh wr.drew hLk hs2
      have E32 := hide e32
      have E38 := hide e38
      have E39 := hide e39
      have E13 := hide e13
      clear e32 e38 e39 e13 hs2 hs1 hc
      have i0 : (k : Int) < (n : Int) := by omega
      go_wp2
      have cellsIn : ∀ (w' : World), Below wr.heap.size wr.drew w' → (∃ v, w'.cell? ⟨w.heap.size, k * 4, none⟩ = some v) ∧ (∃ v, w'.cell? ⟨w.heap.size, k * 4 + 1, none⟩ = some v) ∧ (∃ v, w'.cell? ⟨w.heap.size, k * 4 + 2, none⟩ = some v) ∧ (∃ v, w'.cell? ⟨w.heap.size, k * 4 + 3, none⟩ = some v) ∧ (∀ o, w'.frozen? ⟨w.heap.size, o, none⟩ = false) := by
        intro w' hb
        have hl := hB.lt
        have hcc : ∀ o, o < n * 4 → ∃ v, w'.cell? ⟨w.heap.size, o, none⟩ = some v := fun o ho => by
          obtain ⟨v, hv⟩ := hB.cell o ho
          exact ⟨v, (hb.cell (p := ⟨w.heap.size, o, none⟩) hl).trans hv⟩
        exact ⟨hcc _ (by omega), hcc _ (by omega), hcc _ (by omega), hcc _ (by omega), fun o => (hb.frozen (p := ⟨w.heap.size, o, none⟩) hl).trans (hB.frz o)⟩
      have CI := hide cellsIn
      clear cellsIn
      go_region_with (first | (go_at_call 32; refine (unhide E32).mono ?_; rintro e w' ⟨rfl, rfl⟩) | (go_at_call 38; refine (unhide E38).mono ?_; rintro e w' ⟨rfl, rfl⟩) | (go_at_call 39; refine (unhide E39).mono ?_; rintro e w' ⟨rfl, rfl⟩) | (go_at_call 13; refine (unhide E13 _ _ _).mono ?_; rintro e w' ⟨rfl, hbw, hlw, hGw⟩; obtain ⟨⟨x0, y0⟩, ⟨x1, y1⟩, ⟨x2, y2⟩, ⟨x3, y3⟩, yf⟩ := unhide CI w' hbw))
      all_goals
        have hbw' : Below wr.heap.size wr w' := ⟨hbw.os, hbw.tape, hbw.output, hbw.size, hbw.block⟩
        have hN := hB.next hlt hbw' (I := wr.heap.size + 1) (by omega) hlw hGw
        clear hbw hbw' hGw hB CI y0 y1 y2 y3 yf
        go_wp2
        go_roundw
        case rel => exact ⟨k + 1, by omega, by go_num, hN⟩
        case measure => simp [intOf]; omega
    · have hkn : k = n := by omega
      subst hkn
      go_wp2
      go_ret
      exact ⟨rfl, hB⟩
end Go.Proofs.Qxb6003464a
