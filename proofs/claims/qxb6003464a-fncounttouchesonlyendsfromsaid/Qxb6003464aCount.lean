/-
  (*list).count (43), (*list).start (45), ZZListCount (27), ZZNewList (25), ZZListChunk (37), ZZChunkEnd (17), zzB2Ends (30).
-/
import Derived.Test.Qxb6003464aBuild
namespace Go.Proofs.Qxb6003464a
open Go.RowKit

/-- The list in block Lb: its n chunks lie in block Cb. -/
structure ListAt (w : World) (Lb Cb n : Nat) (I L : Nat → Nat) (E D : Nat → Int) (S : Nat → Bool) : Prop where
  hd : w.cell? ⟨Lb, 0, none⟩ = some (.slice (some ⟨Cb, 0, none⟩) n n)
  ne : Lb ≠ Cb
  ch : ∀ i, i < n → ChunkAt w Cb i (I i) (L i) (E i) (D i) (S i)
  fr : ∀ o, w.frozen? ⟨Cb, o, none⟩ = false
  lt : Lb < w.heap.size ∧ Cb < w.heap.size

theorem ListAt.keep {w w' : World} {Lb Cb n : Nat} {I L : Nat → Nat} {E D : Nat → Int} {S : Nat → Bool} (h : ListAt w Lb Cb n I L E D S) (hb : Below w.heap.size w w') : ListAt w' Lb Cb n I L E D S :=
  ⟨(hb.cell (p := ⟨Lb, 0, none⟩) h.lt.1).trans h.hd, h.ne, fun i hi => (h.ch i hi).keep (hb.block _ h.lt.2), fun o => (hb.frozen (p := ⟨Cb, o, none⟩) h.lt.2).trans (h.fr o), Nat.lt_of_lt_of_le h.lt.1 hb.size, Nat.lt_of_lt_of_le h.lt.2 hb.size⟩

/-- One end is written. -/
def upd (E : Nat → Int) (k : Nat) (x : Int) : Nat → Int := fun i => if i = k then x else E i

theorem ListAt.put {w : World} {Lb Cb n : Nat} {I L : Nat → Nat} {E D : Nat → Int} {S : Nat → Bool} (h : ListAt w Lb Cb n I L E D S) (k : Nat) (hk : k < n) (x : Int) : ListAt (w.setCell ⟨Cb, k * 4 + 1, none⟩ (.int .i64 x)) Lb Cb n I L (upd E k x) D S := by
  refine ⟨?_, h.ne, fun i hi => ?_, fun o => ?_, ?_⟩
  · rw [cell_set _ _ _ h.ne]; exact h.hd
  · have hc := h.ch i hi
    constructor
    · rw [cell_set_off _ (by omega)]; exact hc.c0
    · by_cases e : i = k
      · subst e
        rw [cell_set_same _ hc.c1]; simp [upd]
      · rw [cell_set_off _ (by omega)]; simp only [upd, if_neg e]; exact hc.c1
    · rw [cell_set_off _ (by omega)]; exact hc.c2
    · rw [cell_set_off _ (by omega)]; exact hc.c3
  · rw [World.frozen?_setCell]; exact h.fr o
  · rw [size_set]; exact h.lt

/-! ### what count computes, with no Go in sight -/
/-- The index of chunk c's first allocation, as the ends tell it. -/
def startOf (E : Nat → Int) (c : Nat) : Int := if c = 0 then 0 else E (c - 1)
/-- The running sum, k chunks behind chunk c. -/
def acc (L : Nat → Nat) (x : Int) (c : Nat) : Nat → Int
  | 0 => x
  | k + 1 => wrap64 (acc L x c k + L (c + k))
/-- The ends behind k rounds of count(c). -/
def cntTo (L : Nat → Nat) (E : Nat → Int) (c k : Nat) : Nat → Int := fun i => if c ≤ i ∧ i < c + k then acc L (startOf E c) c (i - c + 1) else E i

theorem cntTo_zero (L : Nat → Nat) (E : Nat → Int) (c : Nat) : cntTo L E c 0 = E := by
  funext i
  simp only [cntTo]
  rw [if_neg (by omega)]
theorem cntTo_succ (L : Nat → Nat) (E : Nat → Int) (c k : Nat) : upd (cntTo L E c k) (c + k) (acc L (startOf E c) c (k + 1)) = cntTo L E c (k + 1) := by
  funext i
  simp only [upd, cntTo]
  by_cases e : i = c + k
  · subst e
    rw [if_pos rfl, if_pos (by omega), show c + k - c + 1 = k + 1 by omega]
  · rw [if_neg e]
    by_cases h : c ≤ i ∧ i < c + k
    · rw [if_pos h, if_pos (by omega)]
    · rw [if_neg h, if_neg (by omega)]

/-- TWICE IS ONCE. -/
theorem cnt_twice (L : Nat → Nat) (E : Nat → Int) (c k : Nat) : cntTo L (cntTo L E c k) c k = cntTo L E c k := by
  have hs : startOf (cntTo L E c k) c = startOf E c := by
    unfold startOf
    by_cases h : c = 0
    · simp [h]
    · rw [if_neg h, if_neg h]
      simp only [cntTo]
      rw [if_neg (by omega)]
  funext i
  show (if c ≤ i ∧ i < c + k then acc L (startOf (cntTo L E c k) c) c (i - c + 1) else cntTo L E c k i) = cntTo L E c k i
  rw [hs]
  by_cases h : c ≤ i ∧ i < c + k
  · rw [if_pos h]; simp only [cntTo]; rw [if_pos h]
  · rw [if_neg h]

theorem acc_shift (L : Nat → Nat) (x : Int) (c k : Nat) : acc L (acc L x 0 c) c k = acc L x 0 (c + k) := by
  induction k with
  | zero => rfl
  | succ k ih =>
    show wrap64 (acc L (acc L x 0 c) c k + L (c + k)) = wrap64 (acc L x 0 (c + k) + L (0 + (c + k)))
    rw [ih, Nat.zero_add]

/-- THE REPAIR: where the ends before c are right, counting from c makes all of them right. -/
theorem cnt_repair (L : Nat → Nat) (E0 E1 : Nat → Int) (c n : Nat) (hc : c ≤ n) (h : ∀ i, i < c → E1 i = cntTo L E0 0 n i) : ∀ i, i < n → cntTo L E1 c (n - c) i = cntTo L E0 0 n i := by
  intro i hi
  have e0 : ∀ i, i < n → cntTo L E0 0 n i = acc L 0 0 (i + 1) := fun i hi => by
    simp only [cntTo]
    rw [if_pos (by omega)]
    simp [startOf]
  by_cases hic : i < c
  · simp only [cntTo]
    rw [if_neg (by omega), h i hic]
    rfl
  · have hst : startOf E1 c = acc L 0 0 c := by
      unfold startOf
      by_cases hz : c = 0
      · subst hz; rfl
      · rw [if_neg hz, h _ (by omega), e0 _ (by omega), show c - 1 + 1 = c by omega]
    rw [e0 i hi]
    simp only [cntTo]
    rw [if_pos (by omega), hst, acc_shift, show c + (i - c + 1) = i + 1 by omega]

/-! ### the walks -/
theorem start_any {w : World} {Lb Cb n : Nat} {I L : Nat → Nat} {E D : Nat → Int} {S : Nat → Bool} (h : ListAt w Lb Cb n I L E D S) (c : Nat) (hc : c ≤ n) (hn : n ≤ 1048576) :
    Calls Try.prog 45 #[.pointer (some ⟨Lb, 0, none⟩), .int .i64 c] w fun e w' => e = .returned (.int .i64 (startOf E c)) ∧ w' = w := by
  by_cases h0 : c = 0
  · subst h0
    go_enter Try.func45, Try.ntmps45
    go_wp2
    go_ret
    exact ⟨rfl, rfl⟩
  · have hd := h.hd
    have hc1 := (h.ch (c - 1) (by omega)).c1
    have e : Hid (startOf E c = E (c - 1)) := if_neg h0
    clear h
    obtain ⟨d, rfl⟩ : ∃ d, c = d + 1 := ⟨c - 1, by omega⟩
    simp only [Nat.add_sub_cancel] at hc1 e
    have ht : ((d : Int) + 1 == 0) = false := by simp; omega
    go_enter Try.func45, Try.ntmps45
    go_wp2
    go_ret
    rw [unhide e]
    exact ⟨rfl, rfl⟩

/-- How count ends: only the ends in block Cb have turned. -/
def Counted (w : World) (Lb Cb n : Nat) (I L : Nat → Nat) (E D : Nat → Int) (S : Nat → Bool) (e : Ending) (w' : World) : Prop :=
  e = .returned (.tuple #[]) ∧ ListAt w' Lb Cb n I L E D S ∧ w.grownBy w' (some Cb)

theorem grown_set {w w' : World} {g o : Nat} (h : w.grownBy w' (some g)) (u : Value) : w.grownBy (w'.setCell ⟨g, o, none⟩ u) (some g) :=
  ⟨h.os, h.tape, h.output, by rw [size_set]; exact h.size, fun k hk hne => by rw [Below.heap_setCell _ _ _ _ (fun e => hne (by rw [e]))]; exact h.block k hk hne⟩

set_option maxHeartbeats 1000000 in
theorem count_any {w : World} {Lb Cb n : Nat} {I L : Nat → Nat} {E D : Nat → Int} {S : Nat → Bool} (h : ListAt w Lb Cb n I L E D S) (c : Nat) (hc : c ≤ n) (hn : n ≤ 1048576) (hL : ∀ i, i < n → L i ≤ 1048576) :
    Calls Try.prog 43 #[.pointer (some ⟨Lb, 0, none⟩), .int .i64 c] w (Counted w Lb Cb n I L (cntTo L E c (n - c)) D S) := by
  have HL := hide hL
  clear hL
  go_enter Try.func43, Try.ntmps43
  go_wp2_with fail
  refine (start_any h c hc hn).mono ?_
  rintro e w ⟨rfl, rfl⟩
  go_wp2
  go_loopw [1, 4] (fun i x wr => ∃ k : Nat, c + k ≤ n ∧ i = .int .i64 ((c + k : Nat) : Int) ∧ x = .int .i64 (acc L (startOf E c) c k) ∧ ListAt wr Lb Cb n I L (cntTo L E c k) D S ∧ w.grownBy wr (some Cb)) (fun i _ _ => n - (intOf i).toNat)
  case atStart => exact ⟨0, by omega, rfl, rfl, by rw [cntTo_zero]; exact h, ⟨rfl, rfl, rfl, Nat.le_refl _, fun _ _ _ => rfl⟩⟩
  case round =>
    clear h
    obtain ⟨k, hk, rfl, rfl, h, hg⟩ := hrel
    have hd := h.hd
    by_cases hlt : c + k < n
    · have hch := h.ch (c + k) hlt
      have hc0 := hch.c0
      have hc1 := hch.c1
      have hf := h.fr ((c + k) * 4 + 1)
      have hLk := unhide HL (c + k) hlt
      have hN := h.put (c + k) hlt (acc L (startOf E c) c (k + 1))
      rw [cntTo_succ] at hN
      have hG := grown_set hg (o := (c + k) * 4 + 1) (.int .i64 (acc L (startOf E c) c (k + 1)))
      have hxy : acc L (startOf E c) c (k + 1) = wrap64 (acc L (startOf E c) c k + (L (c + k) : Int)) := rfl
      rw [hxy] at hN hG
      have HX := hide hxy
      have H1 := hide hN
      have H2 := hide hG
      clear hch h hN hG hg hxy
      generalize acc L (startOf E c) c k = x at *
      generalize cntTo L E c k (c + k) = z at *
      go_wp2
      go_roundw
      case rel => exact ⟨k + 1, by omega, by go_num, by rw [unhide HX], H1, H2⟩
      case measure => simp [intOf]; omega
    · have hk' : k = n - c := by omega
      subst hk'
      go_wp2
      go_end0
      exact ⟨rfl, h, hg⟩

theorem listCount_any {w : World} {Lb Cb n : Nat} {I L : Nat → Nat} {E D : Nat → Int} {S : Nat → Bool} (h : ListAt w Lb Cb n I L E D S) (c : Nat) (hc : c ≤ n) (hn : n ≤ 1048576) (hL : ∀ i, i < n → L i ≤ 1048576) :
    Calls Try.prog 27 #[.pointer (some ⟨Lb, 0, none⟩), .int .i64 c] w (Counted w Lb Cb n I L (cntTo L E c (n - c)) D S) := by
  go_enter Try.func27, Try.ntmps27
  go_wp2_with fail
  refine (count_any h c hc hn hL).mono ?_
  rintro e w' ⟨rfl, h1, h2⟩
  go_wp2
  go_end0
  exact ⟨rfl, h1, h2⟩

theorem newList_any (g n : Nat) (w : World) :
    Calls Try.prog 25 #[.slice (some ⟨g, 0, none⟩) n n, .int .i64 64] w fun e w' => e = .returned (.pointer (some ⟨w.heap.size, 0, none⟩)) ∧ w' = w.alloc (.cells #[.slice (some ⟨g, 0, none⟩) n n, .int .i64 64] 71) := by
  go_enter Try.func25, Try.ntmps25
  go_wp2
  go_ret
  exact ⟨rfl, rfl⟩

theorem listChunk_any {w : World} {Lb Cb n : Nat} {I L : Nat → Nat} {E D : Nat → Int} {S : Nat → Bool} (h : ListAt w Lb Cb n I L E D S) (i : Nat) (hi : i < n) :
    Calls Try.prog 37 #[.pointer (some ⟨Lb, 0, none⟩), .int .i64 i] w fun e w' => e = .returned (.pointer (some ⟨Cb, i * 4, none⟩)) ∧ w' = w := by
  have hd := h.hd
  clear h
  go_enter Try.func37, Try.ntmps37
  go_wp2
  go_ret
  exact ⟨rfl, rfl⟩

theorem chunkEnd_any {w : World} {Lb Cb n : Nat} {I L : Nat → Nat} {E D : Nat → Int} {S : Nat → Bool} (h : ListAt w Lb Cb n I L E D S) (i : Nat) (hi : i < n) :
    Calls Try.prog 17 #[.pointer (some ⟨Cb, i * 4, none⟩)] w fun e w' => e = .returned (.int .i64 (E i)) ∧ w' = w := by
  have hc1 := (h.ch i hi).c1
  clear h
  go_enter Try.func17, Try.ntmps17
  go_wp2
  go_ret
  exact ⟨rfl, rfl⟩

theorem info3' : (Try.prog.info? 3).map (fun i => (i.zero, i.size, i.bytes)) = some (some (.int .i64 0), 1, 8) := by kernel_rfl

set_option maxHeartbeats 1000000 in
theorem ends_any {w : World} {Lb Cb n : Nat} {I L : Nat → Nat} {E D : Nat → Int} {S : Nat → Bool} (h : ListAt w Lb Cb n I L E D S) (hn : n ≤ 1048576) :
    Calls Try.prog 30 #[.pointer (some ⟨Lb, 0, none⟩), .int .i64 n] w fun e w' => e = .returned (.slice (some ⟨w.heap.size, 0, none⟩) n n) ∧ Below w.heap.size w w' ∧ w.heap.size < w'.heap.size ∧
      ∀ j, j < n → w'.cell? ⟨w.heap.size, j, none⟩ = some (.int .i64 (E j)) := by
  obtain ⟨i0, hi, hz0, hz1, hz2⟩ := info_parts info3'
  go_enter Try.func30, Try.ntmps30
  go_wp2_with (at_make; go_must (refine wpList_make_full _ rfl _ _ 39 rfl w.heap.size 3 i0 (.int .i64 0) 1 Try.underlying39 hi hz0 hz1 .i64 .i64 (n : Int) (n : Int) n rfl rfl rfl rfl (by rw [hz2]; omega) (by unfold maxLen; omega) (Nat.le_refl _) ?_))
  intro w1 hown hg
  have hb1 : Below w.heap.size w w1 := (Below.refl _ _).grown hg (Nat.le_refl _) (fun k h => by cases h)
  have hown1 : w1.ownsRow w.heap.size 3 1 (.slice (some ⟨w.heap.size, 0, none⟩) n n) n (fillTo (fun j => .int .i64 (E j)) (.int .i64 0) n 0) := by
    rw [fillTo_zero]; simpa [Value.cells, toList_madeCells_one] using hown
  clear hown hg
  go_wp2
  go_loopw [6] (fun i wr => ∃ k : Nat, k ≤ n ∧ i = .int .i64 k ∧ wr.ownsRow w.heap.size 3 1 (.slice (some ⟨w.heap.size, 0, none⟩) n n) n (fillTo (fun j => .int .i64 (E j)) (.int .i64 0) n k) ∧ Below w.heap.size w wr) (fun i _ => n - (intOf i).toNat)
  case atStart => exact ⟨0, Nat.zero_le _, rfl, hown1, hb1⟩
  case round =>
    clear hown1 hb1
    obtain ⟨k, hk, rfl, hown, hb⟩ := hrel
    have hsz := (hown.lt w.heap.size rfl).2
    by_cases hlt : k < n
    · have hA := h.keep hb
      have hc2 : wr.cell? ⟨w.heap.size, k, none⟩ = some (.int .i64 0) := by
        rw [hown.cellAt k (by omega), fillTo_any _ _ _ _ _ hlt, if_neg (by omega)]
      have hf2 : wr.frozen? ⟨w.heap.size, k, none⟩ = false := hown.frozenAt k
      have hst1 := (hown.stored k (.int .i64 (E k))).1
      have e : (Value.int .i64 (E k)) = (fun j => Value.int .i64 (E j)) k := rfl
      rw [e, fillTo_set] at hst1
      have H1 := hide hst1
      have H2 := hide (hb.setCell (Nat.le_refl w.heap.size) (p := ⟨w.heap.size, k, none⟩) (.int .i64 (E k)))
      clear hst1 hown hb e
      go_wp2_with fail
      refine (listChunk_any hA k hlt).mono ?_
      rintro e _ ⟨rfl, rfl⟩
      go_wp2_with fail
      refine (chunkEnd_any hA k hlt).mono ?_
      rintro e _ ⟨rfl, rfl⟩
      clear hA
      go_wp2
      go_roundw
      case rel => exact ⟨k + 1, by omega, by go_num, H1, H2⟩
      case measure => simp [intOf]; omega
    · have hkn : k = n := by omega
      subst hkn
      have hfin : ∀ j, j < k → wr.cell? ⟨w.heap.size, j, none⟩ = some (.int .i64 (E j)) := fun j hj => by
        rw [hown.cellAt j (by omega), fillTo_at _ _ _ _ _ hj hj]
      have H1 : Hid _ := hfin
      clear hfin hown
      go_wp2
      go_ret
      exact ⟨rfl, hb, hsz, H1⟩

/-- From what zzB2Build leaves to the list. -/
theorem list_of_built {w wr : World} {n : Nat} {L : Nat → Nat} {G : Nat → Nat → Int} {E D : Nat → Int} {S : Nat → Bool} (h : Built w wr n L G E D S n) :
    ∃ I : Nat → Nat, ListAt (wr.alloc (.cells #[.slice (some ⟨w.heap.size, 0, none⟩) n n, .int .i64 64] 71)) wr.heap.size w.heap.size n I L E D S ∧ ∀ i, i < n → w.heap.size < I i ∧ I i < wr.heap.size ∧ GapsAt (wr.alloc (.cells #[.slice (some ⟨w.heap.size, 0, none⟩) n n, .int .i64 64] 71)) (I i) (L i) (G i) := by
  have hlt := h.lt
  have hI : ∀ i, ∃ I, i < n → w.heap.size < I ∧ I < wr.heap.size ∧ ChunkAt wr w.heap.size i I (L i) (E i) (D i) (S i) ∧ GapsAt wr I (L i) (G i) := fun i => by
    by_cases hi : i < n
    · obtain ⟨I, h1⟩ := h.each i hi
      exact ⟨I, fun _ => h1⟩
    · exact ⟨0, fun h => absurd h hi⟩
  refine ⟨fun i => Classical.choose (hI i), ⟨?_, by omega, fun i hi => ?_, fun o => ?_, ?_⟩, fun i hi => ?_⟩
  · simp
  · exact (Classical.choose_spec (hI i) hi).2.2.1.keep (Below.heap_alloc _ _ _ hlt)
  · rw [World.frozen?_of_block (a := ⟨w.heap.size, o, none⟩) (Below.heap_alloc wr _ _ hlt)]; exact h.frz o
  · rw [World.size_alloc]; omega
  · obtain ⟨h1, h2, _, h4⟩ := Classical.choose_spec (hI i) hi
    exact ⟨h1, h2, h4.keep (Below.heap_alloc _ _ _ h2)⟩

end Go.Proofs.Qxb6003464a
