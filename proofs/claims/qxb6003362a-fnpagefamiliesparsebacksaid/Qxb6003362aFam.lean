/-
  (*Page).family (17), Gauge (12), Counter (13), Bytes (14).
-/
import Derived.Test.Qxb6003362aEsc
namespace Go.Proofs.Qxb6003362a
open Go.RowKit
set_option linter.unusedSimpArgs false

/-- THE PAGE in block P: its bytes A lie in a row of their own above P; below P nothing has turned since w0. -/
structure Pg (w0 W : World) (P : Nat) (v : Value) (A : List UInt8) : Prop where
  blk : ∃ nm : ByteArray, W.heap[P]? = some (.cells #[v, .string nm] 34 (0, 0))
  own : W.ownsRow (P + 1) 5 1 v A.length (A.map bv)
  bel : Below P w0 W

/-- Behind an append, ahead of the store into the page. -/
structure Mid (w0 W : World) (P : Nat) (v v' : Value) (A : List UInt8) : Prop where
  blk : ∃ nm : ByteArray, W.heap[P]? = some (.cells #[v, .string nm] 34 (0, 0))
  own : W.ownsRow (P + 1) 5 1 v' A.length (A.map bv)
  bel : Below P w0 W

section
variable {w0 W W1 : World} {P : Nat} {v v' : Value} {A N : List UInt8}

theorem Pg.cell0 (h : Pg w0 W P v A) : W.cell? ⟨P, 0, none⟩ = some v := by
  obtain ⟨nm, hb⟩ := h.blk
  simp [World.cell?, hb]
theorem Pg.frz0 (h : Pg w0 W P v A) : W.frozen? ⟨P, 0, none⟩ = false := by
  obtain ⟨nm, hb⟩ := h.blk
  simp [World.frozen?, hb]
theorem Pg.cell1 (h : Pg w0 W P v A) : ∃ nm, W.cell? ⟨P, 1, none⟩ = some (.string nm) := by
  obtain ⟨nm, hb⟩ := h.blk
  exact ⟨nm, by simp [World.cell?, hb]⟩
theorem Pg.frz1 (h : Pg w0 W P v A) : W.frozen? ⟨P, 1, none⟩ = false := by
  obtain ⟨nm, hb⟩ := h.blk
  simp [World.frozen?, hb]
theorem Pg.size (h : Pg w0 W P v A) : P + 1 ≤ W.heap.size := by
  obtain ⟨nm, hb⟩ := h.blk
  exact lt_of_block hb
theorem own_shape {base n : Nat} {xs : List Value} (h : W.ownsRow base 5 1 v n xs) : ∃ ao cap, v = .slice ao n cap := by
  rcases h.2 with ⟨rfl, rfl⟩ | ⟨g, cap, cur, rfl, _⟩
  · exact ⟨none, 0, rfl⟩
  · exact ⟨_, cap, rfl⟩
theorem Mid.cell0 (h : Mid w0 W P v v' A) : W.cell? ⟨P, 0, none⟩ = some v := by
  obtain ⟨nm, hb⟩ := h.blk
  simp [World.cell?, hb]
theorem Mid.frz0 (h : Mid w0 W P v v' A) : W.frozen? ⟨P, 0, none⟩ = false := by
  obtain ⟨nm, hb⟩ := h.blk
  simp [World.frozen?, hb]
theorem Mid.shape (h : Mid w0 W P v v' A) : ∃ ao cap, v' = .slice ao A.length cap := own_shape h.own

theorem Mid.store (h : Mid w0 W P v v' A) : Pg w0 (W.setCell ⟨P, 0, none⟩ v') P v' A := by
  obtain ⟨nm, hb⟩ := h.blk
  refine ⟨⟨nm, ?_⟩, ownsRow_setCell_below h.own (by simp) _, h.bel.setCell (Nat.le_refl _) _⟩
  rw [heap_setCell_same W P 0 _ _ _ hb]; rfl

theorem Pg.name (h : Pg w0 W P v A) (nm' : ByteArray) : Pg w0 (W.setCell ⟨P, 1, none⟩ (.string nm')) P v A := by
  obtain ⟨nm, hb⟩ := h.blk
  refine ⟨⟨nm', ?_⟩, ownsRow_setCell_below h.own (by simp) _, h.bel.setCell (Nat.le_refl _) _⟩
  rw [heap_setCell_same W P 1 _ _ _ hb]; rfl

theorem Pg.mid (h : Pg w0 W P v A) {m : Nat} {ns : List Value} (hg : W.grownBy W1 v.ownBlock) (ho : W1.ownsRow (P + 1) 5 1 v' (A.length + m) (A.map bv ++ ns)) (hm : m = N.length) (hn : ns = N.map bv) : Mid w0 W1 P v v' (A ++ N) := by
  obtain ⟨nm, hb⟩ := h.blk
  have hlt := lt_of_block hb
  refine ⟨⟨nm, ?_⟩, own_next ho hm hn, h.bel.grown hg (by omega) (fun k hk => by have := (h.own.lt k hk).1; omega)⟩
  rw [hg.block P hlt (fun e => by have := (h.own.lt P e.symm).1; omega)]
  exact hb

theorem Pg.midA (h : Pg w0 W P v A) {m : Nat} {ns : List Value} {o : Obj} (hg : (W.alloc o).grownBy W1 v.ownBlock) (ho : W1.ownsRow (P + 1) 5 1 v' (A.length + m) (A.map bv ++ ns)) (hm : m = N.length) (hn : ns = N.map bv) : Mid w0 W1 P v v' (A ++ N) := by
  obtain ⟨nm, hb⟩ := h.blk
  have hlt := lt_of_block hb
  refine ⟨⟨nm, ?_⟩, own_next ho hm hn, (h.bel.alloc (by omega) o).grown hg (by simp; omega) (fun k hk => by have := (h.own.lt k hk).1; omega)⟩
  rw [hg.block P (by simp; omega) (fun e => by have := (h.own.lt P e.symm).1; omega), Below.heap_alloc _ _ _ hlt]
  exact hb

theorem Pg.midC (h : Pg w0 W P v A) {B : List UInt8} (ho : W1.ownsRow (P + 1) 5 1 v' B.length (B.map bv)) (hb' : Below (P + 1) W W1) : Mid w0 W1 P v v' B := by
  obtain ⟨nm, hb⟩ := h.blk
  refine ⟨⟨nm, ?_⟩, ho, h.bel.trans (hb'.mono (by omega))⟩
  rw [hb'.block P (by omega)]
  exact hb
end


theorem size_setCell' (w : World) (a : Addr) (u : Value) : (w.setCell a u).heap.size = w.heap.size := by simp [World.setCell]
theorem one_at_g (w : World) (g : Nat) (u : Value) (hg : w.heap.size = g) : ∀ (j : Nat) (x : Value), [u][j]? = some x → (w.alloc (.cells #[u] 5)).cell? ((⟨g, 0, none⟩ : Addr).add j) = some x := by
  subst hg; exact one_at w u

theorem byteArray_len (s : ByteArray) : s.data.size = s.size := rfl

/-- What one family adds to the page. -/
def hdr1 : List UInt8 := [35, 32, 72, 69, 76, 80, 32]
def hdr2 : List UInt8 := [10, 35, 32, 84, 89, 80, 69, 32]
def famL (A : List UInt8) (name kind help : ByteArray) : List UInt8 :=
  ((((((((A ++ hdr1) ++ name.data.toList) ++ [32]) ++ esc help.data.toList) ++ hdr2) ++ name.data.toList) ++ [32]) ++ kind.data.toList) ++ [10]

/-- How a method that writes the page ends. -/
def PgDone (w0 : World) (P : Nat) (A : List UInt8) (e : Ending) (w' : World) : Prop := e = .returned (.tuple #[]) ∧ ∃ v, Pg w0 w' P v A

set_option maxHeartbeats 2000000 in
theorem family_any (w0 w : World) (P : Nat) (v : Value) (A : List UInt8) (name kind help : ByteArray) (hP : Pg w0 w P v A)
    (hb : A.length + 2 * name.size + 2 * help.size + kind.size + 64 ≤ 70368744177664) :
    Calls Try.prog 17 #[.pointer (some ⟨P, 0, none⟩), .string name, .string kind, .string help] w (PgDone w0 P (famL A name kind help)) := by
  obtain ⟨i0, hi, hz0, hz1, hz2⟩ := info_parts info5
  have hm : maxLen = 9223372036854775807 := rfl
  have hPn := hP.name name
  obtain ⟨nm, hc1⟩ := hP.cell1
  have hf1 := hP.frz1
  obtain ⟨ao, cap, rfl⟩ := own_shape hP.own
  have hc0 := hPn.cell0
  clear hP
  have hP := hPn
  clear hPn
  go_enter Try.func17, Try.ntmps17
  go_wp2_with (at_builtin; go_must (refine Lib.wpList_append_own_string _ rfl (.tmp 16) _ 22 9 rfl (P + 1) 5 i0 Try.underlying22 Try.underlying9 hi hz0 hz1 hz2 _ A.length (A.map bv) rfl hP.own ⟨#[35, 32, 72, 69, 76, 80, 32]⟩ rfl (by rw [hm]; show _ + 7 ≤ _; omega) (by show _ + 7 ≤ _; omega) hP.size ?_))
  intro v1 w1 ho hg hx
  clear hx hc0 hc1 hf1
  have hM := hP.mid (N := hdr1) hg ho rfl rfl
  obtain ⟨ao1, cap1, rfl⟩ := hM.shape
  have g0 := hM.cell0
  have f0 := hM.frz0
  have hQ := hM.store
  have c0 := hQ.cell0
  clear hM hP hg ho
  have hP := hQ
  clear hQ
  have lA1 : (A ++ hdr1).length ≤ A.length + 7 := by simp [hdr1, hdr2, byteArray_len]
  generalize hA1 : A ++ hdr1 = A1 at hP lA1 c0 ⊢
  have H1 := hide hA1
  clear hA1
  go_wp2_with (at_builtin; go_must (refine Lib.wpList_append_own_string _ rfl (.tmp 24) (.tmp 25) 22 9 rfl (P + 1) 5 i0 Try.underlying22 Try.underlying9 hi hz0 hz1 hz2 _ A1.length (A1.map bv) rfl hP.own name rfl (by rw [hm]; omega) (by omega) hP.size ?_))
  intro v2 w2 ho hg hx
  clear hx
  have hM := hP.mid (N := name.data.toList) hg ho (by simp [byteArray_len, hdr1, hdr2]) rfl
  clear g0 f0 c0
  obtain ⟨ao2, cap2, rfl⟩ := hM.shape
  have g0 := hM.cell0
  have f0 := hM.frz0
  have hQ := hM.store
  have c0 := hQ.cell0
  clear hM hP hg ho
  have hP := hQ
  clear hQ
  have lA2 : (A1 ++ name.data.toList).length ≤ A1.length + name.size := by simp [hdr1, hdr2, byteArray_len]
  generalize hA2 : A1 ++ name.data.toList = A2 at hP lA2 c0 ⊢
  have H2 := hide hA2
  clear hA2
  have hsz := hP.size
  go_wp2_with (at_builtin; go_must (refine wpList_append_own _ rfl (.tmp 33) (.tmp 34) 22 rfl (P + 1) 5 i0 (.int .u8 0) 1 1 Try.underlying22 hi hz0 hz1 hz2 rfl (by decide) _ A2.length (A2.map bv) rfl (hP.own.alloc _) _ 1 1 [.int .u8 32] rfl rfl (one_at_g _ _ _ (size_setCell' _ _ _)) one_one (by rw [hm]; omega) (by omega) (by rw [World.size_alloc]; omega) ?_))
  intro v3 w3 ho hg hx
  clear hx
  clear hsz
  have hM := hP.midA (N := [32]) hg ho rfl rfl
  clear g0 f0 c0
  obtain ⟨ao3, cap3, rfl⟩ := hM.shape
  have g0 := hM.cell0
  have f0 := hM.frz0
  have hQ := hM.store
  have c0 := hQ.cell0
  clear hM hP hg ho
  have hP := hQ
  clear hQ
  have lA3 : (A2 ++ [32]).length ≤ A2.length + 1 := by simp [hdr1, hdr2, byteArray_len]
  generalize hA3 : A2 ++ [32] = A3 at hP lA3 c0 ⊢
  have H3 := hide hA3
  clear hA3
  go_wp2_with fail
  refine (appEsc_any (P + 1) _ A3 help _ hP.own hP.size (by omega)).mono ?_
  rintro e w4 ⟨v4, rfl, ho, hg⟩
  have hM := hP.midC ho hg
  clear g0 f0 c0
  obtain ⟨ao4, cap4, rfl⟩ := hM.shape
  have g0 := hM.cell0
  have f0 := hM.frz0
  have hQ := hM.store
  have c0 := hQ.cell0
  clear hM hP hg ho
  have hP := hQ
  clear hQ
  have lA4 : (A3 ++ esc help.data.toList).length ≤ A3.length + 2 * help.size := by
    have := esc_len help.data.toList
    simp [byteArray_len] at this ⊢
    omega
  generalize hA4 : A3 ++ esc help.data.toList = A4 at hP lA4 c0 ⊢
  have H4 := hide hA4
  clear hA4
  go_wp2_with (at_builtin; go_must (refine Lib.wpList_append_own_string _ rfl (.tmp 51) _ 22 9 rfl (P + 1) 5 i0 Try.underlying22 Try.underlying9 hi hz0 hz1 hz2 _ A4.length (A4.map bv) rfl hP.own ⟨#[10, 35, 32, 84, 89, 80, 69, 32]⟩ rfl (by rw [hm]; show _ + 8 ≤ _; omega) (by show _ + 8 ≤ _; omega) hP.size ?_))
  intro v5 w5 ho hg hx
  clear hx
  have hM := hP.mid (N := hdr2) hg ho rfl rfl
  clear g0 f0 c0
  obtain ⟨ao5, cap5, rfl⟩ := hM.shape
  have g0 := hM.cell0
  have f0 := hM.frz0
  have hQ := hM.store
  have c0 := hQ.cell0
  clear hM hP hg ho
  have hP := hQ
  clear hQ
  have lA5 : (A4 ++ hdr2).length ≤ A4.length + 8 := by simp [hdr1, hdr2, byteArray_len]
  generalize hA5 : A4 ++ hdr2 = A5 at hP lA5 c0 ⊢
  have H5 := hide hA5
  clear hA5
  go_wp2_with (at_builtin; go_must (refine Lib.wpList_append_own_string _ rfl (.tmp 59) (.tmp 60) 22 9 rfl (P + 1) 5 i0 Try.underlying22 Try.underlying9 hi hz0 hz1 hz2 _ A5.length (A5.map bv) rfl hP.own name rfl (by rw [hm]; omega) (by omega) hP.size ?_))
  intro v6 w6 ho hg hx
  clear hx
  have hM := hP.mid (N := name.data.toList) hg ho (by simp [byteArray_len, hdr1, hdr2]) rfl
  clear g0 f0 c0
  obtain ⟨ao6, cap6, rfl⟩ := hM.shape
  have g0 := hM.cell0
  have f0 := hM.frz0
  have hQ := hM.store
  have c0 := hQ.cell0
  clear hM hP hg ho
  have hP := hQ
  clear hQ
  have lA6 : (A5 ++ name.data.toList).length ≤ A5.length + name.size := by simp [hdr1, hdr2, byteArray_len]
  generalize hA6 : A5 ++ name.data.toList = A6 at hP lA6 c0 ⊢
  have H6 := hide hA6
  clear hA6
  have hsz := hP.size
  go_wp2_with (at_builtin; go_must (refine wpList_append_own _ rfl (.tmp 68) (.tmp 69) 22 rfl (P + 1) 5 i0 (.int .u8 0) 1 1 Try.underlying22 hi hz0 hz1 hz2 rfl (by decide) _ A6.length (A6.map bv) rfl (hP.own.alloc _) _ 1 1 [.int .u8 32] rfl rfl (one_at_g _ _ _ (size_setCell' _ _ _)) one_one (by rw [hm]; omega) (by omega) (by rw [World.size_alloc]; omega) ?_))
  intro v7 w7 ho hg hx
  clear hx
  clear hsz
  have hM := hP.midA (N := [32]) hg ho rfl rfl
  clear g0 f0 c0
  obtain ⟨ao7, cap7, rfl⟩ := hM.shape
  have g0 := hM.cell0
  have f0 := hM.frz0
  have hQ := hM.store
  have c0 := hQ.cell0
  clear hM hP hg ho
  have hP := hQ
  clear hQ
  have lA7 : (A6 ++ [32]).length ≤ A6.length + 1 := by simp [hdr1, hdr2, byteArray_len]
  generalize hA7 : A6 ++ [32] = A7 at hP lA7 c0 ⊢
  have H7 := hide hA7
  clear hA7
  go_wp2_with (at_builtin; go_must (refine Lib.wpList_append_own_string _ rfl (.tmp 77) (.tmp 78) 22 9 rfl (P + 1) 5 i0 Try.underlying22 Try.underlying9 hi hz0 hz1 hz2 _ A7.length (A7.map bv) rfl hP.own kind rfl (by rw [hm]; omega) (by omega) hP.size ?_))
  intro v8 w8 ho hg hx
  clear hx
  have hM := hP.mid (N := kind.data.toList) hg ho (by simp [byteArray_len, hdr1, hdr2]) rfl
  clear g0 f0 c0
  obtain ⟨ao8, cap8, rfl⟩ := hM.shape
  have g0 := hM.cell0
  have f0 := hM.frz0
  have hQ := hM.store
  have c0 := hQ.cell0
  clear hM hP hg ho
  have hP := hQ
  clear hQ
  have lA8 : (A7 ++ kind.data.toList).length ≤ A7.length + kind.size := by simp [hdr1, hdr2, byteArray_len]
  generalize hA8 : A7 ++ kind.data.toList = A8 at hP lA8 c0 ⊢
  have H8 := hide hA8
  clear hA8
  have hsz := hP.size
  go_wp2_with (at_builtin; go_must (refine wpList_append_own _ rfl (.tmp 86) (.tmp 87) 22 rfl (P + 1) 5 i0 (.int .u8 0) 1 1 Try.underlying22 hi hz0 hz1 hz2 rfl (by decide) _ A8.length (A8.map bv) rfl (hP.own.alloc _) _ 1 1 [.int .u8 10] rfl rfl (one_at_g _ _ _ (size_setCell' _ _ _)) one_one (by rw [hm]; omega) (by omega) (by rw [World.size_alloc]; omega) ?_))
  intro v9 w9 ho hg hx
  clear hx
  clear hsz
  have hM := hP.midA (N := [10]) hg ho rfl rfl
  clear g0 f0 c0
  obtain ⟨ao9, cap9, rfl⟩ := hM.shape
  have g0 := hM.cell0
  have f0 := hM.frz0
  have hQ := hM.store
  have c0 := hQ.cell0
  clear hM hP hg ho
  have hP := hQ
  clear hQ
  have lA9 : (A8 ++ [10]).length ≤ A8.length + 1 := by simp [hdr1, hdr2, byteArray_len]
  generalize hA9 : A8 ++ [10] = A9 at hP lA9 c0 ⊢
  have H9 := hide hA9
  clear hA9
  go_wp2
  go_end0
  have e : famL A name kind help = A9 := by
    unfold famL
    rw [unhide H1, unhide H2, unhide H3, unhide H4, unhide H5, unhide H6, unhide H7, unhide H8, unhide H9]
  rw [e]
  exact ⟨rfl, _, hP⟩

def kindOf (g : Bool) : ByteArray := if g then ⟨#[103, 97, 117, 103, 101]⟩ else ⟨#[99, 111, 117, 110, 116, 101, 114]⟩

theorem gauge_any (w0 w : World) (P : Nat) (v : Value) (A : List UInt8) (name help : ByteArray) (hP : Pg w0 w P v A)
    (hb : A.length + 2 * name.size + 2 * help.size + 71 ≤ 70368744177664) :
    Calls Try.prog 12 #[.pointer (some ⟨P, 0, none⟩), .string name, .string help] w (PgDone w0 P (famL A name (kindOf true) help)) := by
  go_enter Try.func12, Try.ntmps12
  go_wp2_with fail
  refine (family_any w0 w P v A name ⟨#[103, 97, 117, 103, 101]⟩ help hP (by show _ + _ + _ + 5 + 64 ≤ _; omega)).mono ?_
  rintro e w' ⟨rfl, v', h⟩
  go_wp2
  go_end0
  exact ⟨rfl, v', h⟩

theorem counter_any (w0 w : World) (P : Nat) (v : Value) (A : List UInt8) (name help : ByteArray) (hP : Pg w0 w P v A)
    (hb : A.length + 2 * name.size + 2 * help.size + 71 ≤ 70368744177664) :
    Calls Try.prog 13 #[.pointer (some ⟨P, 0, none⟩), .string name, .string help] w (PgDone w0 P (famL A name (kindOf false) help)) := by
  go_enter Try.func13, Try.ntmps13
  go_wp2_with fail
  refine (family_any w0 w P v A name ⟨#[99, 111, 117, 110, 116, 101, 114]⟩ help hP (by show _ + _ + _ + 7 + 64 ≤ _; omega)).mono ?_
  rintro e w' ⟨rfl, v', h⟩
  go_wp2
  go_end0
  exact ⟨rfl, v', h⟩

theorem bytes_any (w0 w : World) (P : Nat) (v : Value) (A : List UInt8) (hP : Pg w0 w P v A) :
    Calls Try.prog 14 #[.pointer (some ⟨P, 0, none⟩)] w fun e w' => e = .returned v ∧ w' = w := by
  obtain ⟨ao, cap, rfl⟩ := own_shape hP.own
  have c0 := hP.cell0
  clear hP
  go_enter Try.func14, Try.ntmps14
  go_wp2
  go_ret
  exact ⟨rfl, rfl⟩

end Go.Proofs.Qxb6003362a
