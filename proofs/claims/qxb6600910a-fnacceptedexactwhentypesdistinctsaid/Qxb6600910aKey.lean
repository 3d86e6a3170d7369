/-
  zzPut32 (46), zzKey (38).
-/
import Derived.Test.Qxb6600910aMem
import Derived.Test.Qxb6600910aProg
import Derived.Test.Qxb6600910aClone
import Derived.Deep.DeepCutAuto
import Derived.Deep.Upon
namespace Go.Proofs.Qxb6600910a
open Go.RowKit

/-- An owned row of bytes. -/
def OwnB (w : World) (base : Nat) (v : Value) (l : List UInt8) : Prop := w.ownsRow base 5 1 v l.length (l.map bv)

theorem OwnB.next {w : World} {base : Nat} {v : Value} {A N : List UInt8} {m : Nat} {ns : List Value} (h : w.ownsRow base 5 1 v (A.length + m) (A.map bv ++ ns)) (hm : m = N.length) (hn : ns = N.map bv) : OwnB w base v (A ++ N) := by
  subst hm; subst hn
  unfold OwnB
  simpa using h
theorem OwnB.shape {w : World} {base : Nat} {v : Value} {l : List UInt8} (h : OwnB w base v l) : ∃ ao cap, v = .slice ao l.length cap := by
  rcases h.2 with ⟨rfl, e⟩ | ⟨g, cap, cur, rfl, _⟩
  · exact ⟨none, 0, by rw [e]⟩
  · exact ⟨_, cap, rfl⟩

/-- How a function that appends to an owned row ends. -/
def Grew (base : Nat) (v : Value) (out : List UInt8) (w : World) (e : Ending) (w' : World) : Prop := ∃ v', e = .returned v' ∧ OwnB w' base v' out ∧ w.grownBy w' v.ownBlock

theorem put32_cells (n : Nat) (h : n ≤ 1048576) : [Value.int .u8 ((n : Int) / 16777216), .int .u8 ((n : Int) / 65536), .int .u8 ((n : Int) / 256 % 256), .int .u8 ((n : Int) % 256)] = (put32 n).map bv := by
  simp only [put32, bv, List.map_cons, List.map_nil, List.cons.injEq, Value.int.injEq, true_and, and_true, UInt8.toNat_ofNat']
  omega

/-- The cells of a new block. -/
theorem lit_at (w : World) (g : Nat) (cs : Array Value) (hg : w.heap.size = g) : ∀ (j : Nat) (x : Value), cs.toList[j]? = some x → (w.alloc (.cells cs 5)).cell? ((⟨g, 0, none⟩ : Addr).add j) = some x := by
  subst hg
  intro j x hj
  have : (⟨w.heap.size, 0, none⟩ : Addr).add j = ⟨w.heap.size, j, none⟩ := by unfold Addr.add; split <;> simp_all
  rw [this]
  simpa using hj
theorem int_one {l : List Int} : ∀ u ∈ l.map (Value.int .u8), u.oneCell' = true := by
  intro u hu
  obtain ⟨x, _, rfl⟩ := List.mem_map.1 hu
  rfl
theorem bv_one {l : List UInt8} : ∀ u ∈ l.map bv, u.oneCell' = true := by
  intro u hu
  obtain ⟨x, _, rfl⟩ := List.mem_map.1 hu
  rfl

theorem grown_alloc {w w1 : World} {o : Obj} {row : Option Nat} (h : (w.alloc o).grownBy w1 row) : w.grownBy w1 row :=
  ⟨h.os, h.tape, h.output, by have := h.size; simp at this; omega, fun k hk hne => by rw [h.block k (by simp; omega) hne, Below.heap_alloc _ _ _ hk]⟩

/-- A block of another element type is none of an owned row of bytes. -/
theorem box_keep {w w' : World} {base B T : Nat} {v : Value} {n : Nat} {xs : List Value} {cs : Array Value} (ho : w.ownsRow base 5 1 v n xs) (hB : w.heap[B]? = some (.cells cs T (0, 0))) (hT : T ≠ 5) (hg : w.grownBy w' v.ownBlock) : w'.heap[B]? = some (.cells cs T (0, 0)) := by
  rw [hg.block B (lt_of_block hB) (fun e => ?_)]
  · exact hB
  · rcases ho.2 with ⟨rfl, _⟩ | ⟨g, cap, cur, rfl, _, hh, _⟩
    · simp [Value.ownBlock] at e
    · simp only [Value.ownBlock, Option.some.injEq] at e
      subst e
      rw [hB] at hh
      simp at hh
      exact hT hh.2

set_option maxHeartbeats 1000000 in
theorem put32_any (base : Nat) (v : Value) (A : List UInt8) (n : Nat) (w : World) (hn : n ≤ 1048576) (ho : OwnB w base v A) (hb : base ≤ w.heap.size) (hA : A.length ≤ 35184372088832) :
    Calls Try.prog 46 #[v, .int .i64 n] w (Grew base v (A ++ put32 n) w) := by
  obtain ⟨i0, hi, hz0, hz1, hz2⟩ := info_parts info5
  have ho' : w.ownsRow base 5 1 v A.length (A.map bv) := ho
  go_enter Try.func46, Try.ntmps46
  go_wp2_with (at_builtin; go_must (refine wpList_append_own _ rfl (.tmp 5) (.tmp 17) 33 rfl base 5 i0 (.int .u8 0) 1 1 Try.underlying33 hi hz0 hz1 hz2 rfl (by decide) v A.length (A.map bv) rfl (ho'.alloc _) ⟨w.heap.size, 0, none⟩ 4 4 [.int .u8 ((n : Int) / 16777216), .int .u8 ((n : Int) / 65536), .int .u8 ((n : Int) / 256 % 256), .int .u8 ((n : Int) % 256)] rfl rfl (lit_at _ _ _ rfl) (by intro u hu; simp at hu; rcases hu with rfl | rfl | rfl | rfl <;> rfl) (by unfold maxLen; omega) (by omega) (by simp; omega) ?_))
  intro v' w1 ho1 hg _
  rw [put32_cells n hn] at ho1
  have R := hide (OwnB.next (N := put32 n) ho1 rfl rfl)
  have R2 : Hid (w.grownBy w1 v.ownBlock) := grown_alloc hg
  clear ho1 hg
  go_wp2
  go_ret
  exact ⟨_, rfl, unhide R, unhide R2⟩

/-- The key behind j attributes. -/
def keyTo (t : Trans) (j : Nat) : List UInt8 := t.ty :: (be16 t.id ++ (put32 t.attrs.length ++ (t.attrs.take j).flatMap keyA))
theorem keyTo_zero (t : Trans) : keyTo t 0 = [t.ty, UInt8.ofNat (t.id.toNat / 256), UInt8.ofNat (t.id.toNat % 256)] ++ put32 t.attrs.length := by simp [keyTo, be16]
theorem keyTo_succ (t : Trans) (j : Nat) (h : j < t.attrs.length) : keyTo t (j + 1) = (((keyTo t j ++ be16 t.attrs[j].ty) ++ [if t.attrs[j].tv then 1 else 0]) ++ put32 t.attrs[j].val.length) ++ t.attrs[j].val := by
  unfold keyTo
  rw [List.take_succ_eq_append_getElem h, List.flatMap_append]
  simp only [List.flatMap_cons, List.flatMap_nil, List.append_nil, keyA, List.cons_append, List.append_assoc]
theorem keyTo_all (t : Trans) : keyTo t t.attrs.length = key t := by simp [keyTo, key]
theorem keyA_len (a : Attr) (h : a.val.length ≤ 1048576) : (keyA a).length ≤ 1048583 := by
  have h4 : (put32 a.val.length).length = 4 := rfl
  have h5 : (be16 a.ty).length = 2 := rfl
  unfold keyA
  rw [List.length_append, List.length_append, List.length_append, h4, h5, List.length_singleton]
  omega
theorem flat_len : ∀ (l : List Attr), (∀ a ∈ l, a.val.length ≤ 1048576) → (l.flatMap keyA).length ≤ l.length * 1048583
  | [], _ => by simp
  | a :: l, h => by
    have h1 := keyA_len a (h a (by simp))
    have h2 := flat_len l (fun x hx => h x (by simp [hx]))
    rw [List.flatMap_cons, List.length_append, List.length_cons]
    omega
theorem keyTo_len (t : Trans) (j : Nat) (h : LT 1048576 t) (hj : j ≤ t.attrs.length) : (keyTo t j).length ≤ 1099520000000 := by
  have h1 := flat_len (t.attrs.take j) (fun a ha => h.2 a (List.mem_of_mem_take ha))
  have h2 := h.1
  have h3 : (t.attrs.take j).length ≤ 1048576 := by simp; omega
  have h4 : (put32 t.attrs.length).length = 4 := rfl
  have h5 : (be16 t.id).length = 2 := rfl
  unfold keyTo
  rw [List.length_cons, List.length_append, List.length_append, h4, h5]
  omega
theorem be16_cells (x : UInt16) : [Value.int .u8 ((x.toNat : Int) / 256 % 256), .int .u8 ((x.toNat : Int) % 256)] = (be16 x).map bv := by
  simp only [be16, bv, List.map_cons, List.map_nil, List.cons.injEq, Value.int.injEq, true_and, and_true, UInt8.toNat_ofNat']
  omega

theorem bytes_src {w : World} {b off : Nat} {l : List UInt8} (h : ∀ j, (h : j < l.length) → elByte w b (off + j * 1) l[j]) : ∀ (j : Nat) (u : Value), (l.map bv)[j]? = some u → w.cell? ((⟨b, off, none⟩ : Addr).add j) = some u := by
  intro j u hu
  obtain ⟨hj, e⟩ := List.getElem?_eq_some_iff.1 hu
  simp only [List.length_map] at hj
  have h1 := h j hj
  unfold elByte at h1
  rw [Nat.mul_one] at h1
  have : (⟨b, off, none⟩ : Addr).add j = ⟨b, off + j, none⟩ := by unfold Addr.add; split <;> simp_all
  rw [this, h1, ← e, List.getElem_map]

/-- append(b, xs...), xs nil: b as it was. -/
theorem wpList_append_nil {P : Program} {w : World} {ops : Array Oper} {rest : List Oper} {o : Oper} {a : Act} {Q : Exit → Act → World → Prop} (hgd : o.guard = none) (s x : Operand) (t : TypeId)
    (ho : o.op = .call { callee := .builtin .append, args := #[s, x], argTypes := #[t, t] })
    (base : Nat) (e : TypeId) (i : TypeInfo) (size : Nat) (ht : P.underlying t = some (.slice e)) (hi : P.info? e = some i)
    (v : Value) (n : Nat) (xs : List Value) (c : Nat) (hs : a.eval s = v) (hown : w.ownsRow base e size v n xs) (hx : a.eval x = .slice none 0 c)
    (h : wpList P ops Q rest (a.put o.dst v) w) : wpList P ops Q (o :: rest) a w := by
  refine wpList_plain hgd fun K hK => ?_
  have hrun : (Builtin.append_ #[t, t] o.type #[v, .slice none 0 c]).run P w = .ok v w := by
    rcases hown.2 with ⟨rfl, rfl⟩ | ⟨g, cap, cur, rfl, _, _, hnc, _⟩
    · exact run_append_nothing w t t o.type e i ht hi none 0 0 (Nat.le_refl _) _ (Src.ofNil w ht c)
    · exact run_append_nothing w t t o.type e i ht hi (some ⟨g, 0, none⟩) n cap hnc _ (Src.ofNil w ht c)
  unfold Oper.wp
  simp [execOp, ho, resolve, invoke, builtin, hs, hx, hrun, Result.andThen]
  exact hK _ _ h

/-- The state of zzKey's round: the row owned, the boxed attribute in block B, all below 'base' as in W0. -/
structure KSt (W0 : World) (base B : Nat) (cs : Array Value) (X : World) (v : Value) (L : List UInt8) : Prop where
  own : X.ownsRow base 5 1 v L.length (L.map bv)
  box : X.heap[B]? = some (.cells cs 64 (0, 0))
  bel : Below base W0 X
  le : base ≤ X.heap.size

theorem KSt.step {W0 X X2 : World} {base B : Nat} {cs : Array Value} {v v' : Value} {L N : List UInt8} {m : Nat} {ns : List Value} (h : KSt W0 base B cs X v L) (hg : X.grownBy X2 v.ownBlock) (ho : X2.ownsRow base 5 1 v' (L.length + m) (L.map bv ++ ns)) (hm : m = N.length) (hn : ns = N.map bv) : KSt W0 base B cs X2 v' (L ++ N) :=
  ⟨OwnB.next ho hm hn, box_keep h.own h.box (by decide) hg, h.bel.grown hg h.le (fun k hk => (h.own.lt k hk).1), Nat.le_trans h.le hg.size⟩
theorem KSt.stepB {W0 X X2 : World} {base B : Nat} {cs : Array Value} {v v' : Value} {L N : List UInt8} (h : KSt W0 base B cs X v L) (hg : X.grownBy X2 v.ownBlock) (ho : OwnB X2 base v' N) : KSt W0 base B cs X2 v' N :=
  ⟨ho, box_keep h.own h.box (by decide) hg, h.bel.grown hg h.le (fun k hk => (h.own.lt k hk).1), Nat.le_trans h.le hg.size⟩
theorem KSt.cell {W0 X : World} {base B : Nat} {cs : Array Value} {v : Value} {L : List UInt8} (h : KSt W0 base B cs X v L) (i : Nat) : X.cell? ⟨B, i, none⟩ = cs[i]? := by simp [World.cell?, h.box]

/-- How zzKey ends. -/
def Keyed (w : World) (l : List UInt8) (e : Ending) (w' : World) : Prop := ∃ v, e = .returned v ∧ OwnB w' (w.heap.size + 1) v l ∧ Below w.heap.size w w'

set_option maxHeartbeats 4000000 in
set_option maxRecDepth 100000 in
theorem key_any (t : Trans) (va : Value) (w : World) (hT : LT 1048576 t) (h : IsAttrs (· < w.heap.size) w va t.attrs) : Calls Try.prog 38 #[.agg #[bv t.ty, hv t.id, va]] w (Keyed w (key t)) := by
  obtain ⟨i0, hi, hz0, hz1, hz2⟩ := info_parts info5
  obtain ⟨ao, cap, rfl, hz, hs⟩ := h
  clear hz
  unfold bv hv
  have HT := hide hT
  obtain ⟨hT1, hT2⟩ := hT
  clear hT2
  go_enter Try.func38, Try.ntmps38
  go_wp2_with fail
  obtain ⟨W0, hW0⟩ : ∃ W0, W0 = w.alloc (.cells #[.int .u8 (t.ty.toNat : Int), .int .u16 (t.id.toNat : Int), .slice ao t.attrs.length cap] 55) := ⟨_, rfl⟩
  have hs0 : W0.heap.size = w.heap.size + 1 := by rw [hW0]; simp
  have hc0 : W0.cell? ⟨w.heap.size, 2, none⟩ = some (.slice ao t.attrs.length cap) := by rw [hW0]; simp
  have hb0 : Below w.heap.size w W0 := by rw [hW0]; exact (Below.refl _ _).alloc (Nat.le_refl _) _
  rw [← hW0]
  clear hW0
  have ho0 : OwnB (W0.alloc (.cells #[.int .u8 (t.ty.toNat : Int), .int .u8 ((t.id.toNat : Int) / 256 % 256), .int .u8 ((t.id.toNat : Int) % 256)] 5)) (w.heap.size + 1) (.slice (some ⟨w.heap.size + 1, 0, none⟩) 3 3) [t.ty, UInt8.ofNat (t.id.toNat / 256), UInt8.ofNat (t.id.toNat % 256)] := by
    have := World.ownsRow_lit (e := 5) (size := 1) (base := w.heap.size + 1) W0 #[.int .u8 (t.ty.toNat : Int), .int .u8 ((t.id.toNat : Int) / 256 % 256), .int .u8 ((t.id.toNat : Int) % 256)] 3 (by omega) (by unfold maxLen; omega) rfl
    rw [hs0] at this
    have e := be16_cells t.id
    unfold OwnB
    have e2 : ([t.ty, UInt8.ofNat (t.id.toNat / 256), UInt8.ofNat (t.id.toNat % 256)].map bv) = [.int .u8 (t.ty.toNat : Int), .int .u8 ((t.id.toNat : Int) / 256 % 256), .int .u8 ((t.id.toNat : Int) % 256)] := by
      show bv t.ty :: (be16 t.id).map bv = _
      rw [← e]; rfl
    rw [e2]
    exact this
  refine (put32_any (w.heap.size + 1) _ _ t.attrs.length _ hT1 ho0 (by simp; omega) (by simp)).mono ?_
  rintro e w1 ⟨v1, rfl, ho1, hg1⟩
  rw [← keyTo_zero] at ho1
  have hb1 : Below (w.heap.size + 1) W0 w1 := ((Below.refl _ _).alloc (by omega) _).grown hg1 (by simp; omega) (fun j hj => by simp [Value.ownBlock] at hj; omega)
  clear ho0 hg1
  go_wp2
  go_loopw [3, 4] (fun v i wr => ∃ j : Nat, j ≤ t.attrs.length ∧ i = .int .i64 j ∧ OwnB wr (w.heap.size + 1) v (keyTo t j) ∧ Below (w.heap.size + 1) W0 wr) (fun _ i _ => t.attrs.length - (intOf i).toNat)
  case atStart => exact ⟨0, Nat.zero_le _, rfl, ho1, hb1⟩
  case round =>
    clear ho1 hb1
    obtain ⟨j, hj, rfl, ho, hb⟩ := hrel
    have c2 : wr.cell? ⟨w.heap.size, 2, none⟩ = some (.slice ao t.attrs.length cap) := (hb.cell (p := ⟨w.heap.size, 2, none⟩) (by simp)).trans hc0
    by_cases hlt : j < t.attrs.length
    · obtain ⟨b, off, rfl, hbl, hel⟩ := hs (by omega)
      have hE : elAttr (· < w.heap.size) wr b (off + j * 3) t.attrs[j] := (hel j hlt).move hbl (fun b hb' => ⟨hb', by rw [hb.block b (by omega), hb0.block b hb']⟩)
      have hV := (unhide HT).2 _ (List.getElem_mem hlt)
      have hKs := hide (keyTo_succ t j hlt)
      have hKl := keyTo_len t j (unhide HT) (by omega)
      generalize keyTo t j = K at *
      generalize t.attrs[j] = a at *
      clear hel hs
      have t0 := hE.c0
      have t1 := hE.c1
      unfold hv at t0
      obtain ⟨vb, t2, hBy⟩ := hE.c2
      have hBy' := hBy
      obtain ⟨aob, capb, rfl, hzb, hsb⟩ := hBy'
      clear hE
      have hszr := hb.size
      have hK0 : KSt W0 (w.heap.size + 1) wr.heap.size #[.int .u16 (a.ty.toNat : Int), .bool a.tv, .slice aob a.val.length capb] (wr.alloc (.cells #[.int .u16 (a.ty.toNat : Int), .bool a.tv, .slice aob a.val.length capb] 64)) u3 K :=
        ⟨World.ownsRow.alloc ho _, heap_alloc_new _ _, hb.alloc (by omega) _, by simp; omega⟩
      clear ho
      go_wp2_with (at_builtin; go_must (refine wpList_append_own _ rfl (.tmp 33) (.tmp 41) 33 rfl (w.heap.size + 1) 5 i0 (.int .u8 0) 1 1 Try.underlying33 hi hz0 hz1 hz2 rfl (by decide) _ K.length (K.map bv) rfl (hK0.own.alloc _) _ 2 2 [.int .u8 ((a.ty.toNat : Int) / 256 % 256), .int .u8 ((a.ty.toNat : Int) % 256)] rfl rfl (lit_at _ _ _ (by simp)) (by intro u hu; simp at hu; rcases hu with rfl | rfl <;> rfl) (by unfold maxLen; omega) (by omega) (by simp; omega) ?_))
      intro v2 w2 ho2 hg2 hx2
      rw [be16_cells] at ho2
      have hK1 := hK0.step (grown_alloc hg2) ho2 rfl rfl
      clear hK0 ho2 hg2 hx2
      have l1 : (K ++ be16 a.ty).length ≤ K.length + 2 := by rw [List.length_append]; exact Nat.le_refl _
      generalize hKe1 : K ++ be16 a.ty = K1 at hK1 l1
      have HK1 := hide hKe1
      clear hKe1
      have hc1 := hK1.cell 1
      simp only [List.getElem?_toArray, List.getElem?_cons_succ, List.getElem?_cons_zero] at hc1
      by_cases htv : a.tv = false
      · have hf : Hid ([if a.tv then (1 : UInt8) else 0] = [0]) := by show _ = _; rw [htv]; rfl
        rw [htv] at hc1
        go_wp2_with (at_builtin; go_must (refine wpList_append_own _ rfl (.tmp 48) (.tmp 49) 33 rfl (w.heap.size + 1) 5 i0 (.int .u8 0) 1 1 Try.underlying33 hi hz0 hz1 hz2 rfl (by decide) _ K1.length (K1.map bv) rfl (hK1.own.alloc _) _ 1 1 [.int .u8 0] rfl rfl (lit_at _ _ _ rfl) (by intro u hu; simp at hu; subst hu; rfl) (by unfold maxLen; omega) (by omega) (by have := hK1.le; simp; omega) ?_))
        intro v3 w3 ho3 hg3 hx3
        have hK2 := hK1.step (N := [0]) (grown_alloc hg3) ho3 rfl rfl
        have l2 : (K1 ++ [(0 : UInt8)]).length ≤ K1.length + 1 := by simp
        clear hK1 ho3 hg3 hx3 hc1
        generalize hKe2 : K1 ++ [(0 : UInt8)] = K2 at hK2 l2
        have HK2 := hide hKe2
        clear hKe2
        have hc2 := hK2.cell 2
        simp only [List.getElem?_toArray, List.getElem?_cons_succ, List.getElem?_cons_zero] at hc2
        go_wp2_with fail
        refine (put32_any (w.heap.size + 1) _ K2 a.val.length _ hV hK2.own hK2.le (by omega)).mono ?_
        rintro e w4 ⟨v4, rfl, ho4, hg4⟩
        have hK3 := hK2.stepB hg4 ho4
        have l3 : (K2 ++ put32 a.val.length).length ≤ K2.length + 4 := by rw [List.length_append]; exact Nat.le_refl _
        clear hK2 ho4 hg4 hc2
        generalize hKe3 : K2 ++ put32 a.val.length = K3 at hK3 l3
        have HK3 := hide hKe3
        clear hKe3
        have hc3 := hK3.cell 2
        simp only [List.getElem?_toArray, List.getElem?_cons_succ, List.getElem?_cons_zero] at hc3
        have hBy4 : IsBytes (· < w.heap.size) w4 (.slice aob a.val.length capb) a.val := hBy.move (fun b hb' => ⟨hb', by rw [hK3.bel.block b (by omega), hb.block b (by omega)]⟩)
        obtain ⟨aob', capb', e4, hz4, hs4⟩ := hBy4
        simp only [Value.slice.injEq, true_and] at e4
        obtain ⟨rfl, rfl⟩ := e4
        have hfin : Hid (keyTo t (j + 1) = K3 ++ a.val) := by
          show _ = _
          rw [unhide hKs, unhide HK1, unhide hf, unhide HK2, unhide HK3]
        clear HK1 HK2 HK3 hKs hBy hzb hsb
        cases aob with
        | none =>
          have hv0 := hz4 rfl
          rw [hv0] at hc3 hfin
          have hc3' : w4.cell? ⟨wr.heap.size, 2, none⟩ = some (.slice none 0 capb) := hc3
          clear hc3
          go_wp2_with (at_builtin; go_must (refine wpList_append_nil rfl (.tmp 56) (.tmp 58) 33 rfl (w.heap.size + 1) 5 i0 1 Try.underlying33 hi _ K3.length (K3.map bv) capb rfl hK3.own rfl ?_))
          rw [List.append_nil] at hfin
          have HO : Hid (OwnB w4 (w.heap.size + 1) v4 (keyTo t (j + 1))) := by rw [unhide hfin]; exact hK3.own
          have HB := hide hK3.bel
          clear hK3 hfin
          go_wp2
          go_roundw
          case rel => exact ⟨j + 1, by omega, by go_num, unhide HO, unhide HB⟩
          case measure => simp [intOf]; omega
        | some ab =>
          by_cases hv0 : a.val.length = 0
          · have hv1 : a.val = [] := List.eq_nil_of_length_eq_zero hv0
            rw [hv1] at hfin
            rw [List.append_nil] at hfin
            go_wp2_with (at_builtin; go_must (refine wpList_append_own _ rfl (.tmp 56) (.tmp 58) 33 rfl (w.heap.size + 1) 5 i0 (.int .u8 0) 1 1 Try.underlying33 hi hz0 hz1 hz2 rfl (by decide) _ K3.length (K3.map bv) rfl hK3.own _ 0 capb [] rfl rfl (by intro j u h; simp at h) (by intro u h; simp at h) (by unfold maxLen; omega) (by omega) hK3.le ?_))
            intro v5 w5 ho5 hg5 hx5
            have hK4 := hK3.stepB (N := K3) hg5 ho5
            have HO : Hid (OwnB w5 (w.heap.size + 1) v5 (keyTo t (j + 1))) := by rw [unhide hfin]; exact hK4.own
            have HB := hide hK4.bel
            clear hK3 hK4 hfin ho5 hg5 hx5
            go_wp2
            go_roundw
            case rel => exact ⟨j + 1, by omega, by go_num, unhide HO, unhide HB⟩
            case measure => simp [intOf]; omega
          · obtain ⟨gb, ob, e5, -, hcb⟩ := hs4 (by omega)
            simp only [Option.some.injEq] at e5
            subst e5
            go_wp2_with (at_builtin; go_must (refine wpList_append_own _ rfl (.tmp 56) (.tmp 58) 33 rfl (w.heap.size + 1) 5 i0 (.int .u8 0) 1 1 Try.underlying33 hi hz0 hz1 hz2 rfl (by decide) _ K3.length (K3.map bv) rfl hK3.own _ a.val.length capb (a.val.map bv) rfl (by simp) (bytes_src hcb) bv_one (by unfold maxLen; omega) (by omega) hK3.le ?_))
            intro v5 w5 ho5 hg5 hx5
            have hK4 := hK3.step (N := a.val) hg5 ho5 rfl rfl
            have HO : Hid (OwnB w5 (w.heap.size + 1) v5 (keyTo t (j + 1))) := by rw [unhide hfin]; exact hK4.own
            have HB := hide hK4.bel
            clear hK3 hK4 hfin ho5 hg5 hx5 hs4 hcb
            go_wp2
            go_roundw
            case rel => exact ⟨j + 1, by omega, by go_num, unhide HO, unhide HB⟩
            case measure => simp [intOf]; omega
      · have htv : a.tv = true := by simpa using htv
        have hf : Hid ([if a.tv then (1 : UInt8) else 0] = [1]) := by show _ = _; rw [htv]; rfl
        rw [htv] at hc1
        go_wp2_with (at_builtin; go_must (refine wpList_append_own _ rfl (.tmp 45) (.tmp 46) 33 rfl (w.heap.size + 1) 5 i0 (.int .u8 0) 1 1 Try.underlying33 hi hz0 hz1 hz2 rfl (by decide) _ K1.length (K1.map bv) rfl (hK1.own.alloc _) _ 1 1 [.int .u8 1] rfl rfl (lit_at _ _ _ rfl) (by intro u hu; simp at hu; subst hu; rfl) (by unfold maxLen; omega) (by omega) (by have := hK1.le; simp; omega) ?_))
        intro v3 w3 ho3 hg3 hx3
        have hK2 := hK1.step (N := [1]) (grown_alloc hg3) ho3 rfl rfl
        have l2 : (K1 ++ [(1 : UInt8)]).length ≤ K1.length + 1 := by simp
        clear hK1 ho3 hg3 hx3 hc1
        generalize hKe2 : K1 ++ [(1 : UInt8)] = K2 at hK2 l2
        have HK2 := hide hKe2
        clear hKe2
        have hc2 := hK2.cell 2
        simp only [List.getElem?_toArray, List.getElem?_cons_succ, List.getElem?_cons_zero] at hc2
        go_wp2_with fail
        refine (put32_any (w.heap.size + 1) _ K2 a.val.length _ hV hK2.own hK2.le (by omega)).mono ?_
        rintro e w4 ⟨v4, rfl, ho4, hg4⟩
        have hK3 := hK2.stepB hg4 ho4
        have l3 : (K2 ++ put32 a.val.length).length ≤ K2.length + 4 := by rw [List.length_append]; exact Nat.le_refl _
        clear hK2 ho4 hg4 hc2
        generalize hKe3 : K2 ++ put32 a.val.length = K3 at hK3 l3
        have HK3 := hide hKe3
        clear hKe3
        have hc3 := hK3.cell 2
        simp only [List.getElem?_toArray, List.getElem?_cons_succ, List.getElem?_cons_zero] at hc3
        have hBy4 : IsBytes (· < w.heap.size) w4 (.slice aob a.val.length capb) a.val := hBy.move (fun b hb' => ⟨hb', by rw [hK3.bel.block b (by omega), hb.block b (by omega)]⟩)
        obtain ⟨aob', capb', e4, hz4, hs4⟩ := hBy4
        simp only [Value.slice.injEq, true_and] at e4
        obtain ⟨rfl, rfl⟩ := e4
        have hfin : Hid (keyTo t (j + 1) = K3 ++ a.val) := by
          show _ = _
          rw [unhide hKs, unhide HK1, unhide hf, unhide HK2, unhide HK3]
        clear HK1 HK2 HK3 hKs hBy hzb hsb
        cases aob with
        | none =>
          have hv0 := hz4 rfl
          rw [hv0] at hc3 hfin
          have hc3' : w4.cell? ⟨wr.heap.size, 2, none⟩ = some (.slice none 0 capb) := hc3
          clear hc3
          go_wp2_with (at_builtin; go_must (refine wpList_append_nil rfl (.tmp 56) (.tmp 58) 33 rfl (w.heap.size + 1) 5 i0 1 Try.underlying33 hi _ K3.length (K3.map bv) capb rfl hK3.own rfl ?_))
          rw [List.append_nil] at hfin
          have HO : Hid (OwnB w4 (w.heap.size + 1) v4 (keyTo t (j + 1))) := by rw [unhide hfin]; exact hK3.own
          have HB := hide hK3.bel
          clear hK3 hfin
          go_wp2
          go_roundw
          case rel => exact ⟨j + 1, by omega, by go_num, unhide HO, unhide HB⟩
          case measure => simp [intOf]; omega
        | some ab =>
          by_cases hv0 : a.val.length = 0
          · have hv1 : a.val = [] := List.eq_nil_of_length_eq_zero hv0
            rw [hv1] at hfin
            rw [List.append_nil] at hfin
            go_wp2_with (at_builtin; go_must (refine wpList_append_own _ rfl (.tmp 56) (.tmp 58) 33 rfl (w.heap.size + 1) 5 i0 (.int .u8 0) 1 1 Try.underlying33 hi hz0 hz1 hz2 rfl (by decide) _ K3.length (K3.map bv) rfl hK3.own _ 0 capb [] rfl rfl (by intro j u h; simp at h) (by intro u h; simp at h) (by unfold maxLen; omega) (by omega) hK3.le ?_))
            intro v5 w5 ho5 hg5 hx5
            have hK4 := hK3.stepB (N := K3) hg5 ho5
            have HO : Hid (OwnB w5 (w.heap.size + 1) v5 (keyTo t (j + 1))) := by rw [unhide hfin]; exact hK4.own
            have HB := hide hK4.bel
            clear hK3 hK4 hfin ho5 hg5 hx5
            go_wp2
            go_roundw
            case rel => exact ⟨j + 1, by omega, by go_num, unhide HO, unhide HB⟩
            case measure => simp [intOf]; omega
          · obtain ⟨gb, ob, e5, -, hcb⟩ := hs4 (by omega)
            simp only [Option.some.injEq] at e5
            subst e5
            go_wp2_with (at_builtin; go_must (refine wpList_append_own _ rfl (.tmp 56) (.tmp 58) 33 rfl (w.heap.size + 1) 5 i0 (.int .u8 0) 1 1 Try.underlying33 hi hz0 hz1 hz2 rfl (by decide) _ K3.length (K3.map bv) rfl hK3.own _ a.val.length capb (a.val.map bv) rfl (by simp) (bytes_src hcb) bv_one (by unfold maxLen; omega) (by omega) hK3.le ?_))
            intro v5 w5 ho5 hg5 hx5
            have hK4 := hK3.step (N := a.val) hg5 ho5 rfl rfl
            have HO : Hid (OwnB w5 (w.heap.size + 1) v5 (keyTo t (j + 1))) := by rw [unhide hfin]; exact hK4.own
            have HB := hide hK4.bel
            clear hK3 hK4 hfin ho5 hg5 hx5 hs4 hcb
            go_wp2
            go_roundw
            case rel => exact ⟨j + 1, by omega, by go_num, unhide HO, unhide HB⟩
            case measure => simp [intOf]; omega
    · have hjn : j = t.attrs.length := by omega
      subst hjn
      rw [keyTo_all] at ho
      have H2 : Hid (Below w.heap.size w wr) := hb0.trans (hb.mono (by omega))
      clear hs
      go_wp2
      go_ret
      exact ⟨_, rfl, ho, unhide H2⟩
end Go.Proofs.Qxb6600910a
