/-
  holds$1 (43), holds$2 (44), IndexFunc (50), ContainsFunc (42), holds (35).
-/
import Derived.Test.Qxb6600910aEqual
namespace Go.Proofs.Qxb6600910a
open Go.RowKit

/-- A transform as a value. -/
def aggT (t : Trans) (va : Value) : Value := .agg #[bv t.ty, hv t.id, va]

theorem beq_u8 (a b : UInt8) : ((a.toNat : Int) == (b.toNat : Int)) = (a == b) := by
  by_cases h : a = b
  · subst h; simp
  · have : ¬ ((a.toNat : Int) = (b.toNat : Int)) := fun e => h (UInt8.toNat.inj (by omega))
    rw [beq_eq_false_iff_ne.2 this, beq_eq_false_iff_ne.2 h]

theorem clo1_any (t : Trans) (x : UInt8) (va : Value) (ao : Option Addr) (n c : Nat) (hva : va = .slice ao n c) (B : Nat) (w : World) (hB : B < w.heap.size) (hc : w.cell? ⟨B, 0, none⟩ = some (bv x)) : Calls Try.prog 43 #[aggT t va, .pointer (some ⟨B, 0, none⟩)] w (AnsNew w (t.ty == x)) := by
  subst hva
  unfold bv at hc
  unfold aggT bv hv
  have e := hide (beq_u8 t.ty x)
  go_enter Try.func43, Try.ntmps43
  go_wp2
  go_ret
  exact ⟨by rw [← unhide e]; rfl, (Below.refl _ _).alloc (Nat.le_refl _) _⟩

theorem clo2_any (t u : Trans) (va : Value) (B : Nat) (w : World) (hB : B < w.heap.size) (h1 : IsAttrs (· < w.heap.size) w va t.attrs) (h2 : elTrans (· < w.heap.size) w B 0 u) (hl2 : u.attrs.length ≤ 1048576) : Calls Try.prog 44 #[aggT t va, .pointer (some ⟨B, 0, none⟩)] w (AnsNew w (eqT t u)) := by
  have h1' := h1
  obtain ⟨ao, cap, rfl, -, -⟩ := h1'
  unfold aggT
  have hk : ∀ (o : Obj) b, b < w.heap.size → b < (w.alloc o).heap.size ∧ (w.alloc o).heap[b]? = w.heap[b]? := fun o b hb => ⟨by simp; omega, Below.heap_alloc _ _ _ hb⟩
  have HK := hide hk
  unfold bv hv
  clear hk
  go_enter Try.func44, Try.ntmps44
  go_wp2_with fail
  refine (equal_any w.heap.size B t u _ ⟨by simp; rfl, by simp; rfl, _, by simp, h1.move (unhide HK _)⟩ (h2.move hB (unhide HK _)) (by simp; omega) hl2).mono ?_
  rintro e w1 ⟨rfl, hb⟩
  go_wp2
  go_ret
  exact ⟨rfl, ((Below.refl _ _).alloc (Nat.le_refl _) _).trans (hb.mono (by simp))⟩

/-- How IndexFunc ends. -/
def Idx (w : World) (r : Bool) (e : Ending) (w' : World) : Prop := ∃ i : Int, e = .returned (.int .i64 i) ∧ (r = true → 0 ≤ i) ∧ (r = false → i < 0) ∧ Below w.heap.size w w'
def Clo (w : World) (F : Nat) (ptr : Value) (f : Trans → Bool) (l : List Trans) : Prop := ∀ W va t, t ∈ l → Below w.heap.size w W → IsAttrs (· < w.heap.size) W va t.attrs → Calls Try.prog F #[aggT t va, ptr] W (AnsNew W (f t))

theorem any_take (l : List Trans) (f : Trans → Bool) (k : Nat) (h : k < l.length) (h0 : (l.take k).any f = false) (h1 : f l[k] = false) : (l.take (k + 1)).any f = false := by
  rw [List.take_succ_eq_append_getElem h, List.any_append, h0]
  simp [h1]

set_option maxHeartbeats 4000000 in
theorem index_any (F : Nat) (ptr : Value) (f : Trans → Bool) (v : Value) (l : List Trans) (w : World) (hl : l.length ≤ 1048576) (h : IsTranses (· < w.heap.size) w v l) (hF : Clo w F ptr f l) (hcf : ∀ args W, (callFunc F args).run Try.prog W = .ok (.enter F args) W) : Calls Try.prog 50 #[v, .func (.func F) #[] #[ptr]] w (Idx w (l.any f)) := by
  obtain ⟨ao, cap, rfl, -, hs⟩ := h
  have HF := hide hF
  clear hF
  have hI0 : Hid ((l.take 0).any f = false) := by show _ = _; simp
  go_enter Try.func50, Try.ntmps50
  go_wp2
  go_loopw [8] (fun i wr => ∃ k : Nat, k ≤ l.length ∧ i = .int .i64 k ∧ Below w.heap.size w wr ∧ Hid ((l.take k).any f = false)) (fun i _ => l.length - (intOf i).toNat)
  case atStart => exact ⟨0, Nat.zero_le _, rfl, Below.refl _ _, hI0⟩
  case round =>
    obtain ⟨k, hk, rfl, hB, hI⟩ := hrel
    by_cases hkn : k < l.length
    · obtain ⟨b, off, rfl, hbl, hel⟩ := hs (by omega)
      have hE : elTrans (· < w.heap.size) wr b (off + k * 3) l[k] := (hel k hkn).move hbl (fun b hb => ⟨hb, hB.block b hb⟩)
      have hN := fun h => hide (any_take l f k hkn (unhide hI) h)
      have HN := hide hN
      have hM : Hid (f l[k] = true → l.any f = true) := fun h => List.any_eq_true.2 ⟨_, List.getElem_mem hkn, h⟩
      have hC := fun va => unhide HF wr va l[k] (List.getElem_mem hkn) hB
      have HC := hide hC
      clear hel hs hI hN hI0 hC
      generalize l[k] = t at *
      have t0 := hE.c0
      have t1 := hE.c1
      obtain ⟨va, t2, hA⟩ := hE.c2
      have CT := hide (unhide HC va hA)
      obtain ⟨aov, capv, rfl, -, -⟩ := hA
      unfold bv at t0
      unfold hv at t1
      clear hE HC
      go_wp2_with fail
      refine (unhide CT).mono ?_
      rintro e w1 ⟨rfl, hb⟩
      have hB2 : Below w.heap.size w w1 := hB.trans (hb.mono hB.size)
      clear hb CT
      cases hf : f t
      · have hN := unhide HN hf
        clear HN hM
        go_wp2
        go_roundw
        case rel => exact ⟨k + 1, by omega, by go_num, hB2, hN⟩
        case measure => simp [intOf]; omega
      · have hM2 := hide (unhide hM hf)
        clear HN hM
        go_wp2
        go_ret
        exact ⟨k, rfl, fun _ => by omega, (fun h => by rw [unhide hM2] at h; cases h), hB2⟩
    · have hkn : k = l.length := by omega
      subst hkn
      have hI2 : Hid (l.any f = false) := by
        have := unhide hI
        rw [List.take_of_length_le (Nat.le_refl _)] at this
        exact this
      clear hs hI hI0
      go_wp2
      go_ret
      exact ⟨-1, rfl, (fun h => by rw [unhide hI2] at h; cases h), fun _ => by omega, hB⟩

theorem contains_any (F : Nat) (ptr : Value) (f : Trans → Bool) (v : Value) (l : List Trans) (w : World) (hl : l.length ≤ 1048576) (h : IsTranses (· < w.heap.size) w v l) (hF : Clo w F ptr f l) (hcf : ∀ args W, (callFunc F args).run Try.prog W = .ok (.enter F args) W) : Calls Try.prog 42 #[v, .func (.func F) #[] #[ptr]] w (AnsNew w (l.any f)) := by
  have CT := hide (index_any F ptr f v l w hl h hF hcf)
  clear hF h
  go_enter Try.func42, Try.ntmps42
  go_wp2_with fail
  refine (unhide CT).mono ?_
  rintro e w1 ⟨i, rfl, h1, h2, hb⟩
  cases hr : l.any f
  · have h3 := h2 hr
    have h4 : decide (i ≥ 0) = false := by simpa using h3
    clear h1 h2 CT
    go_wp2
    go_ret
    exact ⟨by rw [hr]; rfl, hb⟩
  · have h3 := h1 hr
    clear h1 h2 CT
    go_wp2
    go_ret
    exact ⟨by rw [hr]; rfl, hb⟩
theorem cf43 (args : Array Value) (W : World) : (callFunc 43 args).run Try.prog W = .ok (.enter 43 args) W := by kernel_rfl
theorem cf44 (args : Array Value) (W : World) : (callFunc 44 args).run Try.prog W = .ok (.enter 44 args) W := by kernel_rfl

theorem all_take (l : List Trans) (f : Trans → Bool) (k : Nat) (h : k < l.length) (h0 : (l.take k).all f = true) (h1 : f l[k] = true) : (l.take (k + 1)).all f = true := by
  rw [List.take_succ_eq_append_getElem h, List.all_append, h0]
  simp [h1]
theorem all_no (l : List Trans) (f : Trans → Bool) (k : Nat) (h : k < l.length) (h1 : f l[k] = false) : l.all f = false := by
  rw [← Bool.not_eq_true, List.all_eq_true]
  intro h2
  rw [h2 _ (List.getElem_mem h)] at h1
  cases h1

/-- The box of a loop's variable: the transform in it. -/
theorem box_at {w wr W : World} {t : Trans} {va : Value} (hB : Below w.heap.size w wr) (hA : IsAttrs (· < w.heap.size) wr va t.attrs) (hW : Below (wr.alloc (.cells #[bv t.ty, hv t.id, va] 61)).heap.size (wr.alloc (.cells #[bv t.ty, hv t.id, va] 61)) W) :
    elTrans (· < W.heap.size) W wr.heap.size 0 t := by
  have hs := hB.size
  have hs2 := hW.size
  simp at hs2
  refine ⟨?_, ?_, va, ?_, hA.move fun b hb => ⟨by omega, ?_⟩⟩
  · rw [hW.cell (p := ⟨wr.heap.size, 0, none⟩) (by simp)]; simp
  · rw [hW.cell (p := ⟨wr.heap.size, 0 + 1, none⟩) (by simp)]; simp
  · rw [hW.cell (p := ⟨wr.heap.size, 0 + 2, none⟩) (by simp)]; simp
  · rw [hW.block b (by simp; omega), Below.heap_alloc _ _ _ (by omega)]

theorem cloA {w wr : World} {t : Trans} {ao : Option Addr} {n c : Nat} {tm : List Trans} (hB : Below w.heap.size w wr) (hA : IsAttrs (· < w.heap.size) wr (.slice ao n c) t.attrs) :
    Clo (wr.alloc (.cells #[bv t.ty, hv t.id, .slice ao n c] 61)) 43 (.pointer (some ⟨wr.heap.size, 0, none⟩)) (fun x => x.ty == t.ty) tm := by
  intro W va x _ hW hva
  have hE := box_at hB hA hW
  have hs2 := hW.size
  simp at hs2
  obtain ⟨a2, c2, e, -, -⟩ := hva
  exact clo1_any x t.ty va _ _ _ e wr.heap.size W (by omega) hE.c0

theorem cloB {w wr : World} {t : Trans} {ao : Option Addr} {n c : Nat} {tm : List Trans} (hB : Below w.heap.size w wr) (hA : IsAttrs (· < w.heap.size) wr (.slice ao n c) t.attrs) (hl : t.attrs.length ≤ 1048576) :
    Clo (wr.alloc (.cells #[bv t.ty, hv t.id, .slice ao n c] 61)) 44 (.pointer (some ⟨wr.heap.size, 0, none⟩)) (fun x => eqT x t) tm := by
  intro W va x _ hW hva
  have hE := box_at hB hA hW
  have hs2 := hW.size
  have hs3 := hs2
  simp at hs2
  exact clo2_any x t va wr.heap.size W (by omega) (hva.move fun b hb => ⟨by omega, rfl⟩) hE hl

set_option maxHeartbeats 4000000 in
theorem holds_any (v1 v2 : Value) (l tm : List Trans) (w : World) (hl : l.length ≤ 1048576) (hl2 : tm.length ≤ 1048576) (ht : ∀ t ∈ tm, LT 1048576 t) (h1 : IsTranses (· < w.heap.size) w v1 l) (h2 : IsTranses (· < w.heap.size) w v2 tm) :
    Calls Try.prog 35 #[v1, v2] w (AnsNew w (holdsP l tm)) := by
  have H1 := hide h1
  have H2 := hide h2
  have HT := hide ht
  obtain ⟨ao, cap, rfl, -, hs⟩ := h1
  obtain ⟨bo, capb, rfl, -, hsb⟩ := h2
  clear ht
  have hI0 : Hid ((l.take 0).all (fun t => tm.any (fun w => w.ty == t.ty)) = true) := by show _ = _; simp
  go_enter Try.func35, Try.ntmps35
  go_wp2
  go_loopw [11] (fun i wr => ∃ k : Nat, k ≤ l.length ∧ i = .int .i64 k ∧ Below w.heap.size w wr ∧ Hid ((l.take k).all (fun t => tm.any (fun w => w.ty == t.ty)) = true)) (fun i _ => l.length - (intOf i).toNat)
  case atStart => exact ⟨0, Nat.zero_le _, rfl, Below.refl _ _, hI0⟩
  case round =>
    obtain ⟨k, hk, rfl, hB, hI⟩ := hrel
    by_cases hkn : k < l.length
    · obtain ⟨b, off, rfl, hbl, hel⟩ := hs (by omega)
      have hE : elTrans (· < w.heap.size) wr b (off + k * 3) l[k] := (hel k hkn).move hbl (fun b hb => ⟨hb, hB.block b hb⟩)
      have HN := hide (fun h => hide (all_take l (fun t => tm.any (fun w => w.ty == t.ty)) k hkn (unhide hI) h))
      have HM := hide (fun h => hide (all_no l (fun t => tm.any (fun w => w.ty == t.ty)) k hkn h))
      clear hel hs hI hI0 hsb
      generalize l[k] = t at *
      have t0 := hE.c0
      have t1 := hE.c1
      obtain ⟨va, t2, hA⟩ := hE.c2
      have hA' := hA
      obtain ⟨aov, capv, rfl, -, -⟩ := hA'
      have HC := hide (cloA (tm := tm) hB hA)
      have hs0 := hB.size
      have HV : Hid (∀ o : Obj, IsTranses (· < (wr.alloc o).heap.size) (wr.alloc o) (.slice bo tm.length capb) tm) := fun o => (unhide H2).move fun b hb => ⟨by simp; omega, by rw [Below.heap_alloc _ _ _ (by omega), hB.block b hb]⟩
      have HB : Hid (∀ o w1, Below (wr.alloc o).heap.size (wr.alloc o) w1 → Below w.heap.size w w1) := fun o w1 h => (hB.alloc hs0 o).trans (h.mono (by simp; omega))
      clear hE hA
      unfold bv hv at *
      go_wp2_with fail
      refine (contains_any 43 _ _ _ tm _ hl2 (unhide HV _) (unhide HC) cf43).mono ?_
      rintro e w1 ⟨rfl, hb⟩
      have hB2 := unhide HB _ _ hb
      clear hb HC HV HB
      cases hr : tm.any (fun w => w.ty == t.ty)
      · have hM : Hid (holdsP l tm = false) := by
          show _ = _
          unfold holdsP
          rw [unhide (unhide HM hr), Bool.false_and]
        clear HM HN
        go_wp2
        go_ret
        exact ⟨by rw [unhide hM]; rfl, hB2⟩
      · have hN := unhide HN hr
        clear HN HM
        go_wp2
        go_roundw
        case rel => exact ⟨k + 1, by omega, by go_num, hB2, hN⟩
        case measure => simp [intOf]; omega
    · have hkn : k = l.length := by omega
      subst hkn
      have hAll : Hid (holdsP l tm = tm.all (fun w => l.any (fun t => eqT t w))) := by
        have := unhide hI
        rw [List.take_of_length_le (Nat.le_refl _)] at this
        show _ = _
        unfold holdsP
        rw [this, Bool.true_and]
      have hJ0 : Hid ((tm.take 0).all (fun w => l.any (fun t => eqT t w)) = true) := by show _ = _; simp
      obtain ⟨wo, rfl⟩ : ∃ wo, wo = wr := ⟨_, rfl⟩
      clear hs hI hI0 hk
      go_wp2
      go_loopw [22] (fun i wr => ∃ k : Nat, k ≤ tm.length ∧ i = .int .i64 k ∧ Below w.heap.size w wr ∧ Hid ((tm.take k).all (fun w => l.any (fun t => eqT t w)) = true)) (fun i _ => tm.length - (intOf i).toNat)
      case atStart => exact ⟨0, Nat.zero_le _, rfl, hB, hJ0⟩
      case round =>
        clear hB
        obtain ⟨k, hk, rfl, hB, hI⟩ := hrel
        by_cases hkn : k < tm.length
        · obtain ⟨b, off, rfl, hbl, hel⟩ := hsb (by omega)
          have hE : elTrans (· < w.heap.size) wr b (off + k * 3) tm[k] := (hel k hkn).move hbl (fun b hb => ⟨hb, hB.block b hb⟩)
          have HN := hide (fun h => hide (all_take tm (fun w => l.any (fun t => eqT t w)) k hkn (unhide hI) h))
          have HM := hide (fun h => hide (all_no tm (fun w => l.any (fun t => eqT t w)) k hkn h))
          have hLn := (unhide HT _ (List.getElem_mem hkn)).1
          clear hel hI hJ0 hsb
          generalize tm[k] = t at *
          have t0 := hE.c0
          have t1 := hE.c1
          obtain ⟨va, t2, hA⟩ := hE.c2
          have hA' := hA
          obtain ⟨aov, capv, rfl, -, -⟩ := hA'
          have HC := hide (cloB (tm := l) hB hA hLn)
          have hs0 := hB.size
          have HV : Hid (∀ o : Obj, IsTranses (· < (wr.alloc o).heap.size) (wr.alloc o) (.slice ao l.length cap) l) := fun o => (unhide H1).move fun b hb => ⟨by simp; omega, by rw [Below.heap_alloc _ _ _ (by omega), hB.block b hb]⟩
          have HB : Hid (∀ o w1, Below (wr.alloc o).heap.size (wr.alloc o) w1 → Below w.heap.size w w1) := fun o w1 h => (hB.alloc hs0 o).trans (h.mono (by simp; omega))
          clear hE hA
          unfold bv hv at *
          go_wp2_with fail
          refine (contains_any 44 _ _ _ l _ hl (unhide HV _) (unhide HC) cf44).mono ?_
          rintro e w1 ⟨rfl, hb⟩
          have hB2 := unhide HB _ _ hb
          clear hb HC HV HB
          cases hr : l.any (fun x => eqT x t)
          · have hM : Hid (holdsP l tm = false) := by
              show _ = _
              rw [unhide hAll, unhide (unhide HM hr)]
            clear HM HN
            go_wp2
            go_ret
            exact ⟨by rw [unhide hM]; rfl, hB2⟩
          · have hN := unhide HN hr
            clear HN HM
            go_wp2
            go_roundw
            case rel => exact ⟨k + 1, by omega, by go_num, hB2, hN⟩
            case measure => simp [intOf]; omega
        · have hkn : k = tm.length := by omega
          subst hkn
          have hM : Hid (holdsP l tm = true) := by
            have := unhide hI
            rw [List.take_of_length_le (Nat.le_refl _)] at this
            show _ = _
            rw [unhide hAll, this]
          clear hsb hI hJ0 hk hAll
          go_wp2
          go_ret
          exact ⟨by rw [unhide hM]; rfl, hB⟩
end Go.Proofs.Qxb6600910a
