/-
  THE PLAIN LAW for seat b6600910a: transforms, their keys, the order of keys, 'holds'; with no Go in sight.
-/
namespace Go.Proofs.Qxb6600910a

structure Attr where
  ty : UInt16
  tv : Bool
  val : List UInt8
structure Trans where
  ty : UInt8
  id : UInt16
  attrs : List Attr
structure Prp where
  num : UInt8
  proto : UInt8
  spi : List UInt8
  trs : List Trans

/-! ### equality, as the program asks it -/
def eqA (a b : Attr) : Bool := a.ty == b.ty && (a.tv == b.tv && a.val == b.val)
def eqAs : List Attr → List Attr → Bool
  | [], [] => true
  | a :: as, b :: bs => eqA a b && eqAs as bs
  | _, _ => false
def eqT (t u : Trans) : Bool := t.ty == u.ty && (t.id == u.id && eqAs t.attrs u.attrs)

theorem eqA_iff (a b : Attr) : eqA a b = true ↔ a = b := by
  cases a; cases b
  simp [eqA]
theorem eqAs_iff : ∀ (a b : List Attr), eqAs a b = true ↔ a = b
  | [], [] => by simp [eqAs]
  | [], _ :: _ => by simp [eqAs]
  | _ :: _, [] => by simp [eqAs]
  | a :: as, b :: bs => by simp [eqAs, eqA_iff, eqAs_iff as bs]
theorem eqT_iff (t u : Trans) : eqT t u = true ↔ t = u := by
  cases t; cases u
  simp [eqT, eqAs_iff]

/-- What 'holds' answers. -/
def holdsP (l tm : List Trans) : Bool := l.all (fun t => tm.any (fun w => w.ty == t.ty)) && tm.all (fun w => l.any (fun t => eqT t w))

/-! ### the key -/
def be16 (x : UInt16) : List UInt8 := [UInt8.ofNat (x.toNat / 256), UInt8.ofNat (x.toNat % 256)]
def put32 (n : Nat) : List UInt8 := [UInt8.ofNat (n / 16777216 % 256), UInt8.ofNat (n / 65536 % 256), UInt8.ofNat (n / 256 % 256), UInt8.ofNat (n % 256)]
def keyA (a : Attr) : List UInt8 := be16 a.ty ++ ([if a.tv then 1 else 0] ++ (put32 a.val.length ++ a.val))
def key (t : Trans) : List UInt8 := t.ty :: (be16 t.id ++ (put32 t.attrs.length ++ t.attrs.flatMap keyA))

theorem ofNat_inj (a b : Nat) (ha : a < 256) (hb : b < 256) (h : UInt8.ofNat a = UInt8.ofNat b) : a = b := by
  have := congrArg UInt8.toNat h
  simp at this
  omega

theorem be16_inj (x y : UInt16) (r s : List UInt8) (h : be16 x ++ r = be16 y ++ s) : x = y ∧ r = s := by
  simp only [be16, List.cons_append, List.nil_append, List.cons.injEq] at h
  obtain ⟨h1, h2, h3⟩ := h
  have hx := x.toNat_lt
  have hy := y.toNat_lt
  have e1 := ofNat_inj _ _ (by omega) (by omega) h1
  have e2 := ofNat_inj _ _ (by omega) (by omega) h2
  exact ⟨UInt16.toNat.inj (by omega), h3⟩

theorem put32_inj (m n : Nat) (hm : m < 4294967296) (hn : n < 4294967296) (r s : List UInt8) (h : put32 m ++ r = put32 n ++ s) : m = n ∧ r = s := by
  simp only [put32, List.cons_append, List.nil_append, List.cons.injEq] at h
  obtain ⟨h1, h2, h3, h4, h5⟩ := h
  have e1 := ofNat_inj _ _ (by omega) (by omega) h1
  have e2 := ofNat_inj _ _ (by omega) (by omega) h2
  have e3 := ofNat_inj _ _ (by omega) (by omega) h3
  have e4 := ofNat_inj _ _ (by omega) (by omega) h4
  exact ⟨by omega, h5⟩

/-- Each length is a 32-bit number. -/
def okA (a : Attr) : Prop := a.val.length ≤ 1048576
def okT (t : Trans) : Prop := t.attrs.length ≤ 1048576 ∧ ∀ a ∈ t.attrs, okA a

theorem keyA_inj (a b : Attr) (ha : okA a) (hb : okA b) (r s : List UInt8) (h : keyA a ++ r = keyA b ++ s) : a = b ∧ r = s := by
  unfold okA at ha hb
  unfold keyA at h
  simp only [List.append_assoc] at h
  obtain ⟨h1, h2⟩ := be16_inj _ _ _ _ h
  simp only [List.cons_append, List.nil_append, List.cons.injEq] at h2
  obtain ⟨h3, h4⟩ := h2
  obtain ⟨h5, h6⟩ := put32_inj _ _ (by omega) (by omega) _ _ h4
  obtain ⟨h7, h8⟩ := List.append_inj h6 h5
  refine ⟨?_, h8⟩
  cases a; cases b
  simp only [Attr.mk.injEq]
  refine ⟨h1, ?_, h7⟩
  simp only at h3
  rename_i t1 _ _ t2 _
  cases t1 <;> cases t2 <;> simp at h3 ⊢

theorem keyAs_inj : ∀ (as bs : List Attr), as.length = bs.length → (∀ a ∈ as, okA a) → (∀ a ∈ bs, okA a) → as.flatMap keyA = bs.flatMap keyA → as = bs
  | [], [], _, _, _, _ => rfl
  | [], _ :: _, h, _, _, _ => by simp at h
  | _ :: _, [], h, _, _, _ => by simp at h
  | a :: as, b :: bs, h, ha, hb, e => by
    rw [List.flatMap_cons, List.flatMap_cons] at e
    obtain ⟨h1, h2⟩ := keyA_inj a b (ha a (by simp)) (hb b (by simp)) _ _ e
    rw [h1, keyAs_inj as bs (by simpa using h) (fun x hx => ha x (by simp [hx])) (fun x hx => hb x (by simp [hx])) h2]

theorem key_inj (t u : Trans) (ht : okT t) (hu : okT u) (h : key t = key u) : t = u := by
  unfold key at h
  rw [List.cons.injEq] at h
  obtain ⟨h1, h2⟩ := h
  obtain ⟨h3, h4⟩ := be16_inj _ _ _ _ h2
  obtain ⟨h5, h6⟩ := put32_inj _ _ (by have := ht.1; omega) (by have := hu.1; omega) _ _ h4
  have h7 := keyAs_inj _ _ h5 ht.2 hu.2 h6
  cases t; cases u
  simp_all

/-! ### 'holds' over a template of distinct types is 'a permutation of it' -/
theorem perm_of_subset {α : Type} : ∀ (tm l : List α), tm.Nodup → (∀ x ∈ tm, x ∈ l) → l.length = tm.length → l.Perm tm
  | [], l, _, _, h => by
    have : l = [] := List.eq_nil_of_length_eq_zero h
    subst this; exact List.Perm.refl _
  | w :: tm, l, hn, hs, h => by
    obtain ⟨s, t, rfl⟩ := List.append_of_mem (hs w (by simp))
    have hw : ∀ x ∈ tm, x ≠ w := fun x hx e => by
      subst e
      exact (List.nodup_cons.1 hn).1 hx
    have ih := perm_of_subset tm (s ++ t) (List.nodup_cons.1 hn).2 (fun x hx => by
      have := hs x (by simp [hx])
      simp only [List.mem_append, List.mem_cons] at this ⊢
      rcases this with h1 | h1 | h1
      · exact .inl h1
      · exact absurd h1 (hw x hx)
      · exact .inr h1) (by simp at h ⊢; omega)
    exact List.perm_middle.trans (List.Perm.cons w ih)

theorem nodup_of_map {α β : Type} (f : α → β) (l : List α) (h : (l.map f).Nodup) : l.Nodup := by
  induction l with
  | nil => exact List.nodup_nil
  | cons a l ih =>
    rw [List.map_cons, List.nodup_cons] at h
    rw [List.nodup_cons]
    exact ⟨fun hm => h.1 (List.mem_map_of_mem hm), ih h.2⟩

theorem accept_iff (l tm : List Trans) (hn : (tm.map Trans.ty).Nodup) (hl : ∀ t ∈ l, okT t) (ht : ∀ t ∈ tm, okT t) :
    (l.length = tm.length ∧ holdsP l tm = true) ↔ (l.map key).Perm (tm.map key) := by
  constructor
  · rintro ⟨h1, h2⟩
    unfold holdsP at h2
    rw [Bool.and_eq_true] at h2
    have hs : ∀ x ∈ tm, x ∈ l := fun x hx => by
      have := List.all_eq_true.1 h2.2 x hx
      obtain ⟨t, htm, he⟩ := List.any_eq_true.1 this
      rw [eqT_iff] at he
      subst he
      exact htm
    exact (perm_of_subset tm l (nodup_of_map _ _ hn) hs h1).map key
  · intro hp
    refine ⟨by simpa using hp.length_eq, ?_⟩
    have h1 : ∀ x ∈ tm, x ∈ l := fun x hx => by
      have := hp.mem_iff.2 (List.mem_map_of_mem (f := key) hx)
      obtain ⟨t, htl, he⟩ := List.mem_map.1 this
      rw [← key_inj t x (hl t htl) (ht x hx) he]
      exact htl
    have h2 : ∀ x ∈ l, x ∈ tm := fun x hx => by
      have := hp.mem_iff.1 (List.mem_map_of_mem (f := key) hx)
      obtain ⟨t, htl, he⟩ := List.mem_map.1 this
      rw [← key_inj t x (ht t htl) (hl x hx) he]
      exact htl
    unfold holdsP
    rw [Bool.and_eq_true]
    refine ⟨List.all_eq_true.2 fun t htl => List.any_eq_true.2 ⟨t, h2 t htl, by simp⟩, List.all_eq_true.2 fun t htm => List.any_eq_true.2 ⟨t, h1 t htm, (eqT_iff t t).2 rfl⟩⟩

/-! ### the order of keys -/
def cmpL : List UInt8 → List UInt8 → Int
  | [], [] => 0
  | [], _ :: _ => -1
  | _ :: _, [] => 1
  | x :: xs, y :: ys => if x = y then cmpL xs ys else if x < y then -1 else 1

theorem cmpL_self : ∀ a, cmpL a a = 0
  | [] => rfl
  | x :: xs => by simp [cmpL, cmpL_self xs]
theorem cmpL_zero : ∀ a b, cmpL a b = 0 → a = b
  | [], [], _ => rfl
  | [], _ :: _, h => by simp [cmpL] at h
  | _ :: _, [], h => by simp [cmpL] at h
  | x :: xs, y :: ys, h => by
    unfold cmpL at h
    split at h
    · rename_i e; rw [e, cmpL_zero xs ys h]
    · split at h <;> simp at h
theorem cmpL_antisymm : ∀ a b, cmpL a b = - cmpL b a
  | [], [] => rfl
  | [], _ :: _ => rfl
  | _ :: _, [] => rfl
  | x :: xs, y :: ys => by
    unfold cmpL
    by_cases e : x = y
    · rw [if_pos e, if_pos e.symm]; exact cmpL_antisymm xs ys
    · have e' : ¬ y = x := fun h => e h.symm
      rw [if_neg e, if_neg e']
      by_cases h : x < y
      · rw [if_pos h, if_neg (by rw [UInt8.lt_iff_toNat_lt] at h ⊢; omega)]
      · have : y < x := by
          rw [UInt8.lt_iff_toNat_lt] at h ⊢
          have : x.toNat ≠ y.toNat := fun h' => e (UInt8.toNat.inj h')
          omega
        rw [if_neg h, if_pos this]; decide
theorem cmpL_range : ∀ a b, cmpL a b = -1 ∨ cmpL a b = 0 ∨ cmpL a b = 1
  | [], [] => by simp [cmpL]
  | [], _ :: _ => by simp [cmpL]
  | _ :: _, [] => by simp [cmpL]
  | x :: xs, y :: ys => by
    unfold cmpL
    split
    · exact cmpL_range xs ys
    · split <;> simp
theorem cmpL_trans : ∀ a b c, cmpL a b ≤ 0 → cmpL b c ≤ 0 → cmpL a c ≤ 0
  | [], _, [], _, _ => by simp [cmpL]
  | [], _, _ :: _, _, _ => by simp [cmpL]
  | _ :: _, [], _, h, _ => by simp [cmpL] at h
  | _ :: _, _ :: _, [], _, h => by simp [cmpL] at h
  | x :: xs, y :: ys, z :: zs, h1, h2 => by
    unfold cmpL at h1 h2 ⊢
    by_cases e1 : x = y
    · subst e1
      rw [if_pos rfl] at h1
      by_cases e2 : x = z
      · rw [if_pos e2] at h2 ⊢; exact cmpL_trans xs ys zs h1 h2
      · rw [if_neg e2] at h2 ⊢; exact h2
    · rw [if_neg e1] at h1
      split at h1
      · rename_i hlt
        by_cases e2 : y = z
        · subst e2; rw [if_neg e1, if_pos hlt]; decide
        · rw [if_neg e2] at h2
          split at h2
          · rename_i hlt2
            have h3 : x < z := by rw [UInt8.lt_iff_toNat_lt] at *; omega
            have h4 : x ≠ z := fun e => by subst e; rw [UInt8.lt_iff_toNat_lt] at *; omega
            rw [if_neg h4, if_pos h3]; decide
          · simp at h2
      · simp at h1

/-- Two sorted lists of keys are one where they are permutations of each other. -/
theorem sorted_eq (a b : List (List UInt8)) (ha : a.Pairwise (fun x y => cmpL x y ≤ 0)) (hb : b.Pairwise (fun x y => cmpL x y ≤ 0)) (h : a.Perm b) : a = b :=
  List.Perm.eq_of_pairwise (fun x y _ _ h1 h2 => by
    have := cmpL_antisymm x y
    exact cmpL_zero x y (by omega)) ha hb h

end Go.Proofs.Qxb6600910a
