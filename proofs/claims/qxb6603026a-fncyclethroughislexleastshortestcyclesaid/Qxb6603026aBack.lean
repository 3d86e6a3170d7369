/-
  THE PLAIN LAW of the backward search: the fewest edges to f through inner nodes; no Go in sight.
-/
import Derived.Test.Qxb6603026aEdges
namespace Go.Proofs.Qxb6603026a

theorem nodup_le : ∀ (n : Nat) (l : List Nat), l.Nodup → (∀ x ∈ l, x < n) → l.length ≤ n
  | 0, l, _, h => by
    cases l with
    | nil => simp
    | cons a l => have := h a (by simp); omega
  | n + 1, l, hn, h => by
    have h1 := nodup_le n (l.erase n) (hn.erase n) (fun x hx => by
      have := (hn.mem_erase_iff).1 hx
      have h2 := h x this.2
      have := this.1
      omega)
    rw [List.length_erase] at h1
    split at h1 <;> omega

def row (R : List (List Nat)) (v : Nat) : List Nat := R.getD v []
theorem row_at {R : List (List Nat)} {v : Nat} (h : v < R.length) : row R v = R[v] := getD_row R v h

/-- d edges from v to f, all nodes but f inner. -/
def To (R : List (List Nat)) (f : Nat) (I : Nat → Bool) : Nat → Nat → Prop
  | 0, v => v = f
  | d + 1, v => I v = true ∧ ∃ u, u ∈ row R v ∧ To R f I d u

theorem To.inner {R : List (List Nat)} {f : Nat} {I : Nat → Bool} {d v : Nat} (h : To R f I (d + 1) v) : I v = true := h.1

/-- The backward search: Q queued, h of it done, T the numbers. -/
structure Back (R : List (List Nat)) (f : Nat) (I : Nat → Bool) (Q : List Nat) (T : Nat → Nat) (h : Nat) : Prop where
  inq : ∀ v, v < R.length → (0 < T v ↔ v ∈ Q)
  lt : ∀ v ∈ Q, v < R.length
  nodup : Q.Nodup
  sound : ∀ v ∈ Q, To R f I (T v) v
  one : ∀ v, v < R.length → To R f I 1 v → T v = 1
  mono : ∀ i j, i ≤ j → j < Q.length → T (Q.getD i 0) ≤ T (Q.getD j 0)
  top : ∀ j, j < Q.length → h < Q.length → T (Q.getD j 0) ≤ T (Q.getD h 0) + 1
  bnd : ∀ j, j < Q.length → T (Q.getD j 0) ≤ j + 1
  fin : ∀ i, i < h → i < Q.length → ∀ u, u < R.length → I u = true → Q.getD i 0 ∈ row R u → 0 < T u ∧ T u ≤ T (Q.getD i 0) + 1

theorem getD_mem {Q : List Nat} {i : Nat} (h : i < Q.length) : Q.getD i 0 ∈ Q := by
  rw [List.getD_eq_getElem?_getD, List.getElem?_eq_getElem h]; exact List.getElem_mem h
theorem getD_append {Q : List Nat} {i u : Nat} (h : i < Q.length) : (Q ++ [u]).getD i 0 = Q.getD i 0 := by
  simp only [List.getD_eq_getElem?_getD, List.getElem?_append_left h]
theorem getD_last {Q : List Nat} {u : Nat} : (Q ++ [u]).getD Q.length 0 = u := by
  simp [List.getD_eq_getElem?_getD]

/-- While node Q[h]'s predecessors are gone through: those that came are numbered. -/
def Part (I : Nat → Bool) (Q : List Nat) (T : Nat → Nat) (h : Nat) (us : Nat → Prop) : Prop := ∀ u, us u → I u = true → 0 < T u ∧ T u ≤ T (Q.getD h 0) + 1

theorem Back.size {R : List (List Nat)} {f : Nat} {I : Nat → Bool} {Q : List Nat} {T : Nat → Nat} {h : Nat} (b : Back R f I Q T h) : Q.length ≤ R.length := nodup_le _ _ b.nodup b.lt

theorem Back.add {R : List (List Nat)} {f : Nat} {I : Nat → Bool} {Q : List Nat} {T : Nat → Nat} {h : Nat} (b : Back R f I Q T h) (hh : h < Q.length) {u : Nat} (hu : u < R.length) (hI : I u = true) (h0 : T u = 0) (hw : Q.getD h 0 ∈ row R u) :
    Back R f I (Q ++ [u]) (fun x => if x = u then T (Q.getD h 0) + 1 else T x) h := by
  have hnq : u ∉ Q := fun hm => by have := (b.inq u hu).2 hm; omega
  have hT : ∀ v ∈ Q, (if v = u then T (Q.getD h 0) + 1 else T v) = T v := fun v hv => if_neg (fun (e : v = u) => hnq (e ▸ hv))
  have hg : ∀ i, i < Q.length → (if Q.getD i 0 = u then T (Q.getD h 0) + 1 else T (Q.getD i 0)) = T (Q.getD i 0) := fun i hi => hT _ (getD_mem hi)
  refine ⟨fun v hv => ?_, fun v hv => ?_, ?_, fun v hv => ?_, fun v hv h1 => ?_, fun i j hij hj => ?_, fun j hj _ => ?_, fun j hj => ?_, fun i hi hil x hx hIx hm => ?_⟩
  · by_cases e : v = u
    · subst e; simp
    · rw [if_neg e, b.inq v hv]; simp [e]
  · rcases List.mem_append.1 hv with h1 | h1
    · exact b.lt v h1
    · simp at h1; subst h1; exact hu
  · rw [List.nodup_append]
    refine ⟨b.nodup, by simp, fun a ha c hc => ?_⟩
    simp at hc
    subst hc
    exact fun e => hnq (e ▸ ha)
  · rcases List.mem_append.1 hv with h1 | h1
    · rw [hT v h1]; exact b.sound v h1
    · simp at h1
      subst h1
      rw [if_pos rfl]
      exact ⟨hI, _, hw, b.sound _ (getD_mem hh)⟩
  · by_cases e : v = u
    · subst e; have := b.one v hv h1; omega
    · rw [if_neg e]; exact b.one v hv h1
  · simp only [List.length_append, List.length_singleton] at hj
    by_cases ej : j = Q.length
    · subst ej
      rw [getD_last, if_pos rfl]
      by_cases ei : i = Q.length
      · subst ei; rw [getD_last, if_pos rfl]; exact Nat.le_refl _
      · rw [getD_append (by omega), hg i (by omega)]
        exact b.top i (by omega) hh
    · rw [getD_append (by omega), getD_append (by omega), hg i (by omega), hg j (by omega)]
      exact b.mono i j hij (by omega)
  · simp only [List.length_append, List.length_singleton] at hj
    rw [getD_append hh, hg h hh]
    by_cases ej : j = Q.length
    · subst ej; rw [getD_last, if_pos rfl]; exact Nat.le_refl _
    · rw [getD_append (by omega), hg j (by omega)]; exact b.top j (by omega) hh
  · simp only [List.length_append, List.length_singleton] at hj
    by_cases ej : j = Q.length
    · subst ej; rw [getD_last, if_pos rfl]; have := b.bnd h hh; omega
    · rw [getD_append (by omega), hg j (by omega)]; exact b.bnd j (by omega)
  · rw [getD_append (by omega)] at hm ⊢
    rw [hg i (by omega)]
    have := b.fin i hi (by omega) x hx hIx hm
    by_cases e : x = u
    · subst e; omega
    · rw [if_neg e]; exact this

theorem Part.add {R : List (List Nat)} {f : Nat} {I : Nat → Bool} {Q : List Nat} {T : Nat → Nat} {h : Nat} {us : Nat → Prop} (b : Back R f I Q T h) (p : Part I Q T h us) (hh : h < Q.length) {u : Nat} (hu : u < R.length) (h0 : T u = 0) :
    Part I (Q ++ [u]) (fun x => if x = u then T (Q.getD h 0) + 1 else T x) h (fun x => us x ∨ x = u) := by
  have hnq : u ∉ Q := fun hm => by have := (b.inq u hu).2 hm; omega
  have hne : Q.getD h 0 ≠ u := fun e => hnq (e ▸ getD_mem hh)
  intro x hx hI
  simp only [getD_append hh, hne, if_false]
  by_cases e : x = u
  · subst e; simp
  · rw [if_neg e]
    rcases hx with h1 | h1
    · exact p x h1 hI
    · exact absurd h1 e
theorem Part.skip {R : List (List Nat)} {f : Nat} {I : Nat → Bool} {Q : List Nat} {T : Nat → Nat} {h : Nat} {us : Nat → Prop} (b : Back R f I Q T h) (p : Part I Q T h us) (hh : h < Q.length) {u : Nat} (hu : u < R.length) (h0 : I u = true → 0 < T u) :
    Part I Q T h (fun x => us x ∨ x = u) := by
  intro x hx hI
  rcases hx with h1 | h1
  · exact p x h1 hI
  · subst h1
    have h2 := h0 hI
    refine ⟨h2, ?_⟩
    obtain ⟨j, hj, e⟩ := List.getElem_of_mem ((b.inq x hu).1 h2)
    have := b.top j hj hh
    have e2 : Q.getD j 0 = x := by rw [List.getD_eq_getElem?_getD, List.getElem?_eq_getElem hj]; exact e
    rwa [e2] at this
theorem Part.mono {I : Nat → Bool} {Q : List Nat} {T : Nat → Nat} {h : Nat} {us us' : Nat → Prop} (p : Part I Q T h us) (hu : ∀ u, us' u → us u) : Part I Q T h us' := fun u h1 h2 => p u (hu u h1) h2
theorem Back.next {R : List (List Nat)} {f : Nat} {I : Nat → Bool} {Q : List Nat} {T : Nat → Nat} {h : Nat} {us : Nat → Prop} (b : Back R f I Q T h) (p : Part I Q T h us) (hh : h < Q.length) (hus : ∀ u, u < R.length → Q.getD h 0 ∈ row R u → us u) : Back R f I Q T (h + 1) := by
  refine ⟨b.inq, b.lt, b.nodup, b.sound, b.one, b.mono, fun j hj h1 => ?_, b.bnd, fun i hi hil u hu hI hm => ?_⟩
  · have := b.top j hj hh
    have := b.mono h (h + 1) (by omega) h1
    omega
  · by_cases e : i = h
    · subst e; exact p u (hus u hu hm) hI
    · exact b.fin i (by omega) hil u hu hI hm

/-- What the numbers tell. -/
structure Nums (R : List (List Nat)) (f : Nat) (I : Nat → Bool) (T : Nat → Nat) : Prop where
  sound : ∀ v, v < R.length → 0 < T v → To R f I (T v) v
  least : ∀ d v, v < R.length → To R f I (d + 1) v → 0 < T v ∧ T v ≤ d + 1

theorem Back.nums {R : List (List Nat)} {f : Nat} {I : Nat → Bool} {Q : List Nat} {T : Nat → Nat} {h : Nat} (b : Back R f I Q T h) (hh : Q.length ≤ h) (hR : ∀ r ∈ R, ∀ x ∈ r, x < R.length) : Nums R f I T := by
  refine ⟨fun v hv h0 => b.sound v ((b.inq v hv).1 h0), fun d => ?_⟩
  induction d with
  | zero => intro v hv h1; have := b.one v hv h1; omega
  | succ d ih =>
    intro v hv h1
    obtain ⟨hI, u, hu, h2⟩ := h1
    have hun : u < R.length := by rw [row_at hv] at hu; exact hR _ (List.getElem_mem hv) u hu
    obtain ⟨h3, h4⟩ := ih u hun h2
    obtain ⟨j, hj, e⟩ := List.getElem_of_mem ((b.inq u hun).1 h3)
    have e2 : Q.getD j 0 = u := by rw [List.getD_eq_getElem?_getD, List.getElem?_eq_getElem hj]; exact e
    have := b.fin j (by omega) hj v hv hI (by rw [e2]; exact hu)
    rw [e2] at this
    omega

theorem Back.cap {R : List (List Nat)} {f : Nat} {I : Nat → Bool} {Q : List Nat} {T : Nat → Nat} {h : Nat} (b : Back R f I Q T h) (v : Nat) (hv : v < R.length) : T v ≤ R.length := by
  by_cases h0 : 0 < T v
  · obtain ⟨j, hj, e⟩ := List.getElem_of_mem ((b.inq v hv).1 h0)
    have e2 : Q.getD j 0 = v := by rw [List.getD_eq_getElem?_getD, List.getElem?_eq_getElem hj]; exact e
    have h1 := b.bnd j hj
    have h2 := b.size
    rw [e2] at h1
    omega
  · omega

/-- One step down: a node with number d+2 has a next one with number d+1. -/
theorem Nums.down {R : List (List Nat)} {f : Nat} {I : Nat → Bool} {T : Nat → Nat} (h : Nums R f I T) (hR : ∀ r ∈ R, ∀ x ∈ r, x < R.length) {v d : Nat} (hv : v < R.length) (hT : T v = d + 2) : ∃ u, u ∈ row R v ∧ I u = true ∧ T u = d + 1 := by
  have h1 := h.sound v hv (by omega)
  rw [hT] at h1
  obtain ⟨hI, u, hu, h2⟩ := h1
  have hun : u < R.length := by rw [row_at hv] at hu; exact hR _ (List.getElem_mem hv) u hu
  obtain ⟨h3, h4⟩ := h.least d u hun h2
  refine ⟨u, hu, h2.1, ?_⟩
  have h5 := h.sound u hun h3
  have h6 := h.least (T u) v hv ⟨hI, u, hu, h5⟩
  omega

/-! ### the first nodes -/
/-- The nodes below v with an edge to f are queued. -/
structure First (R : List (List Nat)) (f : Nat) (I : Nat → Bool) (Q : List Nat) (T : Nat → Nat) (v : Nat) : Prop where
  inq : ∀ x, x < R.length → (0 < T x ↔ x ∈ Q)
  lt : ∀ x ∈ Q, x < v
  nodup : Q.Nodup
  one : ∀ x ∈ Q, T x = 1 ∧ To R f I 1 x
  all : ∀ x, x < v → To R f I 1 x → x ∈ Q

theorem First.start (R : List (List Nat)) (f : Nat) (I : Nat → Bool) : First R f I [] (fun _ => 0) 0 :=
  ⟨fun x _ => by simp, fun x h => by simp at h, List.nodup_nil, fun x h => by simp at h, fun x h => by omega⟩
theorem First.add {R : List (List Nat)} {f : Nat} {I : Nat → Bool} {Q : List Nat} {T : Nat → Nat} {v : Nat} (h : First R f I Q T v) (h1 : To R f I 1 v) : First R f I (Q ++ [v]) (fun x => if x = v then 1 else T x) (v + 1) := by
  have hnq : v ∉ Q := fun hm => by have := h.lt v hm; omega
  refine ⟨fun x hx => ?_, fun x hx => ?_, ?_, fun x hx => ?_, fun x hx h2 => ?_⟩
  · by_cases e : x = v
    · subst e; simp
    · rw [if_neg e, h.inq x hx]; simp [e]
  · rcases List.mem_append.1 hx with h2 | h2
    · have := h.lt x h2; omega
    · simp at h2; omega
  · rw [List.nodup_append]
    refine ⟨h.nodup, by simp, fun a ha c hc => ?_⟩
    simp at hc
    subst hc
    exact fun e => hnq (e ▸ ha)
  · rcases List.mem_append.1 hx with h2 | h2
    · rw [if_neg (fun (e : x = v) => hnq (e ▸ h2))]; exact h.one x h2
    · simp at h2; subst h2; rw [if_pos rfl]; exact ⟨rfl, h1⟩
  · by_cases e : x = v
    · subst e; simp
    · exact List.mem_append.2 (.inl (h.all x (by omega) h2))
theorem First.skip {R : List (List Nat)} {f : Nat} {I : Nat → Bool} {Q : List Nat} {T : Nat → Nat} {v : Nat} (h : First R f I Q T v) (h1 : ¬ To R f I 1 v) : First R f I Q T (v + 1) :=
  ⟨h.inq, fun x hx => by have := h.lt x hx; omega, h.nodup, h.one, fun x hx h2 => by
    by_cases e : x = v
    · subst e; exact absurd h2 h1
    · exact h.all x (by omega) h2⟩
theorem First.back {R : List (List Nat)} {f : Nat} {I : Nat → Bool} {Q : List Nat} {T : Nat → Nat} (h : First R f I Q T R.length) : Back R f I Q T 0 := by
  have h1 : ∀ i, i < Q.length → T (Q.getD i 0) = 1 := fun i hi => (h.one _ (getD_mem hi)).1
  refine ⟨h.inq, h.lt, h.nodup, fun v hv => ?_, fun v hv h2 => (h.one v (h.all v hv h2)).1, fun i j hij hj => ?_, fun j hj h0 => ?_, fun j hj => by rw [h1 j hj]; omega, fun i hi => by omega⟩
  · obtain ⟨e, h2⟩ := h.one v hv
    rw [e]; exact h2
  · rw [h1 i (by omega), h1 j hj]; exact Nat.le_refl _
  · rw [h1 j hj, h1 0 h0]; omega
end Go.Proofs.Qxb6603026a
