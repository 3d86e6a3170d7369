/-
  THE PLAIN LAW: what the wanted chain is; the forward search finds it. No Go in sight.
-/
import Derived.Test.Qxb6603026aBack
namespace Go.Proofs.Qxb6603026a

/-- What the answer is: I inner, T the numbers, l the chain without its end. -/
structure WantOk (R : List (List Nat)) (f : Nat) (I : Nat → Bool) (T : Nat → Nat) (l : List Nat) : Prop where
  nums : Nums R f I T
  pos : 0 < l.length
  head : l.getD 0 0 = f
  loop : f ∈ row R f → l.length = 1
  far : f ∉ row R f → ∀ u ∈ row R f, I u = true → 0 < T u → l.length ≤ T u + 1
  two : l.length = 1 → f ∈ row R f
  step : ∀ i, i + 1 < l.length → (row R (l.getD i 0)).find? (fun u => I u && T u == l.length - 1 - i) = some (l.getD (i + 1) 0)

/-- d edges from f to v, all nodes behind f inner. -/
def Fw (R : List (List Nat)) (f : Nat) (I : Nat → Bool) : Nat → Nat → Prop
  | 0, v => v = f
  | d + 1, v => I v = true ∧ ∃ u, Fw R f I d u ∧ v ∈ row R u

section
variable {R : List (List Nat)} {f : Nat} {I : Nat → Bool} {T : Nat → Nat} {l : List Nat}

theorem WantOk.least (h : WantOk R f I T l) (hR : ∀ r ∈ R, ∀ x ∈ r, x < R.length) (hf : f < R.length) (hI : I f = false) : ∀ d e v, v < R.length → Fw R f I d v → To R f I (e + 1) v → l.length ≤ d + e + 1
  | 0, e, v, _, hF, hT => by
    have : v = f := hF
    subst this
    have := hT.1
    rw [hI] at this
    cases this
  | 1, e, v, hv, hF, hT => by
    obtain ⟨hIv, u, hu, hm⟩ := hF
    have : u = f := hu
    subst this
    obtain ⟨h1, h2⟩ := h.nums.least e v hv hT
    by_cases hff : u ∈ row R u
    · have := h.loop hff; omega
    · have := h.far hff v hm hIv h1; omega
  | d + 2, e, v, hv, hF, hT => by
    obtain ⟨hIv, u, hu, hm⟩ := hF
    have hun : u < R.length := by
      by_cases h1 : u < R.length
      · exact h1
      · unfold row at hm
        rw [List.getD_eq_getElem?_getD, List.getElem?_eq_none (by omega)] at hm
        simp at hm
    have := WantOk.least h hR hf hI (d + 1) (e + 1) u hun hu ⟨hu.1, v, hm, hT⟩
    omega

/-- The chain's nodes. -/
theorem WantOk.node (h : WantOk R f I T l) (hR : ∀ r ∈ R, ∀ x ∈ r, x < R.length) (hf : f < R.length) : ∀ i, i < l.length → l.getD i 0 < R.length
  | 0, _ => by rw [h.head]; exact hf
  | i + 1, hi => by
    have h1 := WantOk.node h hR hf i (by omega)
    have h2 := List.mem_of_find?_eq_some (h.step i hi)
    rw [row_at h1] at h2
    exact hR _ (List.getElem_mem h1) _ h2
theorem WantOk.num (h : WantOk R f I T l) (i : Nat) (hi : i + 1 < l.length) : I (l.getD (i + 1) 0) = true ∧ T (l.getD (i + 1) 0) = l.length - 1 - i := by
  have h3 := List.find?_some (h.step i hi)
  simpa only [Bool.and_eq_true, beq_iff_eq] using h3
theorem WantOk.far_to (h : WantOk R f I T l) (hR : ∀ r ∈ R, ∀ x ∈ r, x < R.length) (hf : f < R.length) (i : Nat) (hi : i + 1 < l.length) : To R f I (l.length - 1 - i) (l.getD (i + 1) 0) := by
  obtain ⟨h1, h2⟩ := h.num i hi
  have := h.nums.sound _ (h.node hR hf (i + 1) hi) (by omega)
  rwa [h2] at this

/-- The forward search: Q queued in all, h done, dp the depths; the chain's node r lies at place k. -/
structure Fwd (R : List (List Nat)) (f : Nat) (I : Nat → Bool) (l Q : List Nat) (dp : Nat → Nat) (C : Nat → Nat) (h r k : Nat) : Prop where
  lt : ∀ v ∈ Q, v < R.length
  nodup : Q.Nodup
  fw : ∀ j, j < Q.length → Fw R f I (dp j) (Q.getD j 0)
  mono : ∀ i j, i ≤ j → j < Q.length → dp i ≤ dp j
  top : ∀ j, j < Q.length → dp j ≤ dp h + 1
  hk : h ≤ k
  kl : k < Q.length
  at_k : Q.getD k 0 = l.getD r 0
  dp_k : dp k = r
  rl : r < l.length
  bad : ∀ j, j < k → dp j = r → ¬ To R f I (l.length - r) (Q.getD j 0)
  bad' : ∀ j, j < Q.length → dp j = r + 1 → r + 1 < l.length → ¬ To R f I (l.length - r - 1) (Q.getD j 0)
  inq : ∀ i, i ≤ r → l.getD i 0 ∈ Q
  cam : ∀ i, i < r → C (l.getD (i + 1) 0) = l.getD i 0

theorem getD_inj {Q : List Nat} (hn : Q.Nodup) {i j : Nat} (hi : i < Q.length) (hj : j < Q.length) (e : Q.getD i 0 = Q.getD j 0) : i = j := by
  rw [List.getD_eq_getElem?_getD, List.getD_eq_getElem?_getD, List.getElem?_eq_getElem hi, List.getElem?_eq_getElem hj] at e
  have hp := List.pairwise_iff_getElem.1 hn
  rcases Nat.lt_trichotomy i j with h | h | h
  · exact absurd e (hp i j hi hj h)
  · exact h
  · exact absurd e.symm (hp j i hj hi h)

theorem Fwd.start (hw : WantOk R f I T l) (hf : f < R.length) (C : Nat → Nat) : Fwd R f I l [f] (fun _ => 0) C 0 0 0 := by
  have hp := hw.pos
  refine ⟨fun v hv => by simp at hv; omega, by simp, fun j hj => ?_, fun i j _ _ => Nat.le_refl _, fun j _ => by omega, Nat.le_refl _, by simp, hw.head.symm, rfl, hp, fun j hj => by omega, fun j _ h => by omega, fun i hi => ?_, fun i hi => by omega⟩
  · simp at hj; subst hj; rfl
  · have : i = 0 := by omega
    subst this
    rw [hw.head]; simp

variable {Q : List Nat} {dp C : Nat → Nat} {h r k : Nat}

/-- A node at place h below k is no f, or h is k. -/
theorem Fwd.inner (s : Fwd R f I l Q dp C h r k) (hw : WantOk R f I T l) (hd : dp h = r) (hne : h < k) : I (Q.getD h 0) = true := by
  have h1 := s.fw h (by have := s.kl; omega)
  cases hr : dp h with
  | zero =>
    rw [hr] at h1
    have h2 : Q.getD h 0 = f := h1
    have h3 := s.at_k
    have h4 : r = 0 := by omega
    subst h4
    rw [hw.head] at h3
    have := getD_inj s.nodup (by have := s.kl; omega) s.kl (h2.trans h3.symm)
    omega
  | succ d => rw [hr] at h1; exact h1.1

/-- Where the row of place h holds f: h is k, and the chain is whole. -/
theorem Fwd.hit (s : Fwd R f I l Q dp C h r k) (hw : WantOk R f I T l) (hR : ∀ r ∈ R, ∀ x ∈ r, x < R.length) (hf : f < R.length) (hI : I f = false) (hm : f ∈ row R (Q.getD h 0)) : h = k ∧ r + 1 = l.length := by
  have hkl := s.kl
  have hhk := s.hk
  have hrl := s.rl
  have hdk := s.dp_k
  have hmo := s.mono h k hhk hkl
  have hx := s.lt _ (getD_mem (by omega : h < Q.length))
  have hfw := s.fw h (by omega)
  cases hr : dp h with
  | zero =>
    rw [hr] at hfw
    have h2 : Q.getD h 0 = f := hfw
    rw [h2] at hm
    have h3 := hw.loop hm
    have h4 : r = 0 := by omega
    have h5 := s.at_k
    rw [h4, hw.head] at h5
    have := getD_inj s.nodup (by omega) hkl (h2.trans h5.symm)
    omega
  | succ d =>
    rw [hr] at hfw
    have h1 : To R f I 1 (Q.getD h 0) := ⟨hfw.1, f, hm, rfl⟩
    have h2 := hw.least hR hf hI (d + 1) 0 _ hx hfw h1
    have h3 : dp h = r := by omega
    refine ⟨?_, by omega⟩
    rcases Nat.lt_or_ge h k with h4 | h4
    · have h5 := s.bad h h4 h3
      rw [show l.length - r = 1 by omega] at h5
      exact absurd h1 h5
    · omega

/-- At place k, the chain not yet whole: the next node is not queued. -/
theorem Fwd.fresh (s : Fwd R f I l Q dp C h r k) (hw : WantOk R f I T l) (hR : ∀ r ∈ R, ∀ x ∈ r, x < R.length) (hf : f < R.length) (hI : I f = false) (hh : h = k) (hr : r + 1 < l.length) : l.getD (r + 1) 0 ∉ Q := by
  intro hm
  obtain ⟨j, hj, e⟩ := List.getElem_of_mem hm
  have e2 : Q.getD j 0 = l.getD (r + 1) 0 := by rw [List.getD_eq_getElem?_getD, List.getElem?_eq_getElem hj]; exact e
  have h1 := hw.far_to hR hf r hr
  have h2 := s.fw j hj
  rw [e2] at h2
  obtain ⟨d, hd⟩ : ∃ d, l.length - 1 - r = d + 1 := ⟨l.length - 1 - r - 1, by omega⟩
  have h1' := h1
  rw [hd] at h1
  have h3 := hw.least hR hf hI (dp j) d _ (hw.node hR hf _ hr) h2 h1
  have h4 := s.top j hj
  have h5 := s.dp_k
  rw [hh, h5] at h4
  have h6 := s.bad' j hj (by omega) hr
  rw [e2, show l.length - r - 1 = l.length - 1 - r by omega] at h6
  exact h6 h1'

/-- A node is queued that is not the chain's next one. -/
theorem Fwd.add (s : Fwd R f I l Q dp C h r k) (hw : WantOk R f I T l) (hR : ∀ r ∈ R, ∀ x ∈ r, x < R.length) (hf : f < R.length) (hI : I f = false) {u : Nat} (hu : u < R.length) (hIu : I u = true) (hq : u ∉ Q) (hm : u ∈ row R (Q.getD h 0))
    (hn : h = k → r + 1 < l.length → T u ≠ l.length - 1 - r) : Fwd R f I l (Q ++ [u]) (fun j => if j = Q.length then dp h + 1 else dp j) (fun x => if x = u then Q.getD h 0 else C x) h r k := by
  have hkl := s.kl
  have hhk := s.hk
  have hd : ∀ j, j < Q.length → (if j = Q.length then dp h + 1 else dp j) = dp j := fun j hj => if_neg (by omega)
  have hfu : Fw R f I (dp h + 1) u := ⟨hIu, _, s.fw h (by omega), hm⟩
  refine ⟨fun v hv => ?_, ?_, fun j hj => ?_, fun i j hij hj => ?_, fun j hj => ?_, hhk, ?_, ?_, ?_, s.rl, fun j hj hr => ?_, fun j hj hr hrl => ?_, fun i hi => List.mem_append.2 (.inl (s.inq i hi)), fun i hi => ?_⟩
  · rcases List.mem_append.1 hv with h1 | h1
    · exact s.lt v h1
    · simp at h1; subst h1; exact hu
  · rw [List.nodup_append]
    refine ⟨s.nodup, by simp, fun a ha c hc => ?_⟩
    simp at hc
    subst hc
    exact fun (e : a = c) => hq (e ▸ ha)
  · rw [List.length_append, List.length_singleton] at hj
    by_cases e : j = Q.length
    · subst e; rw [if_pos rfl, getD_last]; exact hfu
    · rw [if_neg e, getD_append (by omega)]; exact s.fw j (by omega)
  · rw [List.length_append, List.length_singleton] at hj
    by_cases e : j = Q.length
    · subst e
      rw [if_pos rfl]
      by_cases e2 : i = Q.length
      · rw [if_pos e2]; exact Nat.le_refl _
      · rw [if_neg e2]; exact s.top i (by omega)
    · rw [hd j (by omega), hd i (by omega)]; exact s.mono i j hij (by omega)
  · rw [List.length_append, List.length_singleton] at hj
    rw [hd h (by omega)]
    by_cases e : j = Q.length
    · rw [if_pos e]; exact Nat.le_refl _
    · rw [if_neg e]; exact s.top j (by omega)
  · rw [List.length_append, List.length_singleton]; omega
  · rw [getD_append hkl]; exact s.at_k
  · rw [hd k hkl]; exact s.dp_k
  · rw [hd j (by omega)] at hr
    rw [getD_append (by omega)]
    exact s.bad j hj hr
  · rw [List.length_append, List.length_singleton] at hj
    by_cases e : j = Q.length
    · subst e
      rw [if_pos rfl] at hr
      rw [getD_last]
      intro hT
      obtain ⟨d, hd1⟩ : ∃ d, l.length - r - 1 = d + 1 := ⟨l.length - r - 1 - 1, by omega⟩
      have hT' := hT
      rw [hd1] at hT
      have h1 := hw.nums.least d u hu hT
      have h2 := hw.nums.sound u hu h1.1
      obtain ⟨d2, hd2⟩ : ∃ d2, T u = d2 + 1 := ⟨T u - 1, by omega⟩
      rw [hd2] at h2
      have h3 := hw.least hR hf hI (dp h + 1) d2 u hu hfu h2
      rcases Nat.lt_or_ge h k with h4 | h4
      · have h5 := s.bad h h4 (by omega)
        apply h5
        rw [show l.length - r = (l.length - r - 1) + 1 by omega]
        exact ⟨s.inner hw (by omega) h4, u, hm, hT'⟩
      · exact hn (by omega) hrl (by omega)
    · rw [hd j (by omega)] at hr
      rw [getD_append (by omega)]
      exact s.bad' j (by omega) hr hrl
  · have h1 := s.inq (i + 1) (by omega)
    rw [if_neg (fun (e : l.getD (i + 1) 0 = u) => hq (e ▸ h1))]
    exact s.cam i hi

/-- The chain's next node is queued. -/
theorem Fwd.found (s : Fwd R f I l Q dp C h r k) (hw : WantOk R f I T l) (hR : ∀ r ∈ R, ∀ x ∈ r, x < R.length) (hf : f < R.length) (hI : I f = false) (hh : h = k) (hr : r + 1 < l.length) (hm : l.getD (r + 1) 0 ∈ row R (Q.getD h 0)) :
    Fwd R f I l (Q ++ [l.getD (r + 1) 0]) (fun j => if j = Q.length then dp h + 1 else dp j) (fun x => if x = l.getD (r + 1) 0 then Q.getD h 0 else C x) h (r + 1) Q.length := by
  have hq := s.fresh hw hR hf hI hh hr
  have hkl := s.kl
  have hu := hw.node hR hf (r + 1) hr
  have hIu := (hw.num r hr).1
  have hdk := s.dp_k
  have hd : ∀ j, j < Q.length → (if j = Q.length then dp h + 1 else dp j) = dp j := fun j hj => if_neg (by omega)
  have hfu : Fw R f I (dp h + 1) (l.getD (r + 1) 0) := ⟨hIu, _, s.fw h (by omega), hm⟩
  have htop : ∀ j, j < Q.length → dp j ≤ r + 1 := fun j hj => by have := s.top j hj; rw [hh, hdk] at this; exact this
  refine ⟨fun v hv => ?_, ?_, fun j hj => ?_, fun i j hij hj => ?_, fun j hj => ?_, by omega, ?_, getD_last, ?_, hr, fun j hj hr' => ?_, fun j hj hr' hrl => ?_, fun i hi => ?_, fun i hi => ?_⟩
  · rcases List.mem_append.1 hv with h1 | h1
    · exact s.lt v h1
    · rw [List.mem_singleton] at h1; subst h1; exact hu
  · rw [List.nodup_append]
    refine ⟨s.nodup, by simp, fun a ha c hc => ?_⟩
    rw [List.mem_singleton] at hc
    subst hc
    exact fun (e : a = _) => hq (e ▸ ha)
  · rw [List.length_append, List.length_singleton] at hj
    by_cases e : j = Q.length
    · subst e; rw [if_pos rfl, getD_last]; exact hfu
    · rw [if_neg e, getD_append (by omega)]; exact s.fw j (by omega)
  · rw [List.length_append, List.length_singleton] at hj
    by_cases e : j = Q.length
    · subst e
      rw [if_pos rfl]
      by_cases e2 : i = Q.length
      · rw [if_pos e2]; exact Nat.le_refl _
      · rw [if_neg e2]; exact s.top i (by omega)
    · rw [hd j (by omega), hd i (by omega)]; exact s.mono i j hij (by omega)
  · rw [List.length_append, List.length_singleton] at hj
    rw [hd h (by omega)]
    by_cases e : j = Q.length
    · rw [if_pos e]; exact Nat.le_refl _
    · rw [if_neg e]; exact s.top j (by omega)
  · rw [List.length_append, List.length_singleton]; omega
  · rw [if_pos rfl, hh, hdk]
  · rw [hd j hj] at hr'
    rw [getD_append hj, show l.length - (r + 1) = l.length - r - 1 by omega]
    exact s.bad' j hj hr' hr
  · rw [List.length_append, List.length_singleton] at hj
    by_cases e : j = Q.length
    · rw [if_pos e, hh, hdk] at hr'; omega
    · rw [if_neg e] at hr'
      have := htop j (by omega)
      omega
  · by_cases e : i = r + 1
    · subst e; simp
    · exact List.mem_append.2 (.inl (s.inq i (by omega)))
  · by_cases e : i = r
    · subst e
      rw [if_pos rfl, hh]
      exact s.at_k
    · have h1 := s.inq (i + 1) (by omega)
      rw [if_neg (fun (e : l.getD (i + 1) 0 = l.getD (r + 1) 0) => hq (e ▸ h1))]
      exact s.cam i (by omega)

/-- The next place. -/
theorem Fwd.next (s : Fwd R f I l Q dp C h r k) (hh : h < k) : Fwd R f I l Q dp C (h + 1) r k :=
  ⟨s.lt, s.nodup, s.fw, s.mono, fun j hj => by
    have h1 := s.top j hj
    have h2 := s.mono h (h + 1) (by omega) (by have := s.kl; omega)
    omega, by omega, s.kl, s.at_k, s.dp_k, s.rl, s.bad, s.bad', s.inq, s.cam⟩

/-- A row gone through whole without f and without the chain's next node: then h is below k. -/
theorem Fwd.below (s : Fwd R f I l Q dp C h r k) (hw : WantOk R f I T l) (hR : ∀ r ∈ R, ∀ x ∈ r, x < R.length) (hf : f < R.length) (h0 : f ∉ row R (Q.getD h 0)) (h1 : h = k → r + 1 < l.length → ∀ u ∈ row R (Q.getD h 0), (I u && T u == l.length - 1 - r) = false) : h < k := by
  rcases Nat.lt_or_ge h k with h2 | h2
  · exact h2
  · exfalso
    have hh : h = k := by have := s.hk; omega
    have hak := s.at_k
    by_cases hr : r + 1 < l.length
    · have h3 := hw.step r hr
      rw [← hak, ← hh] at h3
      have h4 := List.mem_of_find?_eq_some h3
      have h5 := h1 hh hr _ h4
      have h6 := List.find?_some h3
      rw [h5] at h6
      cases h6
    · have hrl := s.rl
      rw [hh, hak] at h0
      cases r with
      | zero =>
        rw [hw.head] at h0
        exact h0 (hw.two (by omega))
      | succ r =>
        obtain ⟨h3, h4⟩ := hw.num r hrl
        have h5 := hw.far_to hR hf r hrl
        rw [show l.length - 1 - r = 1 by omega] at h5
        obtain ⟨-, u, h6, h7⟩ := h5
        have : u = f := h7
        subst this
        exact h0 h6
end
end Go.Proofs.Qxb6603026a
