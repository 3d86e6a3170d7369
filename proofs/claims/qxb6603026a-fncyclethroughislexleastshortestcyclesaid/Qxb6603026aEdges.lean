/-
  THE PLAIN LAW of 'predecessors': edges in the order of the lists; no Go in sight.
-/
namespace Go.Proofs.Qxb6603026a

/-- The targets of the edges ahead of place k of row i. -/
def done (R : List (List Nat)) (i k : Nat) : List Nat := (R.take i).flatten ++ (R.getD i []).take k
/-- How many edges lead to a node below x. -/
def bel (R : List (List Nat)) (x : Nat) : Nat := R.flatten.countP (fun y => decide (y < x))

theorem done_zero (R : List (List Nat)) : done R 0 0 = [] := by simp [done]
theorem getD_row (R : List (List Nat)) (i : Nat) (h : i < R.length) : R.getD i [] = R[i] := by
  rw [List.getD_eq_getElem?_getD, List.getElem?_eq_getElem h]; rfl
theorem done_row (R : List (List Nat)) (i : Nat) (h : i < R.length) : done R i R[i].length = done R (i + 1) 0 := by
  unfold done
  rw [getD_row R i h, List.take_of_length_le (Nat.le_refl _), List.take_succ_eq_append_getElem h, List.flatten_append]
  simp
theorem done_next (R : List (List Nat)) (i k : Nat) (h : i < R.length) (hk : k < R[i].length) : done R i (k + 1) = done R i k ++ [R[i][k]] := by
  unfold done
  rw [getD_row R i h, List.take_succ_eq_append_getElem hk, List.append_assoc]
theorem done_all (R : List (List Nat)) : done R R.length 0 = R.flatten := by simp [done]
theorem done_split (R : List (List Nat)) (i k : Nat) (h : i < R.length) (hk : k < R[i].length) : ∃ rest, R.flatten = done R i k ++ R[i][k] :: rest := by
  refine ⟨R[i].drop (k + 1) ++ (R.drop (i + 1)).flatten, ?_⟩
  have e1 : R = R.take i ++ (R[i] :: R.drop (i + 1)) := by rw [← List.drop_eq_getElem_cons h, List.take_append_drop]
  have e2 : R[i] = R[i].take k ++ (R[i][k] :: R[i].drop (k + 1)) := by rw [← List.drop_eq_getElem_cons hk, List.take_append_drop]
  calc R.flatten = (R.take i ++ (R[i] :: R.drop (i + 1))).flatten := congrArg List.flatten e1
    _ = (R.take i).flatten ++ (R[i] ++ (R.drop (i + 1)).flatten) := by rw [List.flatten_append, List.flatten_cons]
    _ = (R.take i).flatten ++ ((R[i].take k ++ (R[i][k] :: R[i].drop (k + 1))) ++ (R.drop (i + 1)).flatten) := by rw [← e2]
    _ = _ := by unfold done; rw [getD_row R i h]; simp only [List.append_assoc, List.cons_append]
theorem count_lt (R : List (List Nat)) (i k : Nat) (h : i < R.length) (hk : k < R[i].length) : (done R i k).count R[i][k] < R.flatten.count R[i][k] := by
  obtain ⟨rest, e⟩ := done_split R i k h hk
  rw [e, List.count_append, List.count_cons_self]
  omega
theorem count_le (R : List (List Nat)) (i k : Nat) (h : i < R.length) (hk : k < R[i].length) (v : Nat) : (done R i k).count v ≤ R.flatten.count v := by
  obtain ⟨rest, e⟩ := done_split R i k h hk
  rw [e, List.count_append]
  omega
theorem count_next (R : List (List Nat)) (i k : Nat) (h : i < R.length) (hk : k < R[i].length) (v : Nat) : (done R i (k + 1)).count v = (done R i k).count v + if v = R[i][k] then 1 else 0 := by
  rw [done_next R i k h hk, List.count_append]
  by_cases e : v = R[i][k]
  · rw [if_pos e, e]; simp
  · rw [if_neg e]; simp [List.count_singleton]; exact fun e' => e e'.symm

theorem bel_zero (R : List (List Nat)) : bel R 0 = 0 := by simp [bel]
theorem countP_split (l : List Nat) (x : Nat) : l.countP (fun y => decide (y < x + 1)) = l.countP (fun y => decide (y < x)) + l.count x := by
  induction l with
  | nil => rfl
  | cons a l ih =>
    rw [List.countP_cons, List.countP_cons, List.count_cons, ih]
    by_cases h1 : a = x
    · subst h1; simp; omega
    · by_cases h2 : a < x
      · have : a < x + 1 := by omega
        simp [h1, h2, this]; omega
      · have : ¬ a < x + 1 := by omega
        simp [h1, h2, this]
theorem bel_succ (R : List (List Nat)) (x : Nat) : bel R (x + 1) = bel R x + R.flatten.count x := countP_split _ _
theorem bel_mono (R : List (List Nat)) (x y : Nat) (h : x ≤ y) : bel R x ≤ bel R y := by
  induction y with
  | zero => have : x = 0 := by omega
            subst this; exact Nat.le_refl _
  | succ y ih =>
    by_cases e : x = y + 1
    · subst e; exact Nat.le_refl _
    · have := ih (by omega)
      rw [bel_succ]; omega
theorem bel_all (R : List (List Nat)) (n : Nat) (h : ∀ x ∈ R.flatten, x < n) : bel R n = R.flatten.length := by
  unfold bel
  rw [List.countP_eq_length]
  intro x hx
  simpa using h x hx
theorem bel_le (R : List (List Nat)) (x : Nat) : bel R x ≤ R.flatten.length := List.countP_le_length

/-- pred is filled so far: rows below i, and k places of row i. -/
structure PredTo (R : List (List Nat)) (P : Nat → Nat) (i k : Nat) : Prop where
  sound : ∀ v q, v < R.length → bel R v ≤ q → q < bel R v + (done R i k).count v → ∃ h : P q < R.length, v ∈ R[P q]
  rows : ∀ u v, (h : u < R.length) → u < i → v ∈ R[u] → ∃ q, bel R v ≤ q ∧ q < bel R v + (done R i k).count v ∧ P q = u
  row : ∀ v, v ∈ (R.getD i []).take k → ∃ q, bel R v ≤ q ∧ q < bel R v + (done R i k).count v ∧ P q = i

theorem PredTo.start (R : List (List Nat)) (P : Nat → Nat) : PredTo R P 0 0 :=
  ⟨fun v q _ h1 h2 => by rw [done_zero] at h2; simp at h2; omega, fun u v _ h => by omega, fun v h => by simp at h⟩

theorem PredTo.next {R : List (List Nat)} {P : Nat → Nat} {i k : Nat} (h : PredTo R P i k) (hi : i < R.length) (hk : k < R[i].length) : PredTo R (fun q => if q = bel R R[i][k] + (done R i k).count R[i][k] then i else P q) i (k + 1) := by
  have hlt := count_lt R i k hi hk
  have hle := count_le R i k hi hk
  have hcn := count_next R i k hi hk
  have hs := bel_succ R
  have hm := bel_mono R
  generalize hx : R[i][k] = x at *
  -- the new place is in no other node's segment
  have hsep : ∀ v q, bel R v ≤ q → q < bel R v + (done R i k).count v → q ≠ bel R x + (done R i k).count x := by
    intro v q h1 h2 e
    subst e
    by_cases h3 : v = x
    · subst h3; omega
    · by_cases h4 : v < x
      · have := hm (v + 1) x (by omega)
        have := hs v
        have := hle v
        omega
      · have := hm (x + 1) v (by omega)
        have := hs x
        omega
  have hkeep : ∀ v q, bel R v ≤ q → q < bel R v + (done R i k).count v → bel R v ≤ q ∧ q < bel R v + (done R i (k + 1)).count v := fun v q h1 h2 => ⟨h1, by rw [hcn v]; omega⟩
  refine ⟨fun v q hv h1 h2 => ?_, fun u v hu hui hv => ?_, fun v hv => ?_⟩
  · rw [hcn v] at h2
    by_cases e : q = bel R x + (done R i k).count x
    · simp only [e, if_true]
      refine ⟨hi, ?_⟩
      by_cases e2 : v = x
      · have hxm : x ∈ R[i] := by rw [← hx]; exact List.getElem_mem hk
        rw [e2]; exact hxm
      · rw [if_neg e2] at h2
        exact absurd e (hsep v q h1 (by omega))
    · simp only [e, if_false]
      refine h.sound v q hv h1 ?_
      by_cases e2 : v = x
      · subst e2
        rw [if_pos rfl] at h2
        omega
      · rw [if_neg e2] at h2; omega
  · obtain ⟨q, h1, h2, h3⟩ := h.rows u v hu hui hv
    exact ⟨q, (hkeep v q h1 h2).1, (hkeep v q h1 h2).2, by simp only [hsep v q h1 h2, if_false]; exact h3⟩
  · rw [getD_row R i hi, List.take_succ_eq_append_getElem hk, hx] at hv
    rcases List.mem_append.1 hv with h1 | h1
    · obtain ⟨q, h1, h2, h3⟩ := h.row v (by rw [getD_row R i hi]; exact h1)
      exact ⟨q, (hkeep v q h1 h2).1, (hkeep v q h1 h2).2, by simp only [hsep v q h1 h2, if_false]; exact h3⟩
    · simp at h1
      subst h1
      refine ⟨bel R v + (done R i k).count v, by omega, ?_, by simp⟩
      rw [hcn v, if_pos rfl]; omega

theorem PredTo.nextRow {R : List (List Nat)} {P : Nat → Nat} {i : Nat} (hi : i < R.length) (h : PredTo R P i R[i].length) : PredTo R P (i + 1) 0 := by
  refine ⟨fun v q hv h1 h2 => h.sound v q hv h1 (by rw [done_row R i hi]; exact h2), fun u v hu hui hv => ?_, fun v hv => by simp at hv⟩
  rw [← done_row R i hi]
  by_cases e : u = i
  · subst e
    exact h.row v (by rw [getD_row R u hi, List.take_of_length_le (Nat.le_refl _)]; exact hv)
  · exact h.rows u v hu (by omega) hv

/-- What 'predecessors' answers. -/
structure Preds (R : List (List Nat)) (S P : Nat → Nat) (m : Nat) : Prop where
  mono : ∀ v, v < R.length → S v ≤ S (v + 1)
  top : ∀ v, v ≤ R.length → S v ≤ m
  sound : ∀ v q, v < R.length → S v ≤ q → q < S (v + 1) → ∃ h : P q < R.length, v ∈ R[P q]
  all : ∀ u v, (h : u < R.length) → v ∈ R[u] → ∃ q, S v ≤ q ∧ q < S (v + 1) ∧ P q = u

theorem PredTo.finish {R : List (List Nat)} {P S : Nat → Nat} (h : PredTo R P R.length 0) (hS : ∀ v, v ≤ R.length → S v = bel R v) (hR : ∀ r ∈ R, ∀ x ∈ r, x < R.length) : Preds R S P R.flatten.length := by
  refine ⟨fun v hv => ?_, fun v hv => ?_, fun v q hv h1 h2 => ?_, fun u v hu hv => ?_⟩
  · rw [hS v (by omega), hS (v + 1) (by omega)]; exact bel_mono R _ _ (by omega)
  · rw [hS v hv]; exact bel_le R v
  · rw [hS v (by omega)] at h1
    rw [hS (v + 1) (by omega), bel_succ] at h2
    exact h.sound v q hv h1 (by rw [done_all]; exact h2)
  · have hvn := hR _ (List.getElem_mem hu) v hv
    obtain ⟨q, h1, h2, h3⟩ := h.rows u v hu hu hv
    rw [done_all] at h2
    exact ⟨q, by rw [hS v (by omega)]; exact h1, by rw [hS (v + 1) (by omega), bel_succ]; exact h2, h3⟩
end Go.Proofs.Qxb6603026a
