/-
  THE PAGE AS A LIST: what the families write, and where each piece lies.
-/
import Derived.Test.Qxb6003362aFam
namespace Go.Proofs.Qxb6003362a
open Go.RowKit

def page (f0 f1 : Nat → ByteArray) (f2 : Nat → Bool) : Nat → List UInt8
  | 0 => []
  | k + 1 => famL (page f0 f1 f2 k) (f0 k) (kindOf (f2 k)) (f1 k)

/-- What one family adds, piece by piece. -/
def famT (name kind help : ByteArray) : List UInt8 :=
  hdr1 ++ (name.data.toList ++ ([32] ++ (esc help.data.toList ++ ([10] ++ ([35, 32, 84, 89, 80, 69, 32] ++ (name.data.toList ++ ([32] ++ (kind.data.toList ++ [10]))))))))

theorem famL_eq (A : List UInt8) (name kind help : ByteArray) : famL A name kind help = A ++ famT name kind help := by
  unfold famL famT hdr2
  simp only [List.append_assoc, List.cons_append, List.nil_append]

theorem kind_len (g : Bool) : (kindOf g).size ≤ 7 := by cases g <;> decide

theorem famT_len (name kind help : ByteArray) : (famT name kind help).length = 7 + name.size + 1 + (esc help.data.toList).length + 1 + 7 + name.size + 1 + kind.size + 1 := by
  unfold famT hdr1
  simp
  omega

theorem seg_no10 {w : World} {g s t : Nat} {l : List UInt8} (h : Seg w g s (esc l)) (ht : t < (esc l).length) : ∃ c : Nat, w.cell? ⟨g, s + t, none⟩ = some (.int .u8 (c : Int)) ∧ ((c : Int) != 10) = true := by
  refine ⟨(esc l)[t].toNat, h t ht, ?_⟩
  have := esc_no10 l (esc l)[t] (List.getElem_mem ht)
  simp only [bne_iff_ne, ne_eq]
  intro e
  exact this (UInt8.toNat.inj (by show _ = 10; omega))

section
variable {f0 f1 : Nat → ByteArray} {f2 : Nat → Bool} {n : Nat}

theorem page_succ (k : Nat) : page f0 f1 f2 (k + 1) = page f0 f1 f2 k ++ famT (f0 k) (kindOf (f2 k)) (f1 k) := famL_eq _ _ _ _

theorem page_prefix (k m : Nat) : ∃ r, page f0 f1 f2 (k + m) = page f0 f1 f2 k ++ r := by
  induction m with
  | zero => exact ⟨[], by simp⟩
  | succ m ih =>
    obtain ⟨r, hr⟩ := ih
    exact ⟨r ++ famT (f0 (k + m)) (kindOf (f2 (k + m))) (f1 (k + m)), by rw [← Nat.add_assoc, page_succ, hr, List.append_assoc]⟩

theorem page_len (k : Nat) (h0 : ∀ j, j < k → (f0 j).size ≤ 1048576) (h1 : ∀ j, j < k → (f1 j).size ≤ 1048576) : (page f0 f1 f2 k).length ≤ k * 4194400 := by
  induction k with
  | zero => simp [page]
  | succ k ih =>
    have := ih (fun j hj => h0 j (by omega)) (fun j hj => h1 j (by omega))
    have a := h0 k (by omega)
    have b := h1 k (by omega)
    have c := esc_len (f1 k).data.toList
    have d := kind_len (f2 k)
    rw [page_succ, List.length_append, famT_len]
    simp at c
    omega

theorem page_pos (k : Nat) (h : 0 < k) : 0 < (page f0 f1 f2 k).length := by
  obtain ⟨j, rfl⟩ : ∃ j, k = j + 1 := ⟨k - 1, by omega⟩
  rw [page_succ, List.length_append, famT_len]
  omega

/-- WHERE THE PIECES OF FAMILY k LIE. -/
theorem page_segs {w : World} {g k : Nat} (hk : k < n) (h : Seg w g 0 (page f0 f1 f2 n)) :
    let p := (page f0 f1 f2 k).length
    let s := p + 7 + (f0 k).size + 1
    let L := (esc (f1 k).data.toList).length
    Seg w g p [35, 32, 72, 69, 76, 80, 32] ∧ Seg w g (p + 7) (f0 k).data.toList ∧ Seg w g (p + 7 + (f0 k).size) [32] ∧ Seg w g s (esc (f1 k).data.toList) ∧ Seg w g (s + L) [10] ∧
    Seg w g (s + L + 1) [35, 32, 84, 89, 80, 69, 32] ∧ Seg w g (s + L + 1 + 7) (f0 k).data.toList ∧ Seg w g (s + L + 1 + 7 + (f0 k).size) [32] ∧ Seg w g (s + L + 1 + 7 + (f0 k).size + 1) (kindOf (f2 k)).data.toList ∧
    Seg w g (s + L + 1 + 7 + (f0 k).size + 1 + (kindOf (f2 k)).size) [10] ∧
    (page f0 f1 f2 (k + 1)).length = s + L + 1 + 7 + (f0 k).size + 1 + (kindOf (f2 k)).size + 1 ∧ (page f0 f1 f2 (k + 1)).length ≤ (page f0 f1 f2 n).length := by
  intro p s L
  obtain ⟨r, hr⟩ := page_prefix (f0 := f0) (f1 := f1) (f2 := f2) (k + 1) (n - (k + 1))
  rw [show k + 1 + (n - (k + 1)) = n by omega] at hr
  have hl : (page f0 f1 f2 (k + 1)).length ≤ (page f0 f1 f2 n).length := by rw [hr]; simp
  have hl2 : (page f0 f1 f2 (k + 1)).length = s + L + 1 + 7 + (f0 k).size + 1 + (kindOf (f2 k)).size + 1 := by
    rw [page_succ, List.length_append, famT_len]
    simp only [s, L, p]
    omega
  rw [hr, page_succ, Seg.append, Seg.append] at h
  have h2 := h.1.2
  unfold famT hdr1 at h2
  rw [Seg.append, Seg.append, Seg.append, Seg.append, Seg.append, Seg.append, Seg.append, Seg.append, Seg.append] at h2
  simp only [List.length_cons, List.length_nil, Array.length_toList, byteArray_len, Nat.zero_add] at h2
  obtain ⟨a1, a2, a3, a4, a5, a6, a7, a8, a9, a10⟩ := h2
  exact ⟨a1, a2, a3, a4, a5, a6, a7, a8, a9, a10, hl2, hl⟩
end
end Go.Proofs.Qxb6003362a
