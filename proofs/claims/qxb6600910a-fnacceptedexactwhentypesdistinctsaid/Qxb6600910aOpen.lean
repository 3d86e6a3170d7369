/-
  WHAT CAME IN: bytes, attributes, transforms, proposals, as data that read.
-/
import Derived.Test.Qxb6600910aRows
import Derived.Test.Qxb6600910aMem
import Derived.ProofKit
import Derived.OpenShut
import Derived.ChangeOld
import Derived.Deep.Slices
import Derived.Deep.Strs
import Derived.Lib.SmallJoins
namespace Go.Proofs.Qxb6600910a
open Go.ChangeShapes Go.WideShapes Go.ChangeAt Go.RowKit

theorem own : ownKnob Try.prog.godebug = none := by kernel_rfl
theorem laidOut : laidOutB Try.prog = true := by kernel_rfl
theorem cells5 : Try.prog.cellsOf 5 = 1 := by kernel_rfl
theorem cells52 : Try.prog.cellsOf 52 = 1 := by kernel_rfl
theorem cells4 : Try.prog.cellsOf 4 = 1 := by kernel_rfl
theorem cells33 : Try.prog.cellsOf 33 = 1 := by kernel_rfl
theorem cells53 : Try.prog.cellsOf 53 = 1 := by kernel_rfl
theorem cells22 : Try.prog.cellsOf 22 = 1 := by kernel_rfl
theorem cells64 : Try.prog.cellsOf 64 = 3 := by kernel_rfl
theorem cells55 : Try.prog.cellsOf 55 = 3 := by kernel_rfl
theorem cells35 : Try.prog.cellsOf 35 = 4 := by kernel_rfl

/-- A slice whose elements have s cells. -/
theorem open_sl {H : Type} {enc : TypeId × Value → H} {W : World} {t e : TypeId} {α : Type} [Inhabited α] (s : Nat) (hs : 0 < s) (el : Nat → Nat → α → Prop) (good : α → Prop) (ht : Try.prog.underlying t = some (.slice e)) (hc : Try.prog.cellsOf e = s)
    (hel : ∀ n b o cs x, b < W.heap.size → cs.length = s → (∀ i, i < s → W.cell? ⟨b, o + i, none⟩ = cs[i]?) → DataW.trod enc Try.prog W 0 (fun _ => true) true n e cs = some x → ∃ a, el b o a ∧ good a)
    {fuel : Nat} {v : Value} {x : DataW H × List MemPlace} (hf : DataW.trod enc Try.prog W 0 (fun _ => true) true fuel t [v] = some x) :
    ∃ l : List α, IsSl (· < W.heap.size) s el v l ∧ l.length ≤ 9223372036854775807 ∧ ∀ a ∈ l, good a := by
  rcases Deep.open_slice ht hf with ⟨hcs, _⟩ | ⟨a, len, cap, m, n, D, Pl, hcs, _, hl, hm, hmm, _, hx⟩
  · simp at hcs
    exact ⟨[], ⟨none, 0, hcs, fun _ => rfl, fun h => by simp at h⟩, by simp, fun a h => by simp at h⟩
  · simp at hcs
    simp only [if_true] at hmm
    subst hmm
    unfold maxLen at hm
    by_cases hpos : 0 < len
    · obtain ⟨b, off, spot⟩ := a
      rw [hc] at hx
      obtain ⟨cs0, h0, -⟩ := hx 0 (by omega)
      obtain ⟨-, hln, hcell⟩ := World.cells?_some h0
      have h00 := hcell 0 hs
      rw [List.getElem?_eq_getElem (by omega)] at h00
      have hspot : spot = none := by simpa [Addr.add] using World.cell?_spot h00
      subst hspot
      have hb : b < W.heap.size := by simpa [Addr.add] using World.block_lt_of_cell? _ _ h00
      obtain ⟨f, hF⟩ := Deep.choose_lt (α := α) (n := len) (p := fun i a => el b (off + i * s) a ∧ good a) (fun i hi => by
        obtain ⟨cs', h1, h2⟩ := hx i (by omega)
        obtain ⟨-, hln', hcell'⟩ := World.cells?_some h1
        refine hel _ _ _ cs' _ hb hln' (fun j hj => ?_) h2
        have := hcell' j hj
        rw [add_plain, add_plain] at this
        exact this)
      refine ⟨(List.range len).map f, ⟨some ⟨b, off, none⟩, m, by rw [hcs]; simp, fun h => by simp at h, fun _ => ⟨b, off, rfl, hb, fun j hj => ?_⟩⟩, by simp; omega, fun a ha => ?_⟩
      · simp only [List.length_map, List.length_range] at hj
        simp only [List.getElem_map, List.getElem_range]
        exact (hF j hj).1
      · obtain ⟨i, hi, rfl⟩ := List.mem_map.1 ha
        exact (hF i (by simpa using hi)).2
    · have : len = 0 := by omega
      subst this
      exact ⟨[], ⟨some a, m, by rw [hcs]; simp, fun h => by simp at h, fun h => by simp at h⟩, by simp, fun a h => by simp at h⟩

theorem as_u8 {n : Int} (h : (Lit.int .u8 n).wf = true) : ∃ c : UInt8, Value.int .u8 n = bv c := by
  unfold Lit.wf at h
  rw [Bool.and_eq_true, decide_eq_true_eq, decide_eq_true_eq] at h
  have h1 : (0 : Int) ≤ n := h.1
  have h2 : n ≤ 255 := h.2
  exact ⟨UInt8.ofNat n.toNat, by unfold bv; congr 1; simp; omega⟩
theorem as_u16 {n : Int} (h : (Lit.int .u16 n).wf = true) : ∃ c : UInt16, Value.int .u16 n = hv c := by
  unfold Lit.wf at h
  rw [Bool.and_eq_true, decide_eq_true_eq, decide_eq_true_eq] at h
  have h1 : (0 : Int) ≤ n := h.1
  have h2 : n ≤ 65535 := h.2
  exact ⟨UInt16.ofNat n.toNat, by unfold hv; congr 1; simp; omega⟩

theorem list3 {α : Type} {cs : List α} (h : cs.length = 3) : ∃ c0 c1 c2, cs = [c0, c1, c2] := by
  match cs, h with
  | [c0, c1, c2], _ => exact ⟨c0, c1, c2, rfl⟩
theorem list4 {α : Type} {cs : List α} (h : cs.length = 4) : ∃ c0 c1 c2 c3, cs = [c0, c1, c2, c3] := by
  match cs, h with
  | [c0, c1, c2, c3], _ => exact ⟨c0, c1, c2, c3, rfl⟩

section
variable {H : Type} {enc : TypeId × Value → H} {W : World} {fuel : Nat} {v : Value} {x : DataW H × List MemPlace}

theorem open_u8 {cs : List Value} (h : DataW.trod enc Try.prog W 0 (fun _ => true) true fuel 5 cs = some x) : ∃ c : UInt8, cs = [bv c] := by
  obtain ⟨n, hcs, _, hw⟩ := DataW.trod_int Try.underlying5 h
  obtain ⟨c, hc⟩ := as_u8 hw
  exact ⟨c, by rw [hcs, hc]⟩
theorem open_u16 {cs : List Value} (h : DataW.trod enc Try.prog W 0 (fun _ => true) true fuel 52 cs = some x) : ∃ c : UInt16, cs = [hv c] := by
  obtain ⟨n, hcs, _, hw⟩ := DataW.trod_int Try.underlying52 h
  obtain ⟨c, hc⟩ := as_u16 hw
  exact ⟨c, by rw [hcs, hc]⟩

theorem open_bytes (h : DataW.trod enc Try.prog W 0 (fun _ => true) true fuel 33 [v] = some x) : ∃ l, IsBytes (· < W.heap.size) W v l ∧ l.length ≤ 9223372036854775807 := by
  obtain ⟨l, h1, h2, -⟩ := open_sl 1 (by omega) (elByte W) (fun _ => True) Try.underlying33 cells5 (fun n b o cs x hb hl hc hx => by
    obtain ⟨c, rfl⟩ := open_u8 hx
    exact ⟨c, (by simpa using hc 0 (by omega) : W.cell? ⟨b, o, none⟩ = some (bv c)), trivial⟩) h
  exact ⟨l, h1, h2⟩

def goodA (a : Attr) : Prop := a.val.length ≤ 9223372036854775807

theorem open_attrs (h : DataW.trod enc Try.prog W 0 (fun _ => true) true fuel 53 [v] = some x) : ∃ l, IsAttrs (· < W.heap.size) W v l ∧ l.length ≤ 9223372036854775807 ∧ ∀ a ∈ l, goodA a := by
  have i : Inhabited Attr := ⟨⟨0, false, []⟩⟩
  exact open_sl 3 (by omega) (elAttr (· < W.heap.size) W) goodA Try.underlying53 cells64 (fun n b o cs x hb hl hc hx => by
    obtain ⟨y0, y1, y2, n', -, -, h0, h1, h2⟩ := Deep.trod_struct3 Try.underlying64 hx
    obtain ⟨c0, c1, c2, rfl⟩ := list3 hl
    rw [cells52] at h0
    rw [cells4] at h1
    rw [cells33] at h2
    obtain ⟨ty, e0⟩ := open_u16 h0
    obtain ⟨tv, e1, -⟩ := DataW.trod_bool Try.underlying4 h1
    obtain ⟨l, hl1, hl2⟩ := open_bytes (v := c2) h2
    simp at e0 e1
    subst e0 e1
    exact ⟨⟨ty, tv, l⟩, ⟨by simpa using hc 0 (by omega), by simpa using hc 1 (by omega), c2, by simpa using hc 2 (by omega), hl1⟩, hl2⟩) h

theorem open_transes (h : DataW.trod enc Try.prog W 0 (fun _ => true) true fuel 22 [v] = some x) : ∃ l, IsTranses (· < W.heap.size) W v l ∧ l.length ≤ 9223372036854775807 ∧ ∀ a ∈ l, LT 9223372036854775807 a := by
  have i : Inhabited Trans := ⟨⟨0, 0, []⟩⟩
  exact open_sl 3 (by omega) (elTrans (· < W.heap.size) W) (LT 9223372036854775807) Try.underlying22 cells55 (fun n b o cs x hb hl hc hx => by
    obtain ⟨y0, y1, y2, n', -, -, h0, h1, h2⟩ := Deep.trod_struct3 Try.underlying55 hx
    obtain ⟨c0, c1, c2, rfl⟩ := list3 hl
    rw [cells5] at h0
    rw [cells52] at h1
    rw [cells53] at h2
    obtain ⟨ty, e0⟩ := open_u8 h0
    obtain ⟨id, e1⟩ := open_u16 h1
    obtain ⟨l, hl1, hl2, hl3⟩ := open_attrs (v := c2) h2
    simp at e0 e1
    subst e0 e1
    exact ⟨⟨ty, id, l⟩, ⟨by simpa using hc 0 (by omega), by simpa using hc 1 (by omega), c2, by simpa using hc 2 (by omega), hl1⟩, hl2, hl3⟩) h

theorem open_prps (h : DataW.trod enc Try.prog W 0 (fun _ => true) true fuel 30 [v] = some x) : ∃ l, IsPrps (· < W.heap.size) W v l ∧ l.length ≤ 9223372036854775807 ∧ ∀ a ∈ l, LP 9223372036854775807 a := by
  have i : Inhabited Prp := ⟨⟨0, 0, [], []⟩⟩
  exact open_sl 4 (by omega) (elPrp (· < W.heap.size) W) (LP 9223372036854775807) Try.underlying30 cells35 (fun n b o cs x hb hl hc hx => by
    obtain ⟨y0, y1, y2, y3, n', -, -, h0, h1, h2, h3⟩ := Joins.trod_struct4 Try.underlying35 hx
    obtain ⟨c0, c1, c2, c3, rfl⟩ := list4 hl
    rw [cells5] at h0 h1
    rw [cells33] at h2
    rw [cells22] at h3
    obtain ⟨num, e0⟩ := open_u8 h0
    obtain ⟨pr, e1⟩ := open_u8 h1
    obtain ⟨sp, hs1, hs2⟩ := open_bytes (v := c2) h2
    obtain ⟨l, hl1, hl2, hl3⟩ := open_transes (v := c3) h3
    simp at e0 e1
    subst e0 e1
    exact ⟨⟨num, pr, sp, l⟩, ⟨by simpa using hc 0 (by omega), by simpa using hc 1 (by omega), ⟨c2, by simpa using hc 2 (by omega), hs1⟩, ⟨c3, by simpa using hc 3 (by omega), hl1⟩⟩, hs2, hl2, hl3⟩) h
end
end Go.Proofs.Qxb6600910a
