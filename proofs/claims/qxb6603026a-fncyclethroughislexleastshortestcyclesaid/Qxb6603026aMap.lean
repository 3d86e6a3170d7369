/-
  Maps keyed by int, told by a function: map[int]int (71), map[int]bool (70).
-/
import Derived.Test.Qxb6603026aMem
import Derived.Test.Qxb6603026aProg
import Derived.Maps.OwnSet
import Derived.WalkArith
namespace Go.Proofs.Qxb6603026a
open Go.RowKit Go.Maps

def kl (x : Int) : Lit := .int .i64 x
theorem law3 : Keyed Try.prog 3 := int_keyed Try.underlying3
theorem key3 {x : Int} (h : (Lit.int .i64 x).wf = true) : keyOf Try.prog 3 (.int .i64 x) = some (kl x) := keyOf_int_mk Try.underlying3 h
theorem zero3 (w : World) : (zeroValue 3).run Try.prog w = .ok (.int .i64 0) w := by kernel_rfl
theorem zero4 (w : World) : (zeroValue 4).run Try.prog w = .ok (.bool false) w := by kernel_rfl
theorem kl_ne {x y : Int} (h : x ≠ y) : kl x ≠ kl y := fun e => h (by unfold kl at e; injection e)
theorem kl_key (x : Int) : WideAt.IsKeyLit (kl x) := trivial

structure MapI (w : World) (b n : Nat) (g : Int → Option Int) : Prop where
  ex : ∃ D : DataW Unit, w.ownsMap Try.prog 3 (plainElem Try.prog 3) b n D ∧ ∀ x, (Maps.has D (kl x) = (g x).isSome ∧ D.atKey (kl x) (.lit (.int .i64 0)) = .lit (.int .i64 ((g x).getD 0)))
structure MapB (w : World) (b n : Nat) (g : Int → Bool) : Prop where
  ex : ∃ D : DataW Unit, w.ownsMap Try.prog 3 (plainElem Try.prog 4) b n D ∧ ∀ x, D.atKey (kl x) (.lit (.bool false)) = .lit (.bool (g x))

theorem plainElem_bool_inv {H : Type} {v : Value} {z : DataW H × List MemPlace} (h : plainElem Try.prog 4 v = some z) : ∃ c, v = .bool c ∧ z = (.lit (.bool c), []) := by
  unfold plainElem at h
  rw [Try.underlying4] at h
  cases v <;> simp at h
  subst h
  exact ⟨_, rfl, rfl⟩

section
variable {w w' : World} {b n : Nat} {g : Int → Option Int} {f : Int → Bool}

theorem MapI.lt (h : MapI w b n g) : b < w.heap.size := by obtain ⟨D, h1, _⟩ := h.ex; exact h1.lt
theorem MapB.lt (h : MapB w b n f) : b < w.heap.size := by obtain ⟨D, h1, _⟩ := h.ex; exact h1.lt
theorem MapI.kept {row : Option Nat} (h : MapI w b n g) (hg : w.grownBy w' row) (hr : some b ≠ row) : MapI w' b n g := by
  obtain ⟨D, h1, h2⟩ := h.ex; exact ⟨D, h1.kept hg hr, h2⟩
theorem MapB.kept {row : Option Nat} (h : MapB w b n f) (hg : w.grownBy w' row) (hr : some b ≠ row) : MapB w' b n f := by
  obtain ⟨D, h1, h2⟩ := h.ex; exact ⟨D, h1.kept hg hr, h2⟩
theorem MapI.made (w : World) : MapI (w.alloc (.map #[] 0)) w.heap.size 0 (fun _ => none) :=
  ⟨.map [], World.ownsMap_made _ _ _ _, fun _ => ⟨rfl, rfl⟩⟩
theorem MapB.made (w : World) : MapB (w.alloc (.map #[] 0)) w.heap.size 0 (fun _ => false) :=
  ⟨.map [], World.ownsMap_made _ _ _ _, fun _ => rfl⟩

theorem MapI.look (h : MapI w b n g) {x : Int} (hx : (Lit.int .i64 x).wf = true) : (Instr.lookup 71 (.map (some b)) (.int .i64 x) false).run Try.prog w = .ok (.int .i64 ((g x).getD 0)) w := by
  obtain ⟨D, h1, h2⟩ := h.ex
  obtain ⟨c, hrun, hat, -⟩ := h1.lookup_int law3 Try.underlying71 Try.underlying3 (zero3 w) (key3 hx)
  rw [(h2 x).2] at hat
  injection hat with hat
  injection hat with _ hat
  rw [hrun, hat]
theorem MapI.lookOk (h : MapI w b n g) {x : Int} (hx : (Lit.int .i64 x).wf = true) : (Instr.lookup 71 (.map (some b)) (.int .i64 x) true).run Try.prog w = .ok (.tuple #[.int .i64 ((g x).getD 0), .bool (g x).isSome]) w := by
  obtain ⟨D, h1, h2⟩ := h.ex
  obtain ⟨v, ps, hrun, hv⟩ := h1.look_ok law3 Try.underlying71 (zero3 w) (plainElem_int Try.underlying3 (by decide)) (key3 hx)
  obtain ⟨c, rfl, hc, -⟩ := plainElem_int_inv Try.underlying3 hv
  have hat := congrArg Prod.fst hc
  simp only at hat
  rw [(h2 x).2] at hat
  injection hat with hat
  injection hat with _ hat
  rw [hrun, (h2 x).1, hat]
theorem MapB.look (h : MapB w b n f) {x : Int} (hx : (Lit.int .i64 x).wf = true) : (Instr.lookup 70 (.map (some b)) (.int .i64 x) false).run Try.prog w = .ok (.bool (f x)) w := by
  obtain ⟨D, h1, h2⟩ := h.ex
  obtain ⟨v, ps, hrun, hv⟩ := h1.lookup law3 Try.underlying70 (zero4 w) (plainElem_bool Try.underlying4 false) (key3 hx)
  obtain ⟨c, rfl, hc⟩ := plainElem_bool_inv hv
  have hat := congrArg Prod.fst hc
  simp only at hat
  rw [h2 x] at hat
  injection hat with hat
  injection hat with hat
  rw [hrun, hat]
theorem MapI.put (h : MapI w b n g) (hn : n < maxLen) {x y : Int} (hx : (Lit.int .i64 x).wf = true) (hy : (Lit.int .i64 y).wf = true) :
    ∃ w', (Instr.mapUpdate 71 (.map (some b)) (.int .i64 x) (.int .i64 y)).run Try.prog w = .ok () w' ∧ MapI w' b (n + 1) (fun z => if z = x then some y else g z) ∧ w.grownBy w' (some b) := by
  obtain ⟨D, h1, h2⟩ := h.ex
  have hm := h1.isMap
  obtain ⟨w', hrun, h3, h4⟩ := h1.update law3 Try.underlying71 hn (key3 hx) (plainElem_int Try.underlying3 hy)
  refine ⟨w', hrun, ⟨_, h3, fun z => ?_⟩, h4⟩
  by_cases e : z = x
  · subst e
    rw [has_put_same hm (kl_key z), atKey_put_same hm (kl_key z)]
    simp
  · rw [has_put_other (kl_ne e), atKey_put_other (kl_ne e)]
    simp only [e, if_false]
    exact h2 z
theorem MapB.put (h : MapB w b n f) (hn : n < maxLen) {x : Int} (hx : (Lit.int .i64 x).wf = true) :
    ∃ w', (Instr.mapUpdate 70 (.map (some b)) (.int .i64 x) (.bool true)).run Try.prog w = .ok () w' ∧ MapB w' b (n + 1) (fun z => if z = x then true else f z) ∧ w.grownBy w' (some b) := by
  obtain ⟨D, h1, h2⟩ := h.ex
  have hm := h1.isMap
  obtain ⟨w', hrun, h3, h4⟩ := h1.update law3 Try.underlying70 hn (key3 hx) (plainElem_bool Try.underlying4 true)
  refine ⟨w', hrun, ⟨_, h3, fun z => ?_⟩, h4⟩
  by_cases e : z = x
  · subst e
    rw [atKey_put_same hm (kl_key z)]
    simp
  · rw [atKey_put_other (kl_ne e)]
    simp only [e, if_false]
    exact h2 z
end
end Go.Proofs.Qxb6603026a
