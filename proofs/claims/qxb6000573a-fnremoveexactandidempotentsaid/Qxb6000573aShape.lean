/-
  THE TOWER's SHAPE.
-/
import Derived.Test.Qxb6000573aSets
namespace Go.Proofs.Qxb6000573a
open Go.RowKit
set_option linter.unusedSimpArgs false
set_option linter.unusedVariables false
open Pl

/-- The tower's shape hangs on the lowest row's length alone. -/
theorem build_shape : ∀ (n : Nat) (a b : List Nat), a.length ≤ n → b.length = a.length → (build b).length = (build a).length ∧ ∀ k, ((build b).getD k []).length = ((build a).getD k []).length := by
  intro n
  induction n with
  | zero => intro a b hn he; rw [build_one a (by omega), build_one b (by omega)]; exact ⟨rfl, fun k => by cases k <;> simp [he]⟩
  | succ n ih =>
    intro a b hn he
    by_cases h1 : a.length ≤ 1
    · rw [build_one a h1, build_one b (by omega)]; exact ⟨rfl, fun k => by cases k <;> simp [he]⟩
    · have hup := up_le a.length (by omega)
      obtain ⟨i1, i2⟩ := ih (summ a) (summ b) (by rw [length_summ]; omega) (by rw [length_summ, length_summ, he])
      rw [build_more a (by omega), build_more b (by omega)]
      refine ⟨by simp [i1], fun k => ?_⟩
      cases k with
      | zero => simp [he]
      | succ k => simpa using i2 k

theorem levels_shape {a b : List Nat} (h : b.length = a.length) : (levels b).length = (levels a).length ∧ ∀ k, ((levels b).getD k []).length = ((levels a).getD k []).length := by
  by_cases hz : a.length = 0
  · rw [levels_zero hz, levels_zero (by omega)]; exact ⟨rfl, fun _ => rfl⟩
  · rw [levels_pos (by omega), levels_pos (by omega)]; exact build_shape _ a b (Nat.le_refl _) h

end Go.Proofs.Qxb6000573a
