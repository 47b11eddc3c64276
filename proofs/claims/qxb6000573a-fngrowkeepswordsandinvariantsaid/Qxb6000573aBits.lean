/-
  THE MACHINE's BIT OPERATIONS ON WORDS, IN PLAIN NUMBERS; and small facts on the tower that the walks close their rounds by.
-/
import Derived.WalkKit
import Derived.Laws.BitsAllLaws
import Derived.Test.Qxb6000573aMem
namespace Go.Proofs.Qxb6000573a
open Go.RowKit
set_option linter.unusedSimpArgs false
set_option linter.unusedVariables false

theorem wrap_pow (m : Nat) : IntKind.u64.wrap (2 ^ (m % 64)) = ((2 ^ (m % 64) : Nat) : Int) := by
  have h := Pl.pow_lt_m64 m
  unfold Pl.m64 at h
  rw [IntKind.wrap_u64]
  have e : (2 : Int) ^ (m % 64) = ((2 ^ (m % 64) : Nat) : Int) := by simp
  rw [e]
  generalize 2 ^ (m % 64) = q at h
  exact Int.emod_eq_of_lt (by omega) (by omega)

theorem bits_clr (x m : Nat) (hx : x < Pl.m64) : bits .andNot .u64 (x : Int) (IntKind.u64.wrap (2 ^ (m % 64))) = ((Pl.clr x (m % 64) : Nat) : Int) := by
  rw [wrap_pow, u64_andNot_nat x _ hx (Pl.pow_lt_m64 m)]
  rfl

theorem bits_or (x m : Nat) (hx : x < Pl.m64) : bits .or .u64 (x : Int) (IntKind.u64.wrap (2 ^ (m % 64))) = ((x ||| 2 ^ (m % 64) : Nat) : Int) := by
  rw [wrap_pow, u64_or_nat x _ hx (Pl.pow_lt_m64 m)]

/-! ### The tower's tail -/
open Pl

theorem getD_done (done : List (List Nat)) (c : List Nat) (t : List (List Nat)) : (done ++ c :: t).getD done.length [] = c := by
  simp [List.getD_eq_getElem?_getD]

theorem set_done (done : List (List Nat)) (c c' : List Nat) (t : List (List Nat)) : (done ++ c :: t).set done.length c' = done ++ c' :: t := by
  simp

theorem build_tail_same {c c' : List Nat} (hl : c'.length = c.length) (hs : summ c' = summ c) {t : List (List Nat)} (h : build c = c :: t) : build c' = c' :: t := by
  by_cases h1 : c.length ≤ 1
  · rw [build_one c h1] at h
    rw [build_one c' (by omega)]
    simp at h; rw [h]
  · rw [build_more c (by omega)] at h
    rw [build_more c' (by omega), hs]
    simp at h; rw [h]

theorem build_length_eq : ∀ (n : Nat) (a b : List Nat), a.length ≤ n → a.length = b.length → (build a).length = (build b).length := by
  intro n
  induction n with
  | zero => intro a b hn he; rw [build_one a (by omega), build_one b (by omega)]; rfl
  | succ n ih =>
    intro a b hn he
    by_cases h1 : a.length ≤ 1
    · rw [build_one a h1, build_one b (by omega)]; rfl
    · rw [build_more a (by omega), build_more b (by omega), List.length_cons, List.length_cons, ih (summ a) (summ b)]
      · rw [length_summ]; have := up_le a.length (by omega); omega
      · rw [length_summ, length_summ, he]

end Go.Proofs.Qxb6000573a
