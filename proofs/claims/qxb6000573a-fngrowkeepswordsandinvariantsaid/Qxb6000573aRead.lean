/-
  THE READERS: ZZLevels, member, sameShape, sameLevels, levelsHold.
-/
import Derived.Test.Qxb6000573aInts
import Derived.Deep.QuietTactic
import Derived.BigQuiet
namespace Go.Proofs.Qxb6000573a
open Go.RowKit
set_option linter.unusedSimpArgs false
set_option linter.unusedVariables false
open Pl

theorem zzlevels_any (S : Nat) (v : Value) (w : World) (hS : w.heap[S]? = some (.cells #[v] 28 (0, 0))) :
    Calls Try.prog 14 #[.pointer (some ⟨S, 0, none⟩)] w fun e w' => e = .returned v ∧ w' = w := by
  have hcS := cell_of_one hS
  clear hS
  go_enter Try.func14, Try.ntmps14
  go_wp2
  go_ret
  exact ⟨rfl, rfl⟩

/-- bit m%64 of a word, as the machine asks it. -/
theorem bit_asked (x m : Nat) (hx : x < m64) : ∃ q : Nat, bits .and .u64 ((x : Int) / 2 ^ (m % 64)) 1 = (q : Int) ∧ x.testBit (m % 64) = ((q : Int) == 1) := by
  refine ⟨x / 2 ^ (m % 64) % 2, ?_, ?_⟩
  · have h1 : (x : Int) / 2 ^ (m % 64) = ((x / 2 ^ (m % 64) : Nat) : Int) := by
      rw [Int.natCast_ediv]; simp
    rw [h1, show (1 : Int) = ((1 : Nat) : Int) from rfl, u64_and_nat _ _ (Nat.lt_of_le_of_lt (Nat.div_le_self _ _) hx) (by decide)]
    simp [Nat.and_one_is_mod]
  · rw [Nat.testBit_eq_decide_div_mod_eq]
    generalize x / 2 ^ (m % 64) % 2 = q
    rw [Bool.eq_iff_iff]; simp; omega

set_option maxHeartbeats 400000 in
theorem member_any (own : Nat → Prop) (v : Value) (ws : List Nat) (x : Int) (w : World) (h0 : 0 ≤ x) (h1 : x ≤ 9223372036854775807) (hl : ws.length ≤ 90000) (hf : Fit ws) (hL : LevE own w v (levels ws)) :
    Calls Try.prog 15 #[v, .int .i64 x] w fun e w' => e = .returned (.bool (bitAt ws x.toNat)) ∧ w' = w := by
  obtain ⟨i, rfl⟩ := Int.eq_ofNat_of_zero_le h0
  rw [Int.toNat_natCast]
  obtain ⟨G, C, hL⟩ := hL
  by_cases hz : ws.length = 0
  · rw [levels_zero hz] at hL
    obtain ⟨ao, cap, rfl⟩ := hL.form (k := 0) rfl
    have HB : Hid (bitAt ws i = false) := by
      show bitAt ws i = false
      unfold bitAt; rw [getD_ge ws _ (by omega)]; simp
    clear hL hz
    go_enter Try.func15, Try.ntmps15
    go_wp2
    go_ret
    rw [HB.out]
    exact ⟨rfl, rfl⟩
  · have hp : 1 ≤ ws.length := by omega
    rw [levels_pos hp] at hL
    rcases hL.shape with ⟨_, h⟩ | ⟨O, cap, rfl, _⟩
    · exact absurd h (build_ne ws)
    have hbl := build_length ws
    obtain ⟨t, ht⟩ := build_cons ws
    have hgd : (build ws).getD 0 [] = ws := by rw [ht]; rfl
    have hO := hL.outer_cell (k := 0) (by omega)
    have hrow := (hL.row 0 (by omega)).2
    rw [hgd] at hO hrow
    generalize G 0 = g at *
    generalize C 0 = cc at *
    obtain ⟨n, hn⟩ : ∃ n, n = (build ws).length := ⟨_, rfl⟩
    rw [← hn] at hbl ⊢
    have t1 : ((n : Int) == 0) = false := by rw [beq_eq_false_iff_ne]; omega
    by_cases hi : i / 64 < ws.length
    · have hc := hrow.cell hi
      obtain ⟨q, hbit, hq⟩ := bit_asked (ws.getD (i / 64) 0) i (hf _)
      have HB : Hid (bitAt ws i = ((q : Int) == 1)) := hq
      clear hL hgd ht hn hrow hz hq
      generalize ws.getD (i / 64) 0 = y at *
      go_enter Try.func15, Try.ntmps15
      go_wp2
      go_ret
      rw [HB.out]
      exact ⟨rfl, rfl⟩
    · have HB : Hid (bitAt ws i = false) := by
        show bitAt ws i = false
        unfold bitAt; rw [getD_ge ws _ (by omega)]; simp
      clear hL hgd ht hn hrow hz
      go_enter Try.func15, Try.ntmps15
      go_wp2
      go_ret
      rw [HB.out]
      exact ⟨rfl, rfl⟩
end Go.Proofs.Qxb6000573a
