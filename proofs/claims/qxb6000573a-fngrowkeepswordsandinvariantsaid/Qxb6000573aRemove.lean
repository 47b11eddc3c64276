/-
  (*Set).Remove: its contract.
-/
import Derived.Test.Qxb6000573aRows
import Derived.Test.Qxb6000573aBits
import Derived.WalkKit
import Derived.ProofKit
import Derived.WalkLawsBesides
import Derived.WalkSpells
namespace Go.Proofs.Qxb6000573a
open Go.RowKit
set_option linter.unusedSimpArgs false
set_option linter.unusedVariables false
open Pl (build summ levels clrAt clr Fit remW)

/-- What a round of Remove's loop leaves, where the word is not 0 behind it. -/
theorem rem_last (own : Nat → Prop) (wr : World) (v : Value) (G C : Nat → Nat) (done : List (List Nat)) (c : List Nat) (T : List (List Nat)) (m : Nat)
    (hL : Lev own wr v (done ++ build c) G C) (hT : done ++ build (clrAt c m) = T) (hm : m / 64 < c.length)
    (hne : clr (c.getD (m / 64) 0) (m % 64) ≠ 0) :
    Lev own (wr.setCell ⟨G done.length, m / 64, none⟩ (word (clr (c.getD (m / 64) 0) (m % 64)))).drew v T G C := by
  obtain ⟨t, ht⟩ := Pl.build_cons c
  have hlen : done.length < (done ++ build c).length := by rw [ht]; simp
  have h := hL.store hlen (m / 64) (clr (c.getD (m / 64) 0) (m % 64))
  rw [ht, getD_done, set_done] at h
  have e : build (clrAt c m) = clrAt c m :: t := by
    apply build_tail_same (Pl.length_clrAt c m) _ ht
    rw [Pl.summ_clrAt c m hm, if_neg hne]
  rw [← hT, e]
  exact h.drew

/-- .. where it is 0: one level up. -/
theorem rem_next (own : Nat → Prop) (wr : World) (v : Value) (G C : Nat → Nat) (done : List (List Nat)) (c : List Nat) (T : List (List Nat)) (m : Nat)
    (hL : Lev own wr v (done ++ build c) G C) (hT : done ++ build (clrAt c m) = T) (hm : m / 64 < c.length)
    (hz : clr (c.getD (m / 64) 0) (m % 64) = 0) :
    (c.length ≤ 1 ∧ Lev own (wr.setCell ⟨G done.length, m / 64, none⟩ (word 0)).drew v T G C ∧ T.length = done.length + 1) ∨
    (2 ≤ c.length ∧ Lev own (wr.setCell ⟨G done.length, m / 64, none⟩ (word 0)).drew v ((done ++ [clrAt c m]) ++ build (summ c)) G C ∧ (done ++ [clrAt c m]) ++ build (clrAt (summ c) (m / 64)) = T ∧ m / 64 / 64 < (summ c).length) := by
  obtain ⟨t, ht⟩ := Pl.build_cons c
  have hlen : done.length < (done ++ build c).length := by rw [ht]; simp
  have h := hL.store hlen (m / 64) (clr (c.getD (m / 64) 0) (m % 64))
  rw [ht, getD_done, set_done] at h
  rw [hz] at h
  have hcl : clrAt c m = c.set (m / 64) 0 := by unfold clrAt; rw [hz]
  by_cases h1 : c.length ≤ 1
  · refine .inl ⟨h1, ?_, ?_⟩
    · rw [Pl.build_one c h1] at ht
      simp at ht
      rw [← hT, Pl.build_one (clrAt c m) (by rw [Pl.length_clrAt]; exact h1), hcl]
      rw [ht] at h
      exact h.drew
    · rw [← hT, Pl.build_one (clrAt c m) (by rw [Pl.length_clrAt]; exact h1)]; simp
  · refine .inr ⟨by omega, ?_, ?_, ?_⟩
    · rw [Pl.build_more c (by omega)] at ht
      simp at ht
      rw [hcl, List.append_assoc, ht]
      exact h.drew
    · rw [← hT, Pl.build_more (clrAt c m) (by rw [Pl.length_clrAt]; omega), Pl.summ_clrAt c m hm, if_pos hz, List.append_assoc]; rfl
    · rw [Pl.length_summ]; exact Pl.up_lt hm

theorem set_block_kept (own : Nat → Prop) {wr : World} {v : Value} {L : List (List Nat)} {G C : Nat → Nat} (h : Lev own wr v L G C) {S k : Nat} (hk : k < L.length) {u : Value}
    (hS : wr.heap[S]? = some (.cells #[u] 28 (0, 0))) (j : Nat) (x : Value) : (wr.setCell ⟨G k, j, none⟩ x).heap[S]? = some (.cells #[u] 28 (0, 0)) := by
  rw [Below.heap_setCell _ _ _ _ ?_]; exact hS
  intro e
  obtain ⟨cur, hc⟩ := (h.row k hk).2.block
  rw [show G k = S from e.symm, hS] at hc
  simp at hc

set_option maxHeartbeats 1000000 in
theorem remove_walk (own : Nat → Prop) (S O cap i : Nat) (ws : List Nat) (G C : Nat → Nat) (w : World)
    (hws : 1 ≤ ws.length) (hwl : ws.length ≤ 100000) (hfit : Fit ws) (hi : i / 64 < ws.length) (hi2 : i < 9223372036854775808)
    (hS : w.heap[S]? = some (.cells #[.slice (some ⟨O, 0, none⟩) (build ws).length cap] 28 (0, 0)))
    (hL : Lev own w (.slice (some ⟨O, 0, none⟩) (build ws).length cap) (build ws) G C) :
    Calls Try.prog 24 #[.pointer (some ⟨S, 0, none⟩), .int .i64 i] w fun e w' => e = .returned (.tuple #[]) ∧
      w'.heap[S]? = some (.cells #[.slice (some ⟨O, 0, none⟩) (build ws).length cap] 28 (0, 0)) ∧ Lev own w' (.slice (some ⟨O, 0, none⟩) (build ws).length cap) (build (clrAt ws i)) G C ∧ Kept own w w' := by
  have hbl := Pl.build_length ws
  obtain ⟨n, hn⟩ : ∃ n, n = (build ws).length := ⟨_, rfl⟩
  obtain ⟨T, hT⟩ : ∃ T, build (clrAt ws i) = T := ⟨_, rfl⟩
  have hO0 := hL.outer_cell (k := 0) (by omega)
  obtain ⟨t0, ht0⟩ := Pl.build_cons ws
  have hd0 : (build ws).getD 0 [] = ws := by rw [ht0]; rfl
  rw [hd0] at hO0
  have hcS := cell_of_one hS
  have hTl : T.length = n := by
    rw [← hT, hn]; exact build_length_eq _ _ _ (Nat.le_refl _) (Pl.length_clrAt ws i)
  have t1 : ((n : Int) == 0) = false := by rw [beq_eq_false_iff_ne]; omega
  have t2 : decide ((ws.length : Int) ≤ (i : Int) / 64) = false := by simp; omega
  have HB : Hid (build ws = [] ++ build ws ∧ [] ++ build (clrAt ws i) = T) := ⟨rfl, hT⟩
  have HL : Hid (Lev own w (.slice (some ⟨O, 0, none⟩) n cap) (build ws) G C) := by rw [hn]; exact hL
  have HT : Hid (T.length = n) := hTl
  have HK : Hid (w.heap[S]? = some (.cells #[.slice (some ⟨O, 0, none⟩) n cap] 28 (0, 0))) := by rw [hn]; exact hS
  have hn1 : 1 ≤ n := by omega
  have hn2 : n ≤ 100001 := by omega
  rw [hT, ← hn]
  rw [← hn] at hcS
  clear hL hS hT hTl hn ht0 hd0 hbl
  generalize hg0 : G 0 = g0 at hO0
  generalize hc0 : C 0 = c0 at hO0
  clear hg0 hc0
  go_enter Try.func24, Try.ntmps24
  go_wp2
  go_loopw [30, 1] (fun idx iv wr => ∃ (k m : Nat), idx = .int .i64 k ∧ iv = .int .i64 m ∧ k ≤ n ∧ m < 9223372036854775808 ∧ wr.heap[S]? = some (.cells #[.slice (some ⟨O, 0, none⟩) n cap] 28 (0, 0)) ∧ Kept own w wr ∧
      ((k < n ∧ ∃ done c, done.length = k ∧ Lev own wr (.slice (some ⟨O, 0, none⟩) n cap) (done ++ build c) G C ∧ done ++ build (clrAt c m) = T ∧ m / 64 < c.length ∧ c.length ≤ 100000 ∧ Fit c) ∨
       (k = n ∧ Lev own wr (.slice (some ⟨O, 0, none⟩) n cap) T G C))) (fun idx iv wr => n - (intOf idx).toNat)
  case atStart => exact ⟨0, i, rfl, rfl, by omega, hi2, HK, Kept.refl _ _, .inl ⟨by omega, [], ws, rfl, by simpa using HL.out, HB.out.2, hi, hwl, hfit⟩⟩
  case round =>
    obtain ⟨k, m, rfl, rfl, hk, hm, hSr, hkept, hcase⟩ := hrel
    clear t1 t2 hcS hO0
    rcases hcase with ⟨hlt, done, c, hdl, hLr, hTr, hmc, hcl, hfc⟩ | ⟨hke, hLr⟩
    · obtain ⟨tc, htc⟩ := Pl.build_cons c
      have hlen : k < (done ++ build c).length := by rw [htc, ← hdl]; simp
      have hO := hLr.outer_cell hlen
      have hrow := (hLr.row k hlen).2
      have hgd : (done ++ build c).getD k [] = c := by rw [htc, ← hdl]; exact getD_done _ _ _
      rw [hgd] at hO hrow
      have hcx := hrow.cell hmc
      have hfx := hrow.frozen (m / 64)
      have hbits := bits_clr (c.getD (m / 64) 0) m (hfc _)
      obtain ⟨y, hy⟩ : ∃ y, y = clr (c.getD (m / 64) 0) (m % 64) := ⟨_, rfl⟩
      rw [← hy] at hbits
      have hownG := (hLr.row k hlen).1
      have R1 := fun h => rem_last own wr _ G C done c T m hLr hTr hmc h
      have R2 := fun h => rem_next own wr _ G C done c T m hLr hTr hmc h
      have hS2 := set_block_kept own hLr hlen hSr (m / 64) (word y)
      rw [← hy, hdl] at R1 R2
      have hfs := Pl.fit_sumN (Pl.up c.length) c
      have hup : (summ c).length ≤ 100000 := by rw [Pl.length_summ]; unfold Pl.up; omega
      have HH : Hid ((y ≠ 0 → Lev own (wr.setCell ⟨G k, m / 64, none⟩ (word y)).drew (.slice (some ⟨O, 0, none⟩) n cap) T G C) ∧ (y = 0 →
        (c.length ≤ 1 ∧ Lev own (wr.setCell ⟨G k, m / 64, none⟩ (word 0)).drew (.slice (some ⟨O, 0, none⟩) n cap) T G C ∧ T.length = k + 1) ∨
    (2 ≤ c.length ∧ Lev own (wr.setCell ⟨G k, m / 64, none⟩ (word 0)).drew (.slice (some ⟨O, 0, none⟩) n cap) ((done ++ [clrAt c m]) ++ build (summ c)) G C ∧ (done ++ [clrAt c m]) ++ build (clrAt (summ c) (m / 64)) = T ∧ m / 64 / 64 < (summ c).length)) ∧
       ((wr.setCell ⟨G k, m / 64, none⟩ (word y)).heap[S]? = some (.cells #[.slice (some ⟨O, 0, none⟩) n cap] 28 (0, 0))) ∧ own (G k) ∧ Fit (summ c) ∧ done.length = k) := ⟨R1, R2, hS2, hownG, hfs, hdl⟩
      clear R1 R2 hS2 hownG hfs hdl hgd htc hlen hLr hTr hSr hrow hy hfc
      generalize G k = g at *
      generalize C k = cc at *
      generalize c.getD (m / 64) 0 = x at *
      have hylt : (0:Int) ≤ y := by omega
      by_cases hy0 : y = 0
      · have tb : ((y : Int) != 0) = false := by simp [hy0]
        have HY : Hid (y = 0) := hy0
        clear hy0
        go_wp2
        go_region
        all_goals go_wp2
        all_goals
          go_roundw
          case rel =>
            obtain ⟨_, r2, r3, r4, r5, r6⟩ := HH.out
            have hy0 := HY.out
            subst hy0
            have kp := (hkept.setCell (p := ⟨g, m / 64, none⟩) r4 (word 0)).drew
            rcases r2 rfl with ⟨q1, q2, q3⟩ | ⟨q1, q2, q3, q4⟩
            · exact ⟨k + 1, m / 64, by go_num, by go_num, by omega, by omega, r3, kp, .inr ⟨by have := HT.out; omega, q2⟩⟩
            · have hk1 : k + 1 < n := by
                have h1 := HT.out
                have h2 := Pl.build_length (clrAt (summ c) (m / 64))
                rw [← q3] at h1
                simp at h1
                omega
              exact ⟨k + 1, m / 64, by go_num, by go_num, by omega, by omega, r3, kp, .inl ⟨hk1, done ++ [clrAt c m], summ c, by simp [r6], q2, q3, q4, hup, r5⟩⟩
          case measure => simp [intOf]; omega
      · have tb : ((y : Int) != 0) = true := by simp [hy0]
        have HY : Hid (y ≠ 0) := hy0
        clear hy0
        go_wp2
        go_region
        all_goals go_wp2
        all_goals
          refine bodyPost_ret (results_none rfl _ _ _) rfl ?_
          obtain ⟨r1, r2, r3, r4, r5, r6⟩ := HH.out
          exact ⟨rfl, r3, r1 HY.out, (hkept.setCell (p := ⟨g, m / 64, none⟩) r4 (word y)).drew⟩
    · subst hke
      go_wp2
      go_end0
      exact ⟨rfl, hSr, hLr, hkept⟩

theorem levels_pos {ws : List Nat} (h : 1 ≤ ws.length) : levels ws = build ws := by unfold levels; rw [if_neg (by omega)]
theorem levels_zero {ws : List Nat} (h : ws.length = 0) : levels ws = [] := by unfold levels; rw [if_pos h]

set_option maxHeartbeats 400000 in
/-- ████ (*Set).Remove: clears the bit, in every level that says so; does nothing past the set's memory. -/
theorem remove_any (own : Nat → Prop) (S : Nat) (x : Int) (ws : List Nat) (w : World) (hwl : ws.length ≤ 100000) (hfit : Fit ws) (h0 : 0 ≤ x) (h1 : x ≤ 9223372036854775807)
    (hs : SetIs own w S (levels ws)) :
    Calls Try.prog 24 #[.pointer (some ⟨S, 0, none⟩), .int .i64 x] w fun e w' => e = .returned (.tuple #[]) ∧ SetIs own w' S (levels (remW ws x.toNat)) ∧ Kept own w w' := by
  obtain ⟨i, rfl⟩ := Int.eq_ofNat_of_zero_le h0
  rw [Int.toNat_natCast]
  obtain ⟨hoS, v, hv, G, C, hL⟩ := hs
  by_cases hz : ws.length = 0
  · have hrem : remW ws i = ws := by unfold remW; rw [if_neg (by omega)]
    rw [hrem]
    have hsame : SetIs own w S (levels ws) := ⟨hoS, v, hv, G, C, hL⟩
    rw [levels_zero hz] at hL
    rcases hL.shape with ⟨rfl, _⟩ | ⟨O, cap, rfl, _⟩
    · have hcS := cell_of_one hv
      have Hs : Hid (SetIs own w S (levels ws)) := hsame
      clear hsame hL hv hrem hz
      go_enter Try.func24, Try.ntmps24
      go_wp2
      refine bodyPost_ret (results_none rfl _ _ _) rfl ?_
      exact ⟨rfl, Hs.out, Kept.refl _ _⟩
    · have hcS := cell_of_one hv
      have Hs : Hid (SetIs own w S (levels ws)) := hsame
      clear hsame hL hv hrem hz
      simp only [List.length_nil] at hcS
      go_enter Try.func24, Try.ntmps24
      go_wp2
      refine bodyPost_ret (results_none rfl _ _ _) rfl ?_
      exact ⟨rfl, Hs.out, Kept.refl _ _⟩
  · have hp : 1 ≤ ws.length := by omega
    by_cases hi : i / 64 < ws.length
    · have hrem : remW ws i = clrAt ws i := by unfold remW; rw [if_pos hi]
      rw [levels_pos hp] at hL
      rw [hrem, levels_pos (by rw [Pl.length_clrAt]; omega)]
      rcases hL.shape with ⟨_, h⟩ | ⟨O, cap, rfl, _⟩
      · exact absurd h (Pl.build_ne ws)
      · refine (remove_walk own S O cap i ws G C w hp hwl hfit hi (by omega) hv hL).mono ?_
        rintro e w' ⟨rfl, r1, r2, r3⟩
        exact ⟨rfl, ⟨hoS, _, r1, G, C, r2⟩, r3⟩
    · have hrem : remW ws i = ws := by unfold remW; rw [if_neg hi]
      rw [hrem]
      have Hs : Hid (SetIs own w S (levels ws)) := ⟨hoS, v, hv, G, C, hL⟩
      rw [levels_pos hp] at hL
      rcases hL.shape with ⟨_, h⟩ | ⟨O, cap, rfl, _⟩
      · exact absurd h (Pl.build_ne ws)
      · have hbl := Pl.build_length ws
        have hO0 := hL.outer_cell (k := 0) (by omega)
        obtain ⟨t0, ht0⟩ := Pl.build_cons ws
        have hd0 : (build ws).getD 0 [] = ws := by rw [ht0]; rfl
        rw [hd0] at hO0
        have hcS := cell_of_one hv
        generalize (build ws).length = n at *
        have t1 : ((n : Int) == 0) = false := by rw [beq_eq_false_iff_ne]; omega
        have t2 : decide ((ws.length : Int) ≤ (i : Int) / 64) = true := by simp; omega
        clear hL hv ht0 hd0 hrem
        go_enter Try.func24, Try.ntmps24
        go_wp2
        refine bodyPost_ret (results_none rfl _ _ _) rfl ?_
        exact ⟨rfl, Hs.out, Kept.refl _ _⟩

end Go.Proofs.Qxb6000573a
