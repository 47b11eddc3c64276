/-
  (*Set).Add: its contract.
-/
import Derived.Test.Qxb6000573aGrow
namespace Go.Proofs.Qxb6000573a
open Go.RowKit
set_option linter.unusedSimpArgs false
set_option linter.unusedVariables false
open Pl

/-- What a round of Add's loop leaves, where the word was not 0 ahead of it. -/
theorem add_last (own : Nat → Prop) (wr : World) (v : Value) (G C : Nat → Nat) (done : List (List Nat)) (c : List Nat) (T : List (List Nat)) (m : Nat)
    (hL : Lev own wr v (done ++ build c) G C) (hT : done ++ build (orAt c m) = T) (hm : m / 64 < c.length)
    (hne : c.getD (m / 64) 0 ≠ 0) :
    Lev own (wr.setCell ⟨G done.length, m / 64, none⟩ (word (c.getD (m / 64) 0 ||| 2 ^ (m % 64)))).drew v T G C := by
  obtain ⟨t, ht⟩ := Pl.build_cons c
  have hlen : done.length < (done ++ build c).length := by rw [ht]; simp
  have h := hL.store hlen (m / 64) (c.getD (m / 64) 0 ||| 2 ^ (m % 64))
  rw [ht, getD_done, set_done] at h
  have e : build (orAt c m) = orAt c m :: t := by
    apply build_tail_same (Pl.length_orAt c m) _ ht
    rw [Pl.summ_orAt c m hm, if_neg hne]
  rw [← hT, e]
  exact h.drew

theorem add_next (own : Nat → Prop) (wr : World) (v : Value) (G C : Nat → Nat) (done : List (List Nat)) (c : List Nat) (T : List (List Nat)) (m : Nat)
    (hL : Lev own wr v (done ++ build c) G C) (hT : done ++ build (orAt c m) = T) (hm : m / 64 < c.length)
    (hz : c.getD (m / 64) 0 = 0) :
    (c.length ≤ 1 ∧ Lev own (wr.setCell ⟨G done.length, m / 64, none⟩ (word (c.getD (m / 64) 0 ||| 2 ^ (m % 64)))).drew v T G C ∧ T.length = done.length + 1) ∨
    (2 ≤ c.length ∧ Lev own (wr.setCell ⟨G done.length, m / 64, none⟩ (word (c.getD (m / 64) 0 ||| 2 ^ (m % 64)))).drew v ((done ++ [orAt c m]) ++ build (summ c)) G C ∧ (done ++ [orAt c m]) ++ build (orAt (summ c) (m / 64)) = T ∧ m / 64 / 64 < (summ c).length) := by
  obtain ⟨t, ht⟩ := Pl.build_cons c
  have hlen : done.length < (done ++ build c).length := by rw [ht]; simp
  have h := hL.store hlen (m / 64) (c.getD (m / 64) 0 ||| 2 ^ (m % 64))
  rw [ht, getD_done, set_done] at h
  change Lev own _ v (done ++ orAt c m :: t) G C at h
  by_cases h1 : c.length ≤ 1
  · refine .inl ⟨h1, ?_, ?_⟩
    · rw [Pl.build_one c h1] at ht
      simp at ht
      rw [← hT, Pl.build_one (orAt c m) (by rw [Pl.length_orAt]; exact h1)]
      rw [ht] at h
      exact h.drew
    · rw [← hT, Pl.build_one (orAt c m) (by rw [Pl.length_orAt]; exact h1)]; simp
  · refine .inr ⟨by omega, ?_, ?_, ?_⟩
    · rw [Pl.build_more c (by omega)] at ht
      simp at ht
      rw [List.append_assoc, ht]
      exact h.drew
    · rw [← hT, Pl.build_more (orAt c m) (by rw [Pl.length_orAt]; omega), Pl.summ_orAt c m hm, if_pos hz, List.append_assoc]; rfl
    · rw [Pl.length_summ]; exact Pl.up_lt hm

set_option maxHeartbeats 2000000 in
theorem add_any (own : Nat → Prop) (S : Nat) (x : Int) (ws : List Nat) (w : World) (hwl : ws.length ≤ 90000) (hfit : Fit ws) (h0 : 0 ≤ x) (h1 : x ≤ 65536) (hnew : ∀ b, w.heap.size ≤ b → own b)
    (hs : SetIs own w S (levels ws)) :
    Calls Try.prog 20 #[.pointer (some ⟨S, 0, none⟩), .int .i64 x] w fun e w' => e = .returned (.tuple #[]) ∧ SetIs own w' S (levels (addW ws x.toNat)) ∧ Kept own w w' := by
  obtain ⟨i, rfl⟩ := Int.eq_ofNat_of_zero_le h0
  have HG : Hid (Calls Try.prog 30 #[.pointer (some ⟨S, 0, none⟩), .int .i64 (i : Int)] w fun e w' => e = .returned (.tuple #[]) ∧ SetIs own w' S (levels (pad ws (i / 64 + 1))) ∧ Kept own w w') := grow_any own S i ws w hwl hfit h0 h1 hnew hs
  rw [Int.toNat_natCast]
  have hpl := length_pad ws (i / 64 + 1)
  have hlev : levels (addW ws i) = build (orAt (pad ws (i / 64 + 1)) i) := levels_pos (by unfold addW; rw [length_orAt]; omega)
  rw [hlev]
  have hfp : Fit (pad ws (i / 64 + 1)) := fit_pad hfit _
  obtain ⟨ps, hps⟩ : ∃ ps, ps = pad ws (i / 64 + 1) := ⟨_, rfl⟩
  rw [← hps] at HG hpl hfp ⊢
  have hlp : levels ps = build ps := levels_pos (by omega)
  rw [hlp] at HG
  have hbl := build_length ps
  have hTl : (build (orAt ps i)).length = (build ps).length := build_length_eq _ _ _ (Nat.le_refl _) (length_orAt ps i)
  have hpi : i / 64 < ps.length := by omega
  have hplen : ps.length ≤ 100000 := by omega
  obtain ⟨T, hT⟩ : ∃ T, build (orAt ps i) = T := ⟨_, rfl⟩
  rw [hT] at hTl ⊢
  have HB : Hid (build (orAt ps i) = T ∧ T.length = (build ps).length) := ⟨hT, hTl⟩
  clear hs hlev hps hlp hT hTl hnew hpl
  go_enter Try.func20, Try.ntmps20
  go_wp2_with fail
  refine HG.out.mono ?_
  rintro e w1 ⟨rfl, ⟨hoS, v, hv, G, C, hL⟩, hk1⟩
  rcases hL.shape with ⟨_, h⟩ | ⟨O, cap, rfl, hoO, hcap, _⟩
  · exact absurd h (build_ne ps)
  obtain ⟨n, hn⟩ : ∃ n, n = (build ps).length := ⟨_, rfl⟩
  have HL : Hid (Lev own w1 (.slice (some ⟨O, 0, none⟩) n cap) (build ps) G C) := by rw [hn]; exact hL
  have HT : Hid (T.length = n) := by rw [hn]; exact HB.out.2
  have HK : Hid (w1.heap[S]? = some (.cells #[.slice (some ⟨O, 0, none⟩) n cap] 28 (0, 0))) := by rw [hn]; exact hv
  have hcS := cell_of_one hv
  rw [← hn] at hcS
  have hn1 : 1 ≤ n := by omega
  have hn2 : n ≤ 100001 := by omega
  clear hL hv hn hbl HG
  go_wp2
  go_loopw [16, 1] (fun idx iv wr => ∃ (k m : Nat), idx = .int .i64 k ∧ iv = .int .i64 m ∧ k ≤ n ∧ m < 9223372036854775808 ∧ wr.heap[S]? = some (.cells #[.slice (some ⟨O, 0, none⟩) n cap] 28 (0, 0)) ∧ Kept own w wr ∧
      ((k < n ∧ ∃ done c, done.length = k ∧ Lev own wr (.slice (some ⟨O, 0, none⟩) n cap) (done ++ build c) G C ∧ done ++ build (orAt c m) = T ∧ m / 64 < c.length ∧ c.length ≤ 100000 ∧ Fit c) ∨
       (k = n ∧ Lev own wr (.slice (some ⟨O, 0, none⟩) n cap) T G C))) (fun idx iv wr => n - (intOf idx).toNat)
  case atStart => exact ⟨0, i, rfl, rfl, by omega, by omega, HK, hk1, .inl ⟨by omega, [], ps, rfl, by simpa using HL.out, HB.out.1, hpi, hplen, hfp⟩⟩
  case round =>
    obtain ⟨k, m, rfl, rfl, hk, hm, hSr, hkept, hcase⟩ := hrel
    clear hcS
    rcases hcase with ⟨hlt, done, c, hdl, hLr, hTr, hmc, hcl, hfc⟩ | ⟨hke, hLr⟩
    · obtain ⟨tc, htc⟩ := Pl.build_cons c
      have hlen : k < (done ++ build c).length := by rw [htc, ← hdl]; simp
      have hO := hLr.outer_cell hlen
      have hrow := (hLr.row k hlen).2
      have hgd : (done ++ build c).getD k [] = c := by rw [htc, ← hdl]; exact getD_done _ _ _
      rw [hgd] at hO hrow
      have hcx := hrow.cell hmc
      have hfx := hrow.frozen (m / 64)
      have hbits := bits_or (c.getD (m / 64) 0) m (hfc _)
      have hownG := (hLr.row k hlen).1
      have R1 := fun h => add_last own wr _ G C done c T m hLr hTr hmc h
      have R2 := fun h => add_next own wr _ G C done c T m hLr hTr hmc h
      have hS2 := set_block_kept own hLr hlen hSr (m / 64) (word (c.getD (m / 64) 0 ||| 2 ^ (m % 64)))
      rw [hdl] at R1 R2
      have hfs := Pl.fit_sumN (Pl.up c.length) c
      have hup : (summ c).length ≤ 100000 := by rw [Pl.length_summ]; unfold Pl.up; omega
      have HH : Hid ((c.getD (m / 64) 0 ≠ 0 → Lev own (wr.setCell ⟨G k, m / 64, none⟩ (word (c.getD (m / 64) 0 ||| 2 ^ (m % 64)))).drew (.slice (some ⟨O, 0, none⟩) n cap) T G C) ∧ (c.getD (m / 64) 0 = 0 →
        (c.length ≤ 1 ∧ Lev own (wr.setCell ⟨G k, m / 64, none⟩ (word (c.getD (m / 64) 0 ||| 2 ^ (m % 64)))).drew (.slice (some ⟨O, 0, none⟩) n cap) T G C ∧ T.length = k + 1) ∨
    (2 ≤ c.length ∧ Lev own (wr.setCell ⟨G k, m / 64, none⟩ (word (c.getD (m / 64) 0 ||| 2 ^ (m % 64)))).drew (.slice (some ⟨O, 0, none⟩) n cap) ((done ++ [orAt c m]) ++ build (summ c)) G C ∧ (done ++ [orAt c m]) ++ build (orAt (summ c) (m / 64)) = T ∧ m / 64 / 64 < (summ c).length)) ∧
       ((wr.setCell ⟨G k, m / 64, none⟩ (word (c.getD (m / 64) 0 ||| 2 ^ (m % 64)))).heap[S]? = some (.cells #[.slice (some ⟨O, 0, none⟩) n cap] 28 (0, 0))) ∧ own (G k) ∧ Fit (summ c) ∧ done.length = k) := ⟨R1, R2, hS2, hownG, hfs, hdl⟩
      clear R1 R2 hS2 hownG hfs hdl hgd htc hlen hLr hTr hSr hrow hfc
      generalize G k = g at *
      generalize C k = cc at *
      generalize c.getD (m / 64) 0 = x at *
      generalize x ||| 2 ^ (m % 64) = y at *
      by_cases hx0 : x = 0
      · have tb : ((x : Int) != 0) = false := by simp [hx0]
        have HY : Hid (x = 0) := hx0
        clear hx0
        go_wp2
        go_region
        all_goals go_wp2
        all_goals
          go_roundw
          case rel =>
            obtain ⟨_, r2, r3, r4, r5, r6⟩ := HH.out
            have kp := (hkept.setCell (p := ⟨g, m / 64, none⟩) r4 (word y)).drew
            rcases r2 HY.out with ⟨q1, q2, q3⟩ | ⟨q1, q2, q3, q4⟩
            · exact ⟨k + 1, m / 64, by go_num, by go_num, by omega, by omega, r3, kp, .inr ⟨by have := HT.out; omega, q2⟩⟩
            · have hk1 : k + 1 < n := by
                have h1 := HT.out
                have h2 := Pl.build_length (orAt (summ c) (m / 64))
                rw [← q3] at h1
                simp at h1
                omega
              exact ⟨k + 1, m / 64, by go_num, by go_num, by omega, by omega, r3, kp, .inl ⟨hk1, done ++ [orAt c m], summ c, by simp [r6], q2, q3, q4, hup, r5⟩⟩
          case measure => simp [intOf]; omega
      · have tb : ((x : Int) != 0) = true := by simp [hx0]
        have HY : Hid (x ≠ 0) := hx0
        clear hx0
        go_wp2
        go_region
        all_goals go_wp2
        all_goals
          refine bodyPost_ret (results_none rfl _ _ _) rfl ?_
          obtain ⟨r1, r2, r3, r4, r5, r6⟩ := HH.out
          exact ⟨rfl, ⟨hoS, _, r3, G, C, r1 HY.out⟩, (hkept.setCell (p := ⟨g, m / 64, none⟩) r4 (word y)).drew⟩
    · subst hke
      go_wp2
      go_end0
      exact ⟨rfl, ⟨hoS, _, hSr, G, C, hLr⟩, hkept⟩
end Go.Proofs.Qxb6000573a
