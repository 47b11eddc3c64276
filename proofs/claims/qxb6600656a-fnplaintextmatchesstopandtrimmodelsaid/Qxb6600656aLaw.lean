/-
  FnPlainTextMatchesStopAndTrimModel: its walk.
-/
import Derived.Test.Qxb6600656aShim
import Derived.OpenShut
namespace Go.Proofs.Qxb6600656a
open Go.RowKit
set_option linter.unusedSimpArgs false
set_option linter.unusedVariables false

theorem Copied.bytes {w : World} {v : Value} {zs : List Int} (h : Copied w v zs) : Bytes w.heap.size w v zs := by
  rcases h with ⟨rfl, rfl⟩ | ⟨g, rfl, hg, hc⟩
  · exact ⟨none, 0, rfl, Nat.le_refl _, .inl rfl⟩
  · exact ⟨_, _, rfl, Nat.le_refl _, .inr ⟨g, 0, rfl, hg, fun j hj => by rw [Nat.zero_add]; exact hc j hj⟩⟩

set_option maxRecDepth 20000 in
set_option maxHeartbeats 2000000 in
theorem law_main (ao : Option Addr) (n cap : Nat) (zs : List Int) (st : Nat) (fl : Bool) (w : World) (hn : zs.length = n) (hnn : n ≤ 1048576) (hst : st ≤ n) (hsrc : 0 < n → ∃ ad, ao = some ad ∧ ∀ j, j < n → w.cell? (ad.add j) = some (.int .u8 (zs.getD j 0))) :
    Calls Try.prog 6 #[.slice ao n cap, .int .i64 (st : Int), .bool fl] w fun e w' => e = .returned (.bool true) ∧ Below w.heap.size w w' := by
  have hC : Hid (Calls Try.prog 16 #[.slice ao n cap] w fun e w' => ∃ ao' cap', e = .returned (.slice ao' n cap') ∧ Hid (Copied w' (.slice ao' n cap') zs) ∧ Hid (Below w.heap.size w w')) := by
    refine (copy_any ao n cap zs w hn hnn hsrc).mono ?_
    rintro e w' ⟨v', rfl, hc, hb⟩
    rcases hc with ⟨rfl, rfl⟩ | ⟨g, rfl, hg, hcc⟩
    · refine ⟨none, 0, ?_, .inl ⟨?_, rfl⟩, hb⟩
      · rw [← hn]; rfl
      · rw [← hn]; rfl
    · rw [← hn]
      exact ⟨_, _, rfl, .inr ⟨g, rfl, hg, hcc⟩, hb⟩
  have HN : Hid (zs.length = n) := hn
  have t1 : decide ((st : Int) < 0) = false := by simp
  clear hsrc hn
  go_enter Try.func6, Try.ntmps6
  go_wp2_with (first | (go_at_call 15; refine (zz15_yes _ _ _ _ _ _ (by omega)).mono ?_; rintro e w' ⟨rfl, hw⟩; obtain rfl := hw.symm) | (go_at_call 16; refine hC.out.mono ?_; rintro e w1 ⟨ao', cap', rfl, HCo, HB1⟩))
  refine (zztext_any (.slice ao' n cap') zs st fl w1 HCo.out (by have := HN.out; omega) (by have := HN.out; omega)).mono ?_
  rintro e w2 ⟨stop, en, hF, rfl, hB2⟩
  have hby : Bytes w1.heap.size w2 (.slice ao' n cap') zs := HCo.out.bytes.below hB2 (Nat.le_refl _)
  have hE : Hid (∀ k : Nat, k ≤ n → Calls Try.prog 18 #[.slice ao' n cap', .int .i64 (st : Int), .int .i64 (k : Int), .bool fl] w2 fun e w' => e = .returned (.bool (endsB zs st k fl)) ∧ w' = w2) := fun k hk => ends_any w1.heap.size ao' n cap' zs st k fl w2 hby HN.out hnn hk
  have HBl : Hid (∀ c wx, Calls Try.prog 19 #[.int .u8 c] wx fun e w' => e = .returned (.bool (blankB c)) ∧ w' = wx) := blankM_any
  have HF : Hid (Found zs st fl stop en ∧ Bytes w1.heap.size w2 (.slice ao' n cap') zs ∧ Below w.heap.size w w2) := ⟨hF, hby, HB1.out.trans (hB2.mono HB1.out.size)⟩
  have HShape : Hid ((ao' = none ∧ n = 0 ∧ cap' = 0) ∨ ∃ g, ao' = some ⟨g, 0, none⟩ ∧ cap' = n ∧ ∀ j, j < n → w2.cell? ⟨g, j, none⟩ = some (.int .u8 (zs.getD j 0))) := by
    rcases HCo.out with ⟨h1, h2⟩ | ⟨g, h1, hg, hc⟩
    · simp at h1
      exact .inl h1
    · simp at h1
      refine .inr ⟨g, h1.1, by rw [h1.2.2, HN.out], fun j hj => ?_⟩
      exact (hB2.cell (p := ⟨g, j, none⟩) hg).trans (hc j (by rw [HN.out]; exact hj))
  have l1 := hF.le1
  have l2 := hF.le2
  have l3 := hF.le3
  rw [HN.out] at l3
  obtain ⟨S, hS⟩ : ∃ S, strOfNums (cut zs st en) = S := ⟨_, rfl⟩
  have HSS : Hid (strOfNums (cut zs st en) = S) := hS
  rw [hS]
  clear hS hF hby hB2 HB1 HCo hC
  go_wp2
  go_loopg [9] (stop - st) (fun gk ss wr => ∃ k : Nat, st ≤ k ∧ k ≤ stop ∧ ss = .int .i64 k ∧ gk = stop - k ∧ w2 = wr)
  case atStart => exact ⟨st, Nat.le_refl _, by omega, rfl, rfl, rfl⟩
  case round =>
    obtain ⟨k, hk1, hk2, rfl, rfl, rfl⟩ := hrel
    by_cases hlt : k < stop
    · have hkn : k < n := by omega
      have hEk : Hid (Calls Try.prog 18 #[.slice ao' n cap', .int .i64 (st : Int), .int .i64 (k : Int), .bool fl] w2 fun e w' => e = .returned (.bool false) ∧ w' = w2) := by
        have := hE.out k (by omega)
        rw [HF.out.1.none k hk1 hlt] at this
        exact this
      go_wp2_with fail
      refine hEk.out.mono ?_
      rintro e w3 ⟨rfl, hw⟩
      obtain rfl := hw.symm
      go_wp2
      go_roundg (stop - (k + 1))
      case measure => omega
      case rel => exact ⟨k + 1, by omega, by omega, by go_num, rfl, rfl⟩
    · have hks : k = stop := by omega
      subst hks
      by_cases hkn : k < n
      focus
        have hEk : Hid (Calls Try.prog 18 #[.slice ao' n cap', .int .i64 (st : Int), .int .i64 (k : Int), .bool fl] w2 fun e w' => e = .returned (.bool true) ∧ w' = w2) := by
          have := hE.out k (by omega)
          rw [HF.out.1.ends] at this
          exact this
        go_wp2_with fail
        refine hEk.out.mono ?_
        rintro e w3 ⟨rfl, hw⟩
        obtain rfl := hw.symm
        go_wp2
        clear hEk
      rotate_left
      focus
        have t2 : decide (k < n) = false := by simp; omega
        go_wp2
      all_goals
        clear hkn
        go_loopg [10] (k - en) (fun gj ee wr => ∃ j : Nat, en ≤ j ∧ j ≤ k ∧ ee = .int .i64 j ∧ gj = j - en ∧ w2 = wr)
        case atStart => exact ⟨k, by omega, Nat.le_refl _, rfl, rfl, rfl⟩
        case round =>
          obtain ⟨j, hj1, hj2, rfl, rfl, rfl⟩ := hrel
          by_cases hje : en < j
          · obtain ⟨b, off, rfl, _, hcs⟩ := HF.out.2.1.at (k := j - 1) (by omega)
            have hcell := hcs (j - 1) (by omega)
            have hbl := HF.out.1.blank (j - 1) (by omega) (by omega)
            have HBx : Hid (∀ wx, Calls Try.prog 19 #[.int .u8 (zs.getD (j - 1) 0)] wx fun e w' => e = .returned (.bool true) ∧ w' = wx) := by
              intro wx
              have := HBl.out (zs.getD (j - 1) 0) wx
              rw [hbl] at this
              exact this
            have hj1' : (j : Int) - 1 = ((j - 1 : Nat) : Int) := by omega
            clear hcs hbl
            generalize zs.getD (j - 1) 0 = c at *
            have hjs : st < j := by omega
            go_wp2_with fail
            refine (HBx.out _).mono ?_
            rintro e w3 ⟨rfl, hw⟩
            obtain rfl := hw.symm
            go_wp2
            go_roundg (j - 1 - en)
            case measure => omega
            case rel => exact ⟨j - 1, by omega, by omega, by go_num, rfl, rfl⟩
          · have hje' : j = en := by omega
            subst hje'
            by_cases hse : j ≤ st
            · have hcv : ∀ ao c, (convert 27 9 (.slice ao 0 c)).run Try.prog w2 = .ok (.string S) w2 := by
                intro ao c
                have := conv_none ao c w2 zs st
                have e : j = st := by omega
                rw [← HSS.out, e]
                exact this
              have t3 : decide (st < j) = false := by simp; omega
              have hz : j - st = 0 := by omega
              rcases HShape.out with ⟨rfl, h2, h3⟩ | ⟨g, rfl, h3, _⟩
              · obtain rfl : st = 0 := by omega
                obtain rfl : j = 0 := by omega
                subst h3
                clear h2 hz
                go_wp2
                all_goals
                  go_ret
                  exact ⟨rfl, HF.out.2.2⟩
              · subst h3
                obtain ⟨A, hA⟩ : ∃ A, (if cap' = st then some (⟨g, 0, none⟩ : Addr) else some ⟨g, st, none⟩) = some A := by
                  by_cases h : cap' = st
                  · exact ⟨_, by rw [if_pos h]⟩
                  · exact ⟨_, by rw [if_neg h]⟩
                go_wp2
                all_goals
                  go_ret
                  exact ⟨rfl, HF.out.2.2⟩
            · rcases HShape.out with ⟨rfl, h2, h3⟩ | ⟨g, rfl, h3, hcs⟩
              · exfalso; omega
              · subst h3
                have hcv : (convert 27 9 (.slice (some ⟨g, st, none⟩) (j - st) (cap' - st))).run Try.prog w2 = .ok (.string S) w2 := by
                  have := conv_some g 0 cap' cap' zs w2 st j HN.out (by omega) (by omega) (fun i hi => by rw [Nat.zero_add]; exact hcs i hi) (cap' - st)
                  rw [HSS.out, Nat.zero_add] at this
                  exact this
                have hne : ¬ cap' = st := by omega
                have hcell := hcs (j - 1) (by omega)
                have hbl : blankB (zs.getD (j - 1) 0) = false := by
                  rcases HF.out.1.last with h | h
                  · exfalso; omega
                  · exact h
                have HBx : Hid (∀ wx, Calls Try.prog 19 #[.int .u8 (zs.getD (j - 1) 0)] wx fun e w' => e = .returned (.bool false) ∧ w' = wx) := by
                  intro wx
                  have := HBl.out (zs.getD (j - 1) 0) wx
                  rw [hbl] at this
                  exact this
                clear hcs hbl
                generalize zs.getD (j - 1) 0 = c at *
                have hjs : st < j := by omega
                go_wp2_with fail
                refine (HBx.out _).mono ?_
                rintro e w3 ⟨rfl, hw⟩
                obtain rfl := hw.symm
                go_wp2
                go_ret
                exact ⟨rfl, HF.out.2.2⟩

set_option maxHeartbeats 400000 in
theorem law_walk (ao : Option Addr) (n cap : Nat) (zs : List Int) (x : Int) (fl : Bool) (w : World) (hn : zs.length = n) (hsrc : 0 < n → ∃ ad, ao = some ad ∧ ∀ j, j < n → w.cell? (ad.add j) = some (.int .u8 (zs.getD j 0))) :
    Calls Try.prog 6 #[.slice ao n cap, .int .i64 x, .bool fl] w fun e w' => e = .returned (.bool true) ∧ Below w.heap.size w w' := by
  by_cases h1 : n ≤ 1048576
  · by_cases hx0 : x < 0
    · clear hsrc hn
      have t1 : decide (x < 0) = true := by simp; omega
      go_enter Try.func6, Try.ntmps6
      go_wp2_with (go_at_call 15; refine (zz15_yes _ _ _ _ _ _ (by omega)).mono ?_; rintro e w' ⟨rfl, hw⟩; obtain rfl := hw.symm)
      go_ret
      exact ⟨rfl, Below.refl _ _⟩
    · obtain ⟨st, rfl⟩ := Int.eq_ofNat_of_zero_le (show 0 ≤ x by omega)
      by_cases hx1 : st ≤ n
      · exact law_main ao n cap zs st fl w hn h1 hx1 hsrc
      · clear hsrc hn
        have t1 : decide ((st : Int) < 0) = false := by simp
        have t2 : n < st := by omega
        go_enter Try.func6, Try.ntmps6
        go_wp2_with (go_at_call 15; refine (zz15_yes _ _ _ _ _ _ (by omega)).mono ?_; rintro e w' ⟨rfl, hw⟩; obtain rfl := hw.symm)
        go_ret
        exact ⟨rfl, Below.refl _ _⟩
  · clear hsrc hn
    go_enter Try.func6, Try.ntmps6
    go_wp2_with (go_at_call 15; refine (zz15_no _ _ _ _ _ _ (by omega)).mono ?_; rintro e w' ⟨rfl, hw⟩; obtain rfl := hw.symm)
    go_ret
    exact ⟨rfl, Below.refl _ _⟩

/-- What the shell tells of the bytes that came in, in this file's words. -/
theorem bytes_of_row {w : World} {a : Option Addr} {len cap : Nat} {zs : List Int}
    (h : (a = none ∧ len = 0 ∧ cap = 0 ∧ zs = []) ∨
      ∃ x, a = some x ∧ len ≤ cap ∧ cap ≤ maxLen ∧ zs.length = cap ∧ (∀ i, i < zs.length → w.cell? (x.add i) = some (.int .u8 (zs.getD i 0))) ∧ ∀ n ∈ zs, (Lit.int .u8 n).wf = true) :
    ∃ ys : List Int, ys.length = len ∧ (0 < len → ∃ ad, a = some ad ∧ ∀ j, j < len → w.cell? (ad.add j) = some (.int .u8 (ys.getD j 0))) := by
  rcases h with ⟨rfl, rfl, rfl, rfl⟩ | ⟨x, rfl, h1, h2, h3, h4, h5⟩
  · exact ⟨[], rfl, fun h => by omega⟩
  · refine ⟨zs.take len, by simp; omega, fun _ => ⟨x, rfl, fun j hj => ?_⟩⟩
    rw [h4 j (by omega)]
    simp [List.getD_eq_getElem?_getD, hj]

end Go.Proofs.Qxb6600656a
