/-
  isIdentifier; the law's walk.
-/
import Derived.Test.Qxb6601179aIdent
namespace Go.Proofs.Qxb6601179a
open Go.RowKit
set_option linter.unusedSimpArgs false
set_option linter.unusedVariables false

/-- '[]byte(s)': a new row that holds the bytes. -/
theorem bytes_made (s : ByteArray) (w : World) : ∃ cap w1, (convert 9 26 (.string s)).run Try.prog w = .ok (.slice (some ⟨w.heap.size, 0, none⟩) s.size cap) w1 ∧
    (∀ k, k < s.size → w1.cell? ⟨w.heap.size, k, none⟩ = some (.int .u8 ((byteN s k : Nat) : Int))) ∧ Below w.heap.size w w1 := by
  refine ⟨_, _, run_bytes_of_string (P := Try.prog) w 9 26 5 s Try.underlying9 Try.underlying26 Try.underlying5, fun k hk => ?_, ?_⟩
  · have h1 := bytesRow_at s (grownCap w s.size 0 5) k hk
    have h2 := byteN_at s k hk
    rw [← h2]
    show World.cell? (w.drew.alloc _) ⟨w.drew.heap.size, k, none⟩ = _
    rw [World.cell?_alloc_mark, h1]
    rfl
  · exact ((Below.refl _ _).drew).alloc (Nat.le_refl _) _

set_option maxRecDepth 20000 in
set_option maxHeartbeats 1000000 in
theorem ident_any (s : ByteArray) (hs : s.size ≤ 1048576) (w : World) : Calls Try.prog 12 #[.string s] w fun e w' => e = .returned (.bool (identB s)) ∧ Below w.heap.size w w' := by
  obtain ⟨cap, w1, hcv, hcell, hB⟩ := bytes_made s w
  have HC : Hid ((∀ k, k < s.size → w1.cell? ⟨w.heap.size, k, none⟩ = some (.int .u8 ((byteN s k : Nat) : Int))) ∧ Below w.heap.size w w1) := ⟨hcell, hB⟩
  clear hcell hB
  go_enter Try.func12, Try.ntmps12
  go_wp2
  go_loopg [9] s.size (fun gk ii wr => ∃ k : Nat, k ≤ s.size ∧ ii = .int .i64 k ∧ gk = s.size - k ∧ allTo s k = true ∧ w1 = wr)
  case atStart => exact ⟨0, Nat.zero_le _, rfl, rfl, rfl, rfl⟩
  case round =>
    obtain ⟨k, hk, rfl, rfl, hall, rfl⟩ := hrel
    have HA : Hid (allTo s k = true) := hall
    clear hall hcv
    by_cases hlt : k < s.size
    · have hc := HC.out.1 k hlt
      have hltn := byteN_lt s k
      obtain ⟨n, hn⟩ : ∃ n, byteN s k = n := ⟨_, rfl⟩
      rw [hn] at hc hltn
      have HO : Hid ((letB n || (decide (k ≠ 0) && digB n)) = true → okAt s k = true) := by
        intro h; unfold okAt; rw [hn]; exact h
      have HX : Hid ((letB n || (decide (k ≠ 0) && digB n)) = false → okAt s k = false) := by
        intro h; unfold okAt; rw [hn]; exact h
      clear hn
      by_cases h95 : n = 95
      · have te : ((n : Int) == 95) = true := by simp [h95]
        have HL : Hid (letB n = true) := by rw [h95]; rfl
        clear h95
        go_wp2
        go_roundg (s.size - (k + 1))
        case measure => omega
        case rel => exact ⟨k + 1, by omega, by go_num, rfl, by unfold allTo; rw [HA.out, HO.out (by rw [HL.out]; rfl)]; rfl, rfl⟩
      have te : ((n : Int) == 95) = false := by rw [beq_eq_false_iff_ne]; omega
      by_cases hlow : 97 ≤ n ∧ n ≤ 122
      · obtain ⟨g1, g2⟩ := hlow
        have HL : Hid (letB n = true) := by
          show letB n = true
          unfold letB lowB; simp [g1, g2]
        have b97 : decide ((97 : Int) ≤ (n : Int)) = true := by simp; omega
        have b122 : decide ((n : Int) ≤ 122) = true := by simp; omega
        go_wp2
        go_roundg (s.size - (k + 1))
        case measure => omega
        case rel => exact ⟨k + 1, by omega, by go_num, rfl, by unfold allTo; rw [HA.out, HO.out (by rw [HL.out]; rfl)]; rfl, rfl⟩
      by_cases hcap : 65 ≤ n ∧ n ≤ 90
      · obtain ⟨g1, g2⟩ := hcap
        have HL : Hid (letB n = true) := by
          show letB n = true
          unfold letB capB; simp [g1, g2]
        have g3 : n < 97 := by omega
        clear hlow
        have b97 : decide ((97 : Int) ≤ (n : Int)) = false := by simp; omega
        have b65 : decide ((65 : Int) ≤ (n : Int)) = true := by simp; omega
        have b90 : decide ((n : Int) ≤ 90) = true := by simp; omega
        go_wp2
        go_roundg (s.size - (k + 1))
        case measure => omega
        case rel => exact ⟨k + 1, by omega, by go_num, rfl, by unfold allTo; rw [HA.out, HO.out (by rw [HL.out]; rfl)]; rfl, rfl⟩
      have HL : Hid (letB n = false) := by
        show letB n = false
        have e : (n == 95) = false := by rw [beq_eq_false_iff_ne]; exact h95
        unfold letB lowB capB
        rw [e]
        simp; omega
      have hrange : n < 48 ∨ (48 ≤ n ∧ n ≤ 57) ∨ (57 < n ∧ n < 65) ∨ (90 < n ∧ n < 97) ∨ 122 < n := by omega
      clear hlow hcap h95
      by_cases hk0 : k = 0
      · have tk : ((k : Int) == 0) = true := by simp [hk0]
        have HF : Hid (okAt s k = false) := by
          refine HX.out ?_
          rw [HL.out]; simp [hk0]
        clear hk0
        rcases hrange with g | ⟨g1, g2⟩ | ⟨g1, g2⟩ | ⟨g1, g2⟩ | g
        · have b97 : decide ((97 : Int) ≤ (n : Int)) = false := by simp; omega
          have b65 : decide ((65 : Int) ≤ (n : Int)) = false := by simp; omega
          have b48 : decide ((n : Int) < 48) = true := by simp; omega
          go_wp2
          go_ret
          rw [ident_false s k hlt (HF.out)]
          exact ⟨rfl, HC.out.2⟩
        · have b97 : decide ((97 : Int) ≤ (n : Int)) = false := by simp; omega
          have b65 : decide ((65 : Int) ≤ (n : Int)) = false := by simp; omega
          have b48 : decide ((n : Int) < 48) = false := by simp; omega
          have b57 : decide ((57 : Int) < (n : Int)) = false := by simp; omega
          go_wp2
          go_ret
          rw [ident_false s k hlt (HF.out)]
          exact ⟨rfl, HC.out.2⟩
        · have b97 : decide ((97 : Int) ≤ (n : Int)) = false := by simp; omega
          have b65 : decide ((65 : Int) ≤ (n : Int)) = false := by simp; omega
          have b48 : decide ((n : Int) < 48) = false := by simp; omega
          have b57 : decide ((57 : Int) < (n : Int)) = true := by simp; omega
          go_wp2
          go_ret
          rw [ident_false s k hlt (HF.out)]
          exact ⟨rfl, HC.out.2⟩
        · have b97 : decide ((97 : Int) ≤ (n : Int)) = false := by simp; omega
          have b65 : decide ((65 : Int) ≤ (n : Int)) = true := by simp; omega
          have b90 : decide ((n : Int) ≤ 90) = false := by simp; omega
          have b48 : decide ((n : Int) < 48) = false := by simp; omega
          have b57 : decide ((57 : Int) < (n : Int)) = true := by simp; omega
          go_wp2
          go_ret
          rw [ident_false s k hlt (HF.out)]
          exact ⟨rfl, HC.out.2⟩
        · have b97 : decide ((97 : Int) ≤ (n : Int)) = true := by simp; omega
          have b122 : decide ((n : Int) ≤ 122) = false := by simp; omega
          have b65 : decide ((65 : Int) ≤ (n : Int)) = true := by simp; omega
          have b90 : decide ((n : Int) ≤ 90) = false := by simp; omega
          have b48 : decide ((n : Int) < 48) = false := by simp; omega
          have b57 : decide ((57 : Int) < (n : Int)) = true := by simp; omega
          go_wp2
          go_ret
          rw [ident_false s k hlt (HF.out)]
          exact ⟨rfl, HC.out.2⟩
      · have tk : ((k : Int) == 0) = false := by rw [beq_eq_false_iff_ne]; omega
        by_cases hd : 48 ≤ n ∧ n ≤ 57
        · obtain ⟨g1, g2⟩ := hd
          have HD : Hid ((letB n || (decide (k ≠ 0) && digB n)) = true) := by
            show (letB n || (decide (k ≠ 0) && digB n)) = true
            rw [HL.out]; unfold digB; simp [hk0, g1, g2]
          clear hrange
          have b97 : decide ((97 : Int) ≤ (n : Int)) = false := by simp; omega
          have b65 : decide ((65 : Int) ≤ (n : Int)) = false := by simp; omega
          have b48 : decide ((n : Int) < 48) = false := by simp; omega
          have b57 : decide ((57 : Int) < (n : Int)) = false := by simp; omega
          go_wp2
          go_roundg (s.size - (k + 1))
          case measure => omega
          case rel => exact ⟨k + 1, by omega, by go_num, rfl, by unfold allTo; rw [HA.out, HO.out (HD.out)]; rfl, rfl⟩
        · have HF : Hid (okAt s k = false) := by
            refine HX.out ?_
            rw [HL.out]; unfold digB
            simp; omega
          rcases hrange with g | ⟨g1, g2⟩ | ⟨g1, g2⟩ | ⟨g1, g2⟩ | g
          · have b97 : decide ((97 : Int) ≤ (n : Int)) = false := by simp; omega
            have b65 : decide ((65 : Int) ≤ (n : Int)) = false := by simp; omega
            have b48 : decide ((n : Int) < 48) = true := by simp; omega
            clear hd
            go_wp2
            go_ret
            rw [ident_false s k hlt (HF.out)]
            exact ⟨rfl, HC.out.2⟩
          · exact absurd ⟨g1, g2⟩ hd
          · have b97 : decide ((97 : Int) ≤ (n : Int)) = false := by simp; omega
            have b65 : decide ((65 : Int) ≤ (n : Int)) = false := by simp; omega
            have b48 : decide ((n : Int) < 48) = false := by simp; omega
            have b57 : decide ((57 : Int) < (n : Int)) = true := by simp; omega
            clear hd
            go_wp2
            go_ret
            rw [ident_false s k hlt (HF.out)]
            exact ⟨rfl, HC.out.2⟩
          · have b97 : decide ((97 : Int) ≤ (n : Int)) = false := by simp; omega
            have b65 : decide ((65 : Int) ≤ (n : Int)) = true := by simp; omega
            have b90 : decide ((n : Int) ≤ 90) = false := by simp; omega
            have b48 : decide ((n : Int) < 48) = false := by simp; omega
            have b57 : decide ((57 : Int) < (n : Int)) = true := by simp; omega
            clear hd
            go_wp2
            go_ret
            rw [ident_false s k hlt (HF.out)]
            exact ⟨rfl, HC.out.2⟩
          · have b97 : decide ((97 : Int) ≤ (n : Int)) = true := by simp; omega
            have b122 : decide ((n : Int) ≤ 122) = false := by simp; omega
            have b65 : decide ((65 : Int) ≤ (n : Int)) = true := by simp; omega
            have b90 : decide ((n : Int) ≤ 90) = false := by simp; omega
            have b48 : decide ((n : Int) < 48) = false := by simp; omega
            have b57 : decide ((57 : Int) < (n : Int)) = true := by simp; omega
            clear hd
            go_wp2
            go_ret
            rw [ident_false s k hlt (HF.out)]
            exact ⟨rfl, HC.out.2⟩
    · have hke : k = s.size := by omega
      have hemp : s.toList.isEmpty = decide (s.size = 0) := by
        rw [ByteArray.toList_eq]
        cases h : s.data.toList with
        | nil =>
          have : s.size = 0 := by
            have := congrArg List.length h
            simpa using this
          simp [this]
        | cons x t =>
          have : s.size ≠ 0 := by
            have h2 : s.data.toList.length = t.length + 1 := by rw [h]; rfl
            have h3 : s.data.toList.length = s.data.size := Array.length_toList
            show s.data.size ≠ 0
            omega
          simp [this]
      have HE : Hid (identB s = !s.toList.isEmpty) := by
        show identB s = !s.toList.isEmpty
        rw [hemp]
        by_cases hz : s.size = 0
        · rw [ident_zero s hz]; simp [hz]
        · have := HA.out
          rw [hke] at this
          rw [ident_all s hz this]; simp [hz]
      clear hemp hke
      go_wp2
      go_ret
      rw [HE.out]
      exact ⟨rfl, HC.out.2⟩

theorem zzident_any (s : ByteArray) (hs : s.size ≤ 1048576) (w : World) : Calls Try.prog 7 #[.string s] w fun e w' => e = .returned (.bool (identB s)) ∧ Below w.heap.size w w' := by
  have H : Hid (Calls Try.prog 12 #[.string s] w fun e w' => e = .returned (.bool (identB s)) ∧ Below w.heap.size w w') := ident_any s hs w
  generalize identB s = b at *
  go_enter Try.func7, Try.ntmps7
  go_wp2_with fail
  refine H.out.mono ?_
  rintro e w1 ⟨rfl, hB⟩
  go_wp2
  go_ret
  exact ⟨rfl, hB⟩

theorem zz6_yes (s : ByteArray) (w : World) (h : s.size ≤ 1048576) : Calls Try.prog 6 #[.string s] w fun e w' => e = .returned (.bool true) ∧ w' = w := by
  go_enter Try.func6, Try.ntmps6
  go_wp2
  go_ret
  exact ⟨rfl, rfl⟩
theorem zz6_no (s : ByteArray) (w : World) (h : 1048576 < s.size) (h2 : s.size ≤ 9223372036854775807) : Calls Try.prog 6 #[.string s] w fun e w' => e = .returned (.bool false) ∧ w' = w := by
  go_enter Try.func6, Try.ntmps6
  go_wp2
  go_ret
  exact ⟨rfl, rfl⟩

set_option maxHeartbeats 400000 in
theorem law_walk (s : ByteArray) (hm : s.size ≤ maxLen) (w : World) : Calls Try.prog 3 #[.string s] w fun e w' => e = .returned (.bool true) ∧ Below w.heap.size w w' := by
  unfold maxLen at hm
  by_cases h : s.size ≤ 1048576
  · have HI : Hid (Calls Try.prog 7 #[.string s] w fun e w' => e = .returned (.bool (identB s)) ∧ Below w.heap.size w w') := zzident_any s h w
    have HM : Hid (∀ wx, Calls Try.prog 8 #[.string s] wx fun e w' => e = .returned (.bool (identB s)) ∧ w' = wx) := fun wx => model_any s h wx
    generalize identB s = b at *
    go_enter Try.func3, Try.ntmps3
    go_wp2_with (first | (go_at_call 6; refine (zz6_yes _ _ h).mono ?_; rintro e w' ⟨rfl, hw⟩; obtain rfl := hw.symm) | (go_at_call 7; refine HI.out.mono ?_; rintro e w1 ⟨rfl, hB⟩) | (go_at_call 8; refine (HM.out _).mono ?_; rintro e w' ⟨rfl, hw⟩; obtain rfl := hw.symm))
    go_ret
    exact ⟨by simp, hB⟩
  · go_enter Try.func3, Try.ntmps3
    go_wp2_with (go_at_call 6; refine (zz6_no _ _ (by omega) (by omega)).mono ?_; rintro e w' ⟨rfl, hw⟩; obtain rfl := hw.symm)
    go_ret
    exact ⟨rfl, Below.refl _ _⟩

end Go.Proofs.Qxb6601179a
