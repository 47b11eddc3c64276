/-
  FnAddIdempotent: its walk.
-/
import Derived.Test.Qxb6000573aSets
namespace Go.Proofs.Qxb6000573a
open Go.RowKit
set_option linter.unusedSimpArgs false
set_option linter.unusedVariables false
open Pl

set_option maxRecDepth 20000 in
set_option maxHeartbeats 2000000 in
theorem law3_main (ao : Option Addr) (len cap : Nat) (x : Int) (zs : List Int) (w : World) (hlen : zs.length = len) (hv : Ints w (.slice ao len cap) zs) (hr : InRange zs) (h1 : len ≤ 131072) (hok : keysOK zs = true) (hx0 : 0 ≤ x) (hx1 : x ≤ 65536) :
    Calls Try.prog 5 #[.slice ao len cap, .int .i64 x] w fun e w' => e = .returned (.bool true) ∧ Below w.heap.size w w' := by
  have HV : Hid (zs.length = len ∧ Ints w (.slice ao len cap) zs ∧ InRange zs ∧ keysOK zs = true) := ⟨hlen, hv, hr, hok⟩
  clear hlen hv hr hok
  have hK : Hid (Calls Try.prog 11 #[.slice ao len cap] w fun e w' => e = .returned (.bool true) ∧ w' = w) := keys_form ao len cap zs w HV.out.1 HV.out.2.1 h1 HV.out.2.2.2
  have hC : Hid (Calls Try.prog 12 #[.slice ao len cap] w fun e w' => ∃ ao' cap', e = .returned (.slice ao' len cap') ∧ Hid (Ints w' (.slice ao' len cap') zs) ∧ Below w.heap.size w w') := clone_form ao len cap zs w HV.out.1 HV.out.2.1 h1
  have t1 : decide (x < 0) = false := by simp; omega
  go_enter Try.func5, Try.ntmps5
  go_wp2_with (first | (go_at_call 19; refine (zz19_yes _ _ _ _ _ (by omega)).mono ?_; rintro e w' ⟨rfl, hw⟩; obtain rfl := hw.symm) | (go_at_call 11; refine hK.out.mono ?_; rintro e w' ⟨rfl, hw⟩; obtain rfl := hw.symm) | (go_at_call 12; refine hC.out.mono ?_; rintro e w1 ⟨ao', cap', rfl, HI, hB1⟩))
  refine (run_form ao' len cap' zs w1 HV.out.1 HI.out h1 HV.out.2.2.1 HV.out.2.2.2).mono ?_
  rintro e w2 ⟨rfl, HS2, hB2⟩
  clear hK hC
  go_wp2_with fail
  obtain ⟨q1, q2⟩ := runW_ok zs HV.out.2.2.2
  have HQ : Hid (Fit (runW zs) ∧ (runW zs).length ≤ 1025) := ⟨q1, q2⟩
  have hsz2 := hB2.size
  refine (add_any (fun b => w1.heap.size ≤ b) w1.heap.size x (runW zs) w2 (by omega) q1 hx0 hx1 (fun b hb => Nat.le_trans hsz2 hb) HS2.out).mono ?_
  rintro e w3 ⟨rfl, hS3, hK3⟩
  obtain ⟨ws1, hws1⟩ : ∃ ws1, ws1 = addW (runW zs) x.toNat := ⟨_, rfl⟩
  rw [← hws1] at hS3
  have HW1 : Hid (Fit ws1 ∧ ws1.length ≤ 1025 ∧ addW ws1 x.toNat = ws1 ∧ bitAt ws1 x.toNat = true) := by
    rw [hws1]
    exact ⟨fit_addW q1 _, by rw [length_addW]; omega, addW_again _ _, by rw [bitAt_addW]; simp⟩
  obtain ⟨hoS3, v3, hb3, hL3⟩ := hS3
  have hZ3 : Hid (Calls Try.prog 14 #[.pointer (some ⟨w1.heap.size, 0, none⟩)] w3 fun e w' => e = .returned v3 ∧ w' = w3) := zzlevels_any _ _ _ hb3
  have hlb := levels_bounds (ws := ws1) (by have := HW1.out.2.1; omega)
  have hC3 : Hid (Calls Try.prog 21 #[v3] w3 fun e w' => ∃ v', e = .returned v' ∧ Hid (LevE (fun b => w3.heap.size ≤ b ∧ b < w'.heap.size) w' v' (levels ws1)) ∧ Below w3.heap.size w3 w') := copy_any _ v3 (levels ws1) w3 hlb.1 hlb.2 hL3
  have HS3 : Hid (SetIs (fun b => w1.heap.size ≤ b) w3 w1.heap.size (levels ws1)) := ⟨hoS3, v3, hb3, hL3⟩
  have hBel3 : Below w.heap.size w w3 := (hB1.trans (hB2.mono hB1.size)).trans (hK3.below (Nat.le_trans hB1.size hsz2) (fun b hb => by have := hB1.size; show ¬ w1.heap.size ≤ b; omega))
  have hsz3 : w1.heap.size ≤ w3.heap.size := Nat.le_trans hsz2 hK3.size
  clear hws1 q1 q2 HS2 hb3 hL3 hoS3 hK3 HQ hlb hsz2
  go_wp2_with (first | (go_at_call 14; refine hZ3.out.mono ?_; rintro e w' ⟨rfl, hw⟩; obtain rfl := hw.symm) | (go_at_call 21; refine hC3.out.mono ?_; rintro e w4 ⟨v4, rfl, HL4, hB4⟩))
  have HS4 : Hid (SetIs (fun b => w1.heap.size ≤ b ∧ ¬ (w3.heap.size ≤ b ∧ b < w4.heap.size)) w4 w1.heap.size (levels ws1)) := HS3.out.below hB4 (fun b hb ho => ⟨ho, fun h => by omega⟩)
  have hsz4 := hB4.size
  refine (add_any (fun b => w1.heap.size ≤ b ∧ ¬ (w3.heap.size ≤ b ∧ b < w4.heap.size)) w1.heap.size x ws1 w4 (by have := HW1.out.2.1; omega) HW1.out.1 hx0 hx1 (fun b hb => ⟨by omega, fun h => by omega⟩) HS4.out).mono ?_
  rintro e w5 ⟨rfl, hS5, hK5⟩
  rw [HW1.out.2.2.1] at hS5
  obtain ⟨hoS5, v5, hb5, hL5⟩ := hS5
  have hL45 : LevE (fun b => w3.heap.size ≤ b ∧ b < w4.heap.size) w5 v4 (levels ws1) := HL4.out.kept hK5 (fun b hb h => h.2 hb)
  have hlb := levels_bounds (ws := ws1) (by have := HW1.out.2.1; omega)
  have hZ5 : Hid (Calls Try.prog 14 #[.pointer (some ⟨w1.heap.size, 0, none⟩)] w5 fun e w' => e = .returned v5 ∧ w' = w5) := zzlevels_any _ _ _ hb5
  have hM5 : Hid (Calls Try.prog 15 #[v5, .int .i64 x] w5 fun e w' => e = .returned (.bool true) ∧ w' = w5) := by
    have := member_any _ v5 ws1 x w5 hx0 (by omega) (by have := HW1.out.2.1; omega) HW1.out.1 hL5
    rw [HW1.out.2.2.2] at this
    exact this
  have hE5 : Hid (Calls Try.prog 22 #[v4, v5] w5 fun e w' => e = .returned (.bool true) ∧ Hid (Calm w5 w')) := same_any _ _ v4 v5 (levels ws1) w5 hlb.1 hlb.2 hL45 hL5
  have hBel5 : Below w.heap.size w w5 := (hBel3.trans (hB4.mono (Nat.le_trans hB1.size hsz3))).trans (hK5.below (by have := hB1.size; omega) (fun b hb h => by have := hB1.size; have := h.1; omega))
  clear hoS5 hb5 hL5 hL45 hlb hK5 HS4 HL4 HS3 hZ3 hC3
  go_wp2_with (first | (go_at_call 14; refine hZ5.out.mono ?_; rintro e w' ⟨rfl, hw⟩; obtain rfl := hw.symm) | (go_at_call 15; refine hM5.out.mono ?_; rintro e w' ⟨rfl, hw⟩; obtain rfl := hw.symm) | (go_at_call 22; refine hE5.out.mono ?_; rintro e w6 ⟨rfl, HC6⟩))
  go_ret
  exact ⟨rfl, hBel5.trans (Calm.below HC6.out _ (by have := hBel5.size; exact this))⟩

set_option maxHeartbeats 400000 in
theorem law3_walk (ao : Option Addr) (len cap : Nat) (x : Int) (zs : List Int) (w : World) (hlen : zs.length = len) (hv : Ints w (.slice ao len cap) zs) (hr : InRange zs) :
    Calls Try.prog 5 #[.slice ao len cap, .int .i64 x] w fun e w' => e = .returned (.bool true) ∧ Below w.heap.size w w' := by
  by_cases h1 : len ≤ 131072
  · by_cases hx : 0 ≤ x ∧ x ≤ 65536
    · cases hok : keysOK zs with
      | true => exact law3_main ao len cap x zs w hlen hv hr h1 hok hx.1 hx.2
      | false =>
        have hK : Hid (Calls Try.prog 11 #[.slice ao len cap] w fun e w' => e = .returned (.bool false) ∧ w' = w) := keys_form ao len cap zs w hlen hv h1 hok
        clear hok hlen hv hr
        obtain ⟨hx0, hx1⟩ := hx
        have t1 : decide (x < 0) = false := by simp; omega
        go_enter Try.func5, Try.ntmps5
        go_wp2_with (first | (go_at_call 19; refine (zz19_yes _ _ _ _ _ (by omega)).mono ?_; rintro e w' ⟨rfl, hw⟩; obtain rfl := hw.symm) | (go_at_call 11; refine hK.out.mono ?_; rintro e w' ⟨rfl, hw⟩; obtain rfl := hw.symm))
        go_ret
        exact ⟨rfl, Below.refl _ _⟩
    · clear hlen hv hr
      by_cases hx0 : x < 0
      · have t1 : decide (x < 0) = true := by simp; omega
        go_enter Try.func5, Try.ntmps5
        go_wp2_with (go_at_call 19; refine (zz19_yes _ _ _ _ _ (by omega)).mono ?_; rintro e w' ⟨rfl, hw⟩; obtain rfl := hw.symm)
        go_ret
        exact ⟨rfl, Below.refl _ _⟩
      · have t1 : decide (x < 0) = false := by simp; omega
        have t2 : 65536 < x := by omega
        clear hx
        go_enter Try.func5, Try.ntmps5
        go_wp2_with (go_at_call 19; refine (zz19_yes _ _ _ _ _ (by omega)).mono ?_; rintro e w' ⟨rfl, hw⟩; obtain rfl := hw.symm)
        go_ret
        exact ⟨rfl, Below.refl _ _⟩
  · clear hlen hv hr
    by_cases h2 : len ≤ 1048576
    · go_enter Try.func5, Try.ntmps5
      go_wp2_with (go_at_call 19; refine (zz19_yes _ _ _ _ _ (by omega)).mono ?_; rintro e w' ⟨rfl, hw⟩; obtain rfl := hw.symm)
      go_ret
      exact ⟨rfl, Below.refl _ _⟩
    · go_enter Try.func5, Try.ntmps5
      go_wp2_with (go_at_call 19; refine (zz19_no _ _ _ _ _ (by omega)).mono ?_; rintro e w' ⟨rfl, hw⟩; obtain rfl := hw.symm)
      go_ret
      exact ⟨rfl, Below.refl _ _⟩

end Go.Proofs.Qxb6000573a
