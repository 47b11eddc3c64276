/-
  FnScriptKeepsLevelInvariant: its walk.
-/
import Derived.Test.Qxb6000573aHead
namespace Go.Proofs.Qxb6000573a
open Go.RowKit
set_option linter.unusedSimpArgs false
set_option linter.unusedVariables false
open Pl

set_option maxRecDepth 20000 in
set_option maxHeartbeats 2000000 in
theorem law2_walk (ao : Option Addr) (len cap : Nat) (zs : List Int) (w : World) (hlen : zs.length = len) (hv : Ints w (.slice ao len cap) zs) (hr : InRange zs) :
    Calls Try.prog 4 #[.slice ao len cap] w fun e w' => e = .returned (.bool true) ∧ Below w.heap.size w w' := by
  have HV : Hid (zs.length = len ∧ Ints w (.slice ao len cap) zs ∧ InRange zs) := ⟨hlen, hv, hr⟩
  clear hlen hv hr
  by_cases h1 : len ≤ 131072
  · cases hok : keysOK zs with
    | true =>
      have hK : Hid (Calls Try.prog 11 #[.slice ao len cap] w fun e w' => e = .returned (.bool true) ∧ w' = w) := keys_form ao len cap zs w HV.out.1 HV.out.2.1 h1 hok
      have hC : Hid (Calls Try.prog 12 #[.slice ao len cap] w fun e w' => ∃ ao' cap', e = .returned (.slice ao' len cap') ∧ Hid (Ints w' (.slice ao' len cap') zs) ∧ Below w.heap.size w w') := clone_form ao len cap zs w HV.out.1 HV.out.2.1 h1
      have HOK : Hid (keysOK zs = true) := hok
      clear hok
      go_enter Try.func4, Try.ntmps4
      go_wp2_with (first | (go_at_call 16; refine (zz16_yes _ _ _ _ (by omega)).mono ?_; rintro e w' ⟨rfl, hw⟩; obtain rfl := hw.symm) | (go_at_call 11; refine hK.out.mono ?_; rintro e w' ⟨rfl, hw⟩; obtain rfl := hw.symm) | (go_at_call 12; refine hC.out.mono ?_; rintro e w1 ⟨ao', cap', rfl, HI, hB1⟩))
      refine (run_form ao' len cap' zs w1 HV.out.1 HI.out h1 HV.out.2.2 HOK.out).mono ?_
      rintro e w2 ⟨rfl, HS, hB2⟩
      obtain ⟨q1, q2⟩ := runW_ok zs HOK.out
      obtain ⟨hoS, vL, hS2, hLE⟩ := HS.out
      have hZ : Hid (Calls Try.prog 14 #[.pointer (some ⟨w1.heap.size, 0, none⟩)] w2 fun e w' => e = .returned vL ∧ w' = w2) := zzlevels_any _ _ _ hS2
      have hM : Hid (Calls Try.prog 18 #[.slice ao' len cap'] w2 fun e w' => e = .returned (.int .i64 (largest zs)) ∧ w' = w2) := largest_any _ zs w2 (HI.out.below hB2) (by have := HV.out.1; omega)
      have hH : Hid (Calls Try.prog 17 #[vL, .int .i64 (largest zs)] w2 fun e w' => e = .returned (.bool true) ∧ w' = w2) := by
        refine hold_any _ vL (runW zs) (largest zs) w2 (by omega) q1 ?_ hLE
        rcases run_len zs with ⟨a1, a2⟩ | h
        · exact .inl ⟨a1, by omega, by omega⟩
        · exact .inr h
      have hBel : Below w.heap.size w w2 := hB1.trans (hB2.mono hB1.size)
      clear hoS hS2 hLE q1 q2 HS hK hC HI hB1 hB2
      go_wp2_with (first | (go_at_call 14; refine hZ.out.mono ?_; rintro e w' ⟨rfl, hw⟩; obtain rfl := hw.symm) | (go_at_call 18; refine hM.out.mono ?_; rintro e w' ⟨rfl, hw⟩; obtain rfl := hw.symm) | (go_at_call 17; refine hH.out.mono ?_; rintro e w' ⟨rfl, hw⟩; obtain rfl := hw.symm))
      go_ret
      exact ⟨rfl, hBel⟩
    | false =>
      have hK : Hid (Calls Try.prog 11 #[.slice ao len cap] w fun e w' => e = .returned (.bool false) ∧ w' = w) := keys_form ao len cap zs w HV.out.1 HV.out.2.1 h1 hok
      clear hok
      go_enter Try.func4, Try.ntmps4
      go_wp2_with (first | (go_at_call 16; refine (zz16_yes _ _ _ _ (by omega)).mono ?_; rintro e w' ⟨rfl, hw⟩; obtain rfl := hw.symm) | (go_at_call 11; refine hK.out.mono ?_; rintro e w' ⟨rfl, hw⟩; obtain rfl := hw.symm))
      go_ret
      exact ⟨rfl, Below.refl _ _⟩
  · by_cases h2 : len ≤ 1048576
    · go_enter Try.func4, Try.ntmps4
      go_wp2_with (go_at_call 16; refine (zz16_yes _ _ _ _ (by omega)).mono ?_; rintro e w' ⟨rfl, hw⟩; obtain rfl := hw.symm)
      go_ret
      exact ⟨rfl, Below.refl _ _⟩
    · go_enter Try.func4, Try.ntmps4
      go_wp2_with (go_at_call 16; refine (zz16_no _ _ _ _ (by omega)).mono ?_; rintro e w' ⟨rfl, hw⟩; obtain rfl := hw.symm)
      go_ret
      exact ⟨rfl, Below.refl _ _⟩

end Go.Proofs.Qxb6000573a
