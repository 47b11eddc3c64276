/-
  FnAddThenRemoveEqualsGrow: its walk.
-/
import Derived.Test.Qxb6000573aSets
namespace Go.Proofs.Qxb6000573a
open Go.RowKit
set_option linter.unusedSimpArgs false
set_option linter.unusedVariables false
open Pl

theorem zzgrow_any (own : Nat → Prop) (S : Nat) (x : Int) (ws : List Nat) (w : World) (hwl : ws.length ≤ 90000) (hfit : Fit ws) (h0 : 0 ≤ x) (h1 : x ≤ 65536) (hnew : ∀ b, w.heap.size ≤ b → own b)
    (hs : SetIs own w S (levels ws)) :
    Calls Try.prog 27 #[.pointer (some ⟨S, 0, none⟩), .int .i64 x] w fun e w' => e = .returned (.tuple #[]) ∧ SetIs own w' S (levels (pad ws (x.toNat / 64 + 1))) ∧ Kept own w w' := by
  have HG : Hid (Calls Try.prog 30 #[.pointer (some ⟨S, 0, none⟩), .int .i64 x] w fun e w' => e = .returned (.tuple #[]) ∧ SetIs own w' S (levels (pad ws (x.toNat / 64 + 1))) ∧ Kept own w w') := grow_any own S x ws w hwl hfit h0 h1 hnew hs
  clear hs hnew hfit
  go_enter Try.func27, Try.ntmps27
  go_wp2_with fail
  refine HG.out.mono ?_
  rintro e w1 ⟨rfl, r1, r2⟩
  have HR : Hid (SetIs own w1 S (levels (pad ws (x.toNat / 64 + 1))) ∧ Kept own w w1) := ⟨r1, r2⟩
  clear r1 r2
  go_wp2
  go_end0
  exact ⟨rfl, HR.out.1, HR.out.2⟩

set_option maxRecDepth 20000 in
set_option maxHeartbeats 2000000 in
theorem law5_main (ao : Option Addr) (len cap : Nat) (x : Int) (zs : List Int) (w : World) (hlen : zs.length = len) (hv : Ints w (.slice ao len cap) zs) (hr : InRange zs) (h1 : len ≤ 131072) (hok : keysOK zs = true) (hx0 : 0 ≤ x) (hx1 : x ≤ 65536) :
    Calls Try.prog 7 #[.slice ao len cap, .int .i64 x] w fun e w' => e = .returned (.bool true) ∧ Below w.heap.size w w' := by
  have HV : Hid (zs.length = len ∧ Ints w (.slice ao len cap) zs ∧ InRange zs ∧ keysOK zs = true) := ⟨hlen, hv, hr, hok⟩
  clear hlen hv hr hok
  have hK : Hid (Calls Try.prog 11 #[.slice ao len cap] w fun e w' => e = .returned (.bool true) ∧ w' = w) := keys_form ao len cap zs w HV.out.1 HV.out.2.1 h1 HV.out.2.2.2
  have hC : Hid (Calls Try.prog 12 #[.slice ao len cap] w fun e w' => ∃ ao' cap', e = .returned (.slice ao' len cap') ∧ Hid (Ints w' (.slice ao' len cap') zs) ∧ Below w.heap.size w w') := clone_form ao len cap zs w HV.out.1 HV.out.2.1 h1
  have t1 : decide (x < 0) = false := by simp; omega
  go_enter Try.func7, Try.ntmps7
  go_wp2_with (first | (go_at_call 26; refine (zz26_yes _ _ _ _ _ (by omega)).mono ?_; rintro e w' ⟨rfl, hw⟩; obtain rfl := hw.symm) | (go_at_call 11; refine hK.out.mono ?_; rintro e w' ⟨rfl, hw⟩; obtain rfl := hw.symm) | (go_at_call 12; refine hC.out.mono ?_; rintro e w1 ⟨ao', cap', rfl, HI, hB1⟩))
  refine (run_form ao' len cap' zs w1 HV.out.1 HI.out h1 HV.out.2.2.1 HV.out.2.2.2).mono ?_
  rintro e w2 ⟨rfl, HS2, hB2⟩
  clear hK hC
  obtain ⟨q1, q2⟩ := runW_ok zs HV.out.2.2.2
  obtain ⟨ws, hws⟩ : ∃ ws, ws = runW zs := ⟨_, rfl⟩
  rw [← hws] at HS2 q1 q2
  have HQ : Hid (Fit ws ∧ ws.length ≤ 1025 ∧ ws = runW zs) := ⟨q1, q2, hws⟩
  clear hws q1 q2
  have hsz1 := hB1.size
  have hsz2 := hB2.size
  have hBel2 : Below w.heap.size w w2 := hB1.trans (hB2.mono hB1.size)
  obtain ⟨hoS2, v2, hb2, hL2⟩ := HS2.out
  have hZ2 : Hid (Calls Try.prog 14 #[.pointer (some ⟨w1.heap.size, 0, none⟩)] w2 fun e w' => e = .returned v2 ∧ w' = w2) := zzlevels_any _ _ _ hb2
  obtain ⟨was, hwas⟩ : ∃ was, was = bitAt ws x.toNat := ⟨_, rfl⟩
  have hM2 : Hid (Calls Try.prog 15 #[v2, .int .i64 x] w2 fun e w' => e = .returned (.bool was) ∧ w' = w2) := by
    rw [hwas]
    exact member_any _ v2 ws x w2 hx0 (by omega) (by have := HQ.out.2.1; omega) HQ.out.1 hL2
  have HWas : Hid (was = bitAt ws x.toNat) := hwas
  clear hwas hoS2 hb2 hL2
  cases was with
  | true =>
    go_wp2_with (first | (go_at_call 14; refine hZ2.out.mono ?_; rintro e w' ⟨rfl, hw⟩; obtain rfl := hw.symm) | (go_at_call 15; refine hM2.out.mono ?_; rintro e w' ⟨rfl, hw⟩; obtain rfl := hw.symm))
    go_ret
    exact ⟨rfl, hBel2⟩
  | false =>
    have hA2 : Hid (Calls Try.prog 20 #[.pointer (some ⟨w1.heap.size, 0, none⟩), .int .i64 x] w2 fun e w' => e = .returned (.tuple #[]) ∧ Hid (SetIs (fun b => w1.heap.size ≤ b) w' w1.heap.size (levels (addW ws x.toNat)) ∧ Kept (fun b => w1.heap.size ≤ b) w2 w')) := add_any _ w1.heap.size x ws w2 (by have := HQ.out.2.1; omega) HQ.out.1 hx0 hx1 (fun b hb => Nat.le_trans hsz2 hb) HS2.out
    go_wp2_with (first | (go_at_call 14; refine hZ2.out.mono ?_; rintro e w' ⟨rfl, hw⟩; obtain rfl := hw.symm) | (go_at_call 15; refine hM2.out.mono ?_; rintro e w' ⟨rfl, hw⟩; obtain rfl := hw.symm) | (go_at_call 20; refine hA2.out.mono ?_; rintro e w3 ⟨rfl, HS3⟩))
    have hsz3 := HS3.out.2.size
    have hR3 : Hid (Calls Try.prog 24 #[.pointer (some ⟨w1.heap.size, 0, none⟩), .int .i64 x] w3 fun e w' => e = .returned (.tuple #[]) ∧ Hid (SetIs (fun b => w1.heap.size ≤ b) w' w1.heap.size (levels (pad ws (x.toNat / 64 + 1))) ∧ Kept (fun b => w1.heap.size ≤ b) w3 w')) := by
      have := remove_any _ w1.heap.size x (addW ws x.toNat) w3 (by rw [length_addW]; have := HQ.out.2.1; omega) (fit_addW HQ.out.1 _) hx0 (by omega) HS3.out.1
      rw [remW_addW ws x.toNat HQ.out.1 HWas.out.symm] at this
      exact this
    have hBel3 : Below w.heap.size w w3 := hBel2.trans (HS3.out.2.below (by omega) (fun b hb h => by omega))
    refine hR3.out.mono ?_
    rintro e w4 ⟨rfl, HS4⟩
    have hsz4 := HS4.out.2.size
    have hBel4 : Below w.heap.size w w4 := hBel3.trans (HS4.out.2.below (by omega) (fun b hb h => by omega))
    have HI4 : Hid (Ints w4 (.slice ao' len cap') zs) := by
      have h12 : Below w1.heap.size w1 w4 := (hB2.trans (HS3.out.2.below hsz2 (fun b hb h => by omega))).trans (HS4.out.2.below (by omega) (fun b hb h => by omega))
      exact HI.out.below h12
    have hRun : Hid (Calls Try.prog 13 #[.pointer (some ⟨w4.heap.size, 0, none⟩), .slice ao' len cap'] (w4.alloc (.cells #[.slice none 0 0] 28)) fun e w' => e = .returned (.tuple #[]) ∧ Hid (SetIs (fun b => w4.heap.size ≤ b) w' w4.heap.size (levels ws)) ∧ Hid (Below w4.heap.size w4 w')) := by
      rw [HQ.out.2.2]
      exact run_form ao' len cap' zs w4 HV.out.1 HI4.out h1 HV.out.2.2.1 HV.out.2.2.2
    clear hA2 hM2 hZ2 hR3 HS2 HS3 HI HI4
    go_wp2_with (go_at_call 13; refine hRun.out.mono ?_; rintro e w5 ⟨rfl, HS5, HB5⟩)
    have hsz5 := HB5.out.size
    refine (zzgrow_any _ w4.heap.size x ws w5 (by have := HQ.out.2.1; omega) HQ.out.1 hx0 hx1 (fun b hb => Nat.le_trans hsz5 hb) HS5.out).mono ?_
    rintro e w6 ⟨rfl, hs6, hk6⟩
    have hB6 : Below w4.heap.size w4 w6 := HB5.out.trans (hk6.below hsz5 (fun b hb h => by omega))
    have hsa6 : SetIs (fun b => w1.heap.size ≤ b) w6 w1.heap.size (levels (pad ws (x.toNat / 64 + 1))) := HS4.out.1.below hB6 (fun _ _ h => h)
    obtain ⟨_, va, hba, hLa⟩ := hsa6
    obtain ⟨_, vb, hbb, hLb⟩ := hs6
    have hZa : Hid (Calls Try.prog 14 #[.pointer (some ⟨w1.heap.size, 0, none⟩)] w6 fun e w' => e = .returned va ∧ w' = w6) := zzlevels_any _ _ _ hba
    have hZb : Hid (Calls Try.prog 14 #[.pointer (some ⟨w4.heap.size, 0, none⟩)] w6 fun e w' => e = .returned vb ∧ w' = w6) := zzlevels_any _ _ _ hbb
    have hlb := levels_bounds (ws := pad ws (x.toNat / 64 + 1)) (by rw [length_pad]; have := HQ.out.2.1; omega)
    have hE : Hid (Calls Try.prog 22 #[va, vb] w6 fun e w' => e = .returned (.bool true) ∧ Hid (Calm w6 w')) := same_any _ _ va vb _ w6 hlb.1 hlb.2 hLa hLb
    have hBel6 : Below w.heap.size w w6 := hBel4.trans (hB6.mono (by omega))
    clear hk6 hB6 hba hbb hLa hLb hlb HS5 HB5 hRun HS4
    go_wp2_with fail
    refine hZa.out.mono ?_
    rintro e w' ⟨rfl, hw⟩
    obtain rfl := hw.symm
    go_wp2_with fail
    refine hZb.out.mono ?_
    rintro e w' ⟨rfl, hw⟩
    obtain rfl := hw.symm
    go_wp2_with fail
    refine hE.out.mono ?_
    rintro e w7 ⟨rfl, HC7⟩
    go_wp2
    go_ret
    exact ⟨rfl, hBel6.trans (Calm.below HC7.out _ hBel6.size)⟩

set_option maxHeartbeats 400000 in
theorem law5_walk (ao : Option Addr) (len cap : Nat) (x : Int) (zs : List Int) (w : World) (hlen : zs.length = len) (hv : Ints w (.slice ao len cap) zs) (hr : InRange zs) (hxm : x ≤ 9223372036854775807) :
    Calls Try.prog 7 #[.slice ao len cap, .int .i64 x] w fun e w' => e = .returned (.bool true) ∧ Below w.heap.size w w' := by
  by_cases h1 : len ≤ 131072
  · by_cases hx : 0 ≤ x ∧ x ≤ 65536
    · cases hok : keysOK zs with
      | true => exact law5_main ao len cap x zs w hlen hv hr h1 hok hx.1 hx.2
      | false =>
        have hK : Hid (Calls Try.prog 11 #[.slice ao len cap] w fun e w' => e = .returned (.bool false) ∧ w' = w) := keys_form ao len cap zs w hlen hv h1 hok
        clear hok hlen hv hr
        obtain ⟨hx0, hx1⟩ := hx
        have t1 : decide (x < 0) = false := by simp; omega
        go_enter Try.func7, Try.ntmps7
        go_wp2_with (first | (go_at_call 26; refine (zz26_yes _ _ _ _ _ (by omega)).mono ?_; rintro e w' ⟨rfl, hw⟩; obtain rfl := hw.symm) | (go_at_call 11; refine hK.out.mono ?_; rintro e w' ⟨rfl, hw⟩; obtain rfl := hw.symm))
        go_ret
        exact ⟨rfl, Below.refl _ _⟩
    · clear hlen hv hr
      by_cases hx0 : x < 0
      · have t1 : decide (x < 0) = true := by simp; omega
        go_enter Try.func7, Try.ntmps7
        go_wp2_with (go_at_call 26; refine (zz26_yes _ _ _ _ _ (by omega)).mono ?_; rintro e w' ⟨rfl, hw⟩; obtain rfl := hw.symm)
        go_ret
        exact ⟨rfl, Below.refl _ _⟩
      · have t1 : decide (x < 0) = false := by simp; omega
        have t2 : 65536 < x := by omega
        clear hx
        go_enter Try.func7, Try.ntmps7
        go_wp2_with (go_at_call 26; refine (zz26_yes _ _ _ _ _ (by omega)).mono ?_; rintro e w' ⟨rfl, hw⟩; obtain rfl := hw.symm)
        go_ret
        exact ⟨rfl, Below.refl _ _⟩
  · clear hlen hv hr
    by_cases h2 : len ≤ 1048576
    · go_enter Try.func7, Try.ntmps7
      go_wp2_with (go_at_call 26; refine (zz26_yes _ _ _ _ _ (by omega)).mono ?_; rintro e w' ⟨rfl, hw⟩; obtain rfl := hw.symm)
      go_ret
      exact ⟨rfl, Below.refl _ _⟩
    · go_enter Try.func7, Try.ntmps7
      go_wp2_with (go_at_call 26; refine (zz26_no _ _ _ _ _ (by omega)).mono ?_; rintro e w' ⟨rfl, hw⟩; obtain rfl := hw.symm)
      go_ret
      exact ⟨rfl, Below.refl _ _⟩

end Go.Proofs.Qxb6000573a
