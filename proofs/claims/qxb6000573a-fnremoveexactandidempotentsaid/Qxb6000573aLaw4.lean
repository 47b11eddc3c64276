/-
  FnRemoveExactAndIdempotent: its walk.
-/
import Derived.Test.Qxb6000573aShape
namespace Go.Proofs.Qxb6000573a
open Go.RowKit
set_option linter.unusedSimpArgs false
set_option linter.unusedVariables false
open Pl

set_option maxRecDepth 20000 in
set_option maxHeartbeats 2000000 in
theorem law4_main (ao : Option Addr) (len cap : Nat) (x : Int) (zs : List Int) (w : World) (hlen : zs.length = len) (hv : Ints w (.slice ao len cap) zs) (hr : InRange zs) (h1 : len ≤ 131072) (hok : keysOK zs = true) (hx0 : 0 ≤ x) (hx1 : x ≤ 9223372036854775807) :
    Calls Try.prog 6 #[.slice ao len cap, .int .i64 x] w fun e w' => e = .returned (.bool true) ∧ Below w.heap.size w w' := by
  have HV : Hid (zs.length = len ∧ Ints w (.slice ao len cap) zs ∧ InRange zs ∧ keysOK zs = true) := ⟨hlen, hv, hr, hok⟩
  clear hlen hv hr hok
  have hK : Hid (Calls Try.prog 11 #[.slice ao len cap] w fun e w' => e = .returned (.bool true) ∧ w' = w) := keys_form ao len cap zs w HV.out.1 HV.out.2.1 h1 HV.out.2.2.2
  have hC : Hid (Calls Try.prog 12 #[.slice ao len cap] w fun e w' => ∃ ao' cap', e = .returned (.slice ao' len cap') ∧ Hid (Ints w' (.slice ao' len cap') zs) ∧ Below w.heap.size w w') := clone_form ao len cap zs w HV.out.1 HV.out.2.1 h1
  have t1 : ¬ x < 0 := by omega
  go_enter Try.func6, Try.ntmps6
  go_wp2_with (first | (go_at_call 23; refine (zz23_yes _ _ _ _ _ (by omega)).mono ?_; rintro e w' ⟨rfl, hw⟩; obtain rfl := hw.symm) | (go_at_call 11; refine hK.out.mono ?_; rintro e w' ⟨rfl, hw⟩; obtain rfl := hw.symm) | (go_at_call 12; refine hC.out.mono ?_; rintro e w1 ⟨ao', cap', rfl, HI, hB1⟩))
  refine (run_form ao' len cap' zs w1 HV.out.1 HI.out h1 HV.out.2.2.1 HV.out.2.2.2).mono ?_
  rintro e w2 ⟨rfl, HS2, hB2⟩
  clear hK hC
  obtain ⟨q1, q2⟩ := runW_ok zs HV.out.2.2.2
  obtain ⟨ws, hws⟩ : ∃ ws, ws = runW zs := ⟨_, rfl⟩
  rw [← hws] at HS2 q1 q2
  have HQ : Hid (Fit ws ∧ ws.length ≤ 1025 ∧ ws = runW zs) := ⟨q1, q2, hws⟩
  clear hws q1 q2
  have hsz1 := hB1.size
  have hsz2 := hB2.size
  have hBel2 : Below w.heap.size w w2 := hB1.trans (hB2.mono hB1.size)
  obtain ⟨hoS2, v2, hb2, hL2⟩ := HS2.out
  have hZ2 : Hid (Calls Try.prog 14 #[.pointer (some ⟨w1.heap.size, 0, none⟩)] w2 fun e w' => e = .returned v2 ∧ w' = w2) := zzlevels_any _ _ _ hb2
  have hlb := levels_bounds (ws := ws) (by have := HQ.out.2.1; omega)
  have hC2 : Hid (Calls Try.prog 21 #[v2] w2 fun e w' => ∃ v', e = .returned v' ∧ Hid (LevE (fun b => w2.heap.size ≤ b ∧ b < w'.heap.size) w' v' (levels ws)) ∧ Below w2.heap.size w2 w') := copy_any _ v2 (levels ws) w2 hlb.1 hlb.2 hL2
  clear hoS2 hb2 hL2 hlb
  go_wp2_with (first | (go_at_call 14; refine hZ2.out.mono ?_; rintro e w' ⟨rfl, hw⟩; obtain rfl := hw.symm) | (go_at_call 21; refine hC2.out.mono ?_; rintro e w3 ⟨v3, rfl, HL3, hB3⟩))
  have hsz3 := hB3.size
  have hM3 : Hid (Calls Try.prog 15 #[v3, .int .i64 x] w3 fun e w' => e = .returned (.bool (bitAt ws x.toNat)) ∧ w' = w3) := member_any _ v3 ws x w3 hx0 hx1 (by have := HQ.out.2.1; omega) HQ.out.1 HL3.out
  have HS3 : Hid (SetIs (fun b => w1.heap.size ≤ b ∧ ¬ (w2.heap.size ≤ b ∧ b < w3.heap.size)) w3 w1.heap.size (levels ws)) := HS2.out.below hB3 (fun b hb ho => ⟨ho, fun h => by omega⟩)
  obtain ⟨ws1, hws1⟩ : ∃ ws1, ws1 = remW ws x.toNat := ⟨_, rfl⟩
  have hR3 : Hid (Calls Try.prog 24 #[.pointer (some ⟨w1.heap.size, 0, none⟩), .int .i64 x] w3 fun e w' => e = .returned (.tuple #[]) ∧ Hid (SetIs (fun b => w1.heap.size ≤ b ∧ ¬ (w2.heap.size ≤ b ∧ b < w3.heap.size)) w' w1.heap.size (levels ws1)) ∧ Hid (Kept (fun b => w1.heap.size ≤ b ∧ ¬ (w2.heap.size ≤ b ∧ b < w3.heap.size)) w3 w')) := by
    rw [hws1]
    exact remove_any _ w1.heap.size x ws w3 (by have := HQ.out.2.1; omega) HQ.out.1 hx0 hx1 HS3.out
  have HW1 : Hid (Fit ws1 ∧ ws1.length = ws.length ∧ remW ws1 x.toNat = ws1 ∧ bitAt ws1 x.toNat = false ∧ (bitAt ws x.toNat = false → ws1 = ws)) := by
    have hf := HQ.out.1
    have hb : bitAt ws1 x.toNat = false := by rw [hws1, bitAt_remW _ _ _ hf]; simp
    have hf1 : Fit ws1 := by rw [hws1]; exact fit_remW hf _
    exact ⟨hf1, by rw [hws1, length_remW], remW_none ws1 _ hf1 hb, hb, fun h => by rw [hws1]; exact remW_none ws _ hf h⟩
  have hBel3 : Below w.heap.size w w3 := hBel2.trans (hB3.mono (by omega))
  clear hws1 hZ2 hC2 HS2
  obtain ⟨was, hwas⟩ : ∃ was, was = bitAt ws x.toNat := ⟨_, rfl⟩
  rw [← hwas] at hM3
  have HWas : Hid (was = bitAt ws x.toNat) := hwas
  clear hwas
  go_wp2_with (first | (go_at_call 15; refine hM3.out.mono ?_; rintro e w' ⟨rfl, hw⟩; obtain rfl := hw.symm) | (go_at_call 24; refine hR3.out.mono ?_; rintro e w4 ⟨rfl, HS4, HK4⟩))
  obtain ⟨hoS4, v4, hb4, hL4⟩ := HS4.out
  have hsz4 := HK4.out.size
  have hZ4 : Hid (Calls Try.prog 14 #[.pointer (some ⟨w1.heap.size, 0, none⟩)] w4 fun e w' => e = .returned v4 ∧ w' = w4) := zzlevels_any _ _ _ hb4
  have hlb := levels_bounds (ws := ws1) (by have := HQ.out.2.1; have := HW1.out.2.1; omega)
  have hC4 : Hid (Calls Try.prog 21 #[v4] w4 fun e w' => ∃ v', e = .returned v' ∧ Hid (LevE (fun b => w4.heap.size ≤ b ∧ b < w'.heap.size) w' v' (levels ws1)) ∧ Below w4.heap.size w4 w') := copy_any _ v4 (levels ws1) w4 hlb.1 hlb.2 hL4
  have HL34 : Hid (LevE (fun b => w2.heap.size ≤ b ∧ b < w3.heap.size) w4 v3 (levels ws)) := HL3.out.kept HK4.out (fun b hb h => h.2 hb)
  have hBel4 : Below w.heap.size w w4 := hBel3.trans (HK4.out.below (by omega) (fun b hb h => by have := h.1; omega))
  clear hoS4 hb4 hL4 hlb hR3 hM3 HS3 HL3 HK4
  go_wp2_with (first | (go_at_call 14; refine hZ4.out.mono ?_; rintro e w' ⟨rfl, hw⟩; obtain rfl := hw.symm) | (go_at_call 21; refine hC4.out.mono ?_; rintro e w5 ⟨v5, rfl, HL5, hB5⟩))
  have hsz5 := hB5.size
  have HL35 : Hid (LevE (fun b => w2.heap.size ≤ b ∧ b < w3.heap.size) w5 v3 (levels ws)) := HL34.out.below hB5 (fun _ _ h => h)
  have hBel5 : Below w.heap.size w w5 := hBel4.trans (hB5.mono (by omega))
  have hE5 : Hid (Calls Try.prog 25 #[v3, v5] w5 fun e w' => e = .returned (.bool true) ∧ Hid (Calm w5 w')) := by
    have hl1 := HW1.out.2.1
    have hb1 := levels_bounds (ws := ws) (by have := HQ.out.2.1; omega)
    have hshape := levels_shape hl1
    exact shape_any _ _ v3 v5 (levels ws) (levels ws1) w5 hb1.1 hshape.1 (fun k hk => ⟨hshape.2 k, hb1.2 k hk⟩) HL35.out HL5.out
  have HS5 : Hid (SetIs (fun b => (w1.heap.size ≤ b ∧ ¬ (w2.heap.size ≤ b ∧ b < w3.heap.size)) ∧ ¬ (w4.heap.size ≤ b ∧ b < w5.heap.size)) w5 w1.heap.size (levels ws1)) := HS4.out.below hB5 (fun b hb ho => ⟨ho, fun h => by omega⟩)
  clear hZ4 hC4 HS4 HL34
  go_wp2_with (go_at_call 25; refine hE5.out.mono ?_; rintro e w6 ⟨rfl, HC6⟩)
  have HL56 : Hid (LevE (fun b => w4.heap.size ≤ b ∧ b < w5.heap.size) w6 v5 (levels ws1)) := HL5.out.calm HC6.out
  have HL36 : Hid (LevE (fun b => w2.heap.size ≤ b ∧ b < w3.heap.size) w6 v3 (levels ws)) := HL35.out.calm HC6.out
  have HS6 : Hid (SetIs (fun b => (w1.heap.size ≤ b ∧ ¬ (w2.heap.size ≤ b ∧ b < w3.heap.size)) ∧ ¬ (w4.heap.size ≤ b ∧ b < w5.heap.size)) w6 w1.heap.size (levels ws1)) := HS5.out.calm HC6.out
  have hBel6 : Below w.heap.size w w6 := hBel5.trans (Calm.below HC6.out _ (by omega))
  have hsz6 : w5.heap.size ≤ w6.heap.size := HC6.out.size
  have hM6 : Hid (Calls Try.prog 15 #[v5, .int .i64 x] w6 fun e w' => e = .returned (.bool false) ∧ w' = w6) := by
    have := member_any _ v5 ws1 x w6 hx0 hx1 (by have := HQ.out.2.1; have := HW1.out.2.1; omega) HW1.out.1 HL56.out
    rw [HW1.out.2.2.2.1] at this
    exact this
  clear HL5 HL35 HS5 HC6 hE5
  refine hM6.out.mono ?_
  rintro e w' ⟨rfl, hw⟩
  obtain rfl := hw.symm
  have fin : ∀ w7, Calm w6 w7 → Hid (Calls Try.prog 24 #[.pointer (some ⟨w1.heap.size, 0, none⟩), .int .i64 x] w7 fun e w' => e = .returned (.tuple #[]) ∧ ∃ v8, Hid (Calls Try.prog 14 #[.pointer (some ⟨w1.heap.size, 0, none⟩)] w' fun e w'' => e = .returned v8 ∧ w'' = w') ∧ Hid (Calls Try.prog 22 #[v5, v8] w' fun e w'' => e = .returned (.bool true) ∧ Below w.heap.size w w'')) := by
    intro w7 hc7
    have hs7 := HS6.out.calm hc7
    have hl7 := HL56.out.calm hc7
    have hz7 := hc7.size
    refine (remove_any _ w1.heap.size x ws1 w7 (by have := HQ.out.2.1; have := HW1.out.2.1; omega) HW1.out.1 hx0 hx1 hs7).mono ?_
    rintro e w8 ⟨rfl, hs8, hk8⟩
    rw [HW1.out.2.2.1] at hs8
    obtain ⟨hoS8, v8, hb8, hL8⟩ := hs8
    have hlb := levels_bounds (ws := ws1) (by have := HQ.out.2.1; have := HW1.out.2.1; omega)
    have hl8 : LevE (fun b => w4.heap.size ≤ b ∧ b < w5.heap.size) w8 v5 (levels ws1) := hl7.kept hk8 (fun b hb h => h.2 hb)
    have hB8 : Below w.heap.size w w8 := (hBel6.trans (Calm.below hc7 _ (by omega))).trans (hk8.below (by omega) (fun b hb h => by have := h.1.1; omega))
    refine ⟨rfl, v8, zzlevels_any _ _ _ hb8, ?_⟩
    refine (same_any _ _ v5 v8 (levels ws1) w8 hlb.1 hlb.2 hl8 hL8).mono ?_
    rintro e w9 ⟨rfl, hc9⟩
    exact ⟨rfl, hB8.trans (Calm.below hc9 _ hB8.size)⟩
  have HFin : Hid (∀ w7, Calm w6 w7 → Hid (Calls Try.prog 24 #[.pointer (some ⟨w1.heap.size, 0, none⟩), .int .i64 x] w7 fun e w' => e = .returned (.tuple #[]) ∧ ∃ v8, Hid (Calls Try.prog 14 #[.pointer (some ⟨w1.heap.size, 0, none⟩)] w' fun e w'' => e = .returned v8 ∧ w'' = w') ∧ Hid (Calls Try.prog 22 #[v5, v8] w' fun e w'' => e = .returned (.bool true) ∧ Below w.heap.size w w''))) := fin
  clear fin hM6
  cases was with
  | true =>
    go_wp2_with fail
    refine (HFin.out w6 (Kept.refl _ _)).out.mono ?_
    rintro e w8 ⟨rfl, v8, hZ8, hE8⟩
    go_wp2_with (first | (go_at_call 14; refine hZ8.out.mono ?_; rintro e w' ⟨rfl, hw⟩; obtain rfl := hw.symm) | (go_at_call 22; refine hE8.out.mono ?_; rintro e w9 ⟨rfl, hB9⟩))
    go_ret
    exact ⟨rfl, hB9⟩
  | false =>
    have hsw : ws1 = ws := HW1.out.2.2.2.2 HWas.out.symm
    have hE6 : Hid (Calls Try.prog 22 #[v3, v5] w6 fun e w' => e = .returned (.bool true) ∧ Calm w6 w') := by
      have hlb := levels_bounds (ws := ws) (by have := HQ.out.2.1; omega)
      have h5 := HL56.out
      rw [hsw] at h5
      exact same_any _ _ v3 v5 (levels ws) w6 hlb.1 hlb.2 HL36.out h5
    clear hsw
    go_wp2_with fail
    refine hE6.out.mono ?_
    rintro e w7 ⟨rfl, hc7⟩
    have hF7 := HFin.out w7 hc7
    clear hc7
    go_wp2_with fail
    refine hF7.out.mono ?_
    rintro e w8 ⟨rfl, v8, hZ8, hE8⟩
    go_wp2_with (first | (go_at_call 14; refine hZ8.out.mono ?_; rintro e w' ⟨rfl, hw⟩; obtain rfl := hw.symm) | (go_at_call 22; refine hE8.out.mono ?_; rintro e w9 ⟨rfl, hB9⟩))
    go_ret
    exact ⟨rfl, hB9⟩

set_option maxHeartbeats 400000 in
theorem law4_walk (ao : Option Addr) (len cap : Nat) (x : Int) (zs : List Int) (w : World) (hlen : zs.length = len) (hv : Ints w (.slice ao len cap) zs) (hr : InRange zs) (hxm : x ≤ 9223372036854775807) :
    Calls Try.prog 6 #[.slice ao len cap, .int .i64 x] w fun e w' => e = .returned (.bool true) ∧ Below w.heap.size w w' := by
  by_cases h1 : len ≤ 131072
  · by_cases hx : 0 ≤ x
    · cases hok : keysOK zs with
      | true => exact law4_main ao len cap x zs w hlen hv hr h1 hok hx hxm
      | false =>
        have hK : Hid (Calls Try.prog 11 #[.slice ao len cap] w fun e w' => e = .returned (.bool false) ∧ w' = w) := keys_form ao len cap zs w hlen hv h1 hok
        clear hok hlen hv hr
        have t1 : ¬ x < 0 := by omega
        go_enter Try.func6, Try.ntmps6
        go_wp2_with (first | (go_at_call 23; refine (zz23_yes _ _ _ _ _ (by omega)).mono ?_; rintro e w' ⟨rfl, hw⟩; obtain rfl := hw.symm) | (go_at_call 11; refine hK.out.mono ?_; rintro e w' ⟨rfl, hw⟩; obtain rfl := hw.symm))
        go_ret
        exact ⟨rfl, Below.refl _ _⟩
    · clear hlen hv hr
      have t1 : x < 0 := by omega
      go_enter Try.func6, Try.ntmps6
      go_wp2_with (go_at_call 23; refine (zz23_yes _ _ _ _ _ (by omega)).mono ?_; rintro e w' ⟨rfl, hw⟩; obtain rfl := hw.symm)
      go_ret
      exact ⟨rfl, Below.refl _ _⟩
  · clear hlen hv hr
    by_cases h2 : len ≤ 1048576
    · go_enter Try.func6, Try.ntmps6
      go_wp2_with (go_at_call 23; refine (zz23_yes _ _ _ _ _ (by omega)).mono ?_; rintro e w' ⟨rfl, hw⟩; obtain rfl := hw.symm)
      go_ret
      exact ⟨rfl, Below.refl _ _⟩
    · go_enter Try.func6, Try.ntmps6
      go_wp2_with (go_at_call 23; refine (zz23_no _ _ _ _ _ (by omega)).mono ?_; rintro e w' ⟨rfl, hw⟩; obtain rfl := hw.symm)
      go_ret
      exact ⟨rfl, Below.refl _ _⟩

end Go.Proofs.Qxb6000573a
