/-
  FnGrowKeepsWordsAndInvariant: its walk.
-/
import Derived.Test.Qxb6000573aSets
namespace Go.Proofs.Qxb6000573a
open Go.RowKit
set_option linter.unusedSimpArgs false
set_option linter.unusedVariables false
open Pl

/-! ### grow pads every level that was there -/
theorem build_pads : ∀ (m : Nat) (ws : List Nat) (n : Nat), ws.length ≤ m → 1 ≤ ws.length → ∀ k, k < (build ws).length → k < (build (pad ws n)).length ∧ ∃ t, (build (pad ws n)).getD k [] = pad ((build ws).getD k []) t := by
  intro m
  induction m with
  | zero => intro ws n h1 h2; omega
  | succ m ih =>
    intro ws n h1 h2 k hk
    have hbl := build_length (pad ws n)
    obtain ⟨t0, ht0⟩ := build_cons (pad ws n)
    by_cases h : ws.length ≤ 1
    · rw [build_one ws h] at hk ⊢
      have hk0 : k = 0 := by simpa using hk
      subst hk0
      refine ⟨by omega, n, ?_⟩
      rw [ht0]; rfl
    · have hup := up_le ws.length (by omega)
      have hpo := up_pos ws.length (by omega)
      have hpl := length_pad ws n
      rw [build_more ws (by omega)] at hk ⊢
      rw [build_more (pad ws n) (by omega), summ_pad]
      cases k with
      | zero => exact ⟨by simp, n, by simp⟩
      | succ k =>
        obtain ⟨i1, t, i2⟩ := ih (summ ws) (up (pad ws n).length) (by rw [length_summ]; omega) (by rw [length_summ]; omega) k (by simpa using hk)
        exact ⟨by simp; omega, t, by simpa using i2⟩

theorem levels_pads (ws : List Nat) (n : Nat) (k : Nat) (hk : k < (levels ws).length) : k < (levels (pad ws n)).length ∧ ((levels ws).getD k []).length ≤ ((levels (pad ws n)).getD k []).length ∧ ∀ j, ((levels (pad ws n)).getD k []).getD j 0 = ((levels ws).getD k []).getD j 0 := by
  by_cases hz : ws.length = 0
  · rw [levels_zero hz] at hk; simp at hk
  · have hpl := length_pad ws n
    rw [levels_pos (ws := ws) (by omega)] at hk ⊢
    rw [levels_pos (ws := pad ws n) (by omega)]
    obtain ⟨h1, t, h2⟩ := build_pads ws.length ws n (Nat.le_refl _) (by omega) k hk
    refine ⟨h1, ?_, fun j => ?_⟩
    · rw [h2, length_pad]; omega
    · rw [h2, getD_pad]

theorem levels_le (ws : List Nat) (n : Nat) : (levels ws).length ≤ (levels (pad ws n)).length := by
  rcases Nat.lt_or_ge (levels (pad ws n)).length (levels ws).length with h | h
  · have := (levels_pads ws n _ h).1; omega
  · exact h

theorem grow_room (zs : List Int) (x : Int) (hx0 : 0 ≤ x) (room : Int) (hr : room = if largest zs < x then x else largest zs) : 0 ≤ room ∧ (pad (runW zs) (x.toNat / 64 + 1)).length = room.toNat / 64 + 1 := by
  rw [length_pad, hr]
  rcases run_len zs with ⟨h1, h2⟩ | ⟨h1, h2⟩
  · rw [if_pos (by omega)]; omega
  · split <;> omega

theorem zzgrow_any' (own : Nat → Prop) (S : Nat) (x : Int) (ws : List Nat) (w : World) (hwl : ws.length ≤ 90000) (hfit : Fit ws) (h0 : 0 ≤ x) (h1 : x ≤ 65536) (hnew : ∀ b, w.heap.size ≤ b → own b)
    (hs : SetIs own w S (levels ws)) :
    Calls Try.prog 27 #[.pointer (some ⟨S, 0, none⟩), .int .i64 x] w fun e w' => e = .returned (.tuple #[]) ∧ SetIs own w' S (levels (pad ws (x.toNat / 64 + 1))) ∧ Kept own w w' := by
  have HG : Hid (Calls Try.prog 30 #[.pointer (some ⟨S, 0, none⟩), .int .i64 x] w fun e w' => e = .returned (.tuple #[]) ∧ SetIs own w' S (levels (pad ws (x.toNat / 64 + 1))) ∧ Kept own w w') := grow_any own S x ws w hwl hfit h0 h1 hnew hs
  clear hs hnew hfit
  go_enter Try.func27, Try.ntmps27
  go_wp2_with fail
  refine HG.out.mono ?_
  rintro e w1 ⟨rfl, r1, r2⟩
  have HR : Hid (SetIs own w1 S (levels (pad ws (x.toNat / 64 + 1))) ∧ Kept own w w1) := ⟨r1, r2⟩
  clear r1 r2
  go_wp2
  go_end0
  exact ⟨rfl, HR.out.1, HR.out.2⟩

set_option maxRecDepth 20000 in
set_option maxHeartbeats 2000000 in
theorem law6_main (ao : Option Addr) (len cap : Nat) (x : Int) (zs : List Int) (w : World) (hlen : zs.length = len) (hv : Ints w (.slice ao len cap) zs) (hr : InRange zs) (h1 : len ≤ 131072) (hok : keysOK zs = true) (hx0 : 0 ≤ x) (hx1 : x ≤ 65536) :
    Calls Try.prog 8 #[.slice ao len cap, .int .i64 x] w fun e w' => e = .returned (.bool true) ∧ Below w.heap.size w w' := by
  have HV : Hid (zs.length = len ∧ Ints w (.slice ao len cap) zs ∧ InRange zs ∧ keysOK zs = true) := ⟨hlen, hv, hr, hok⟩
  clear hlen hv hr hok
  have hK : Hid (Calls Try.prog 11 #[.slice ao len cap] w fun e w' => e = .returned (.bool true) ∧ w' = w) := keys_form ao len cap zs w HV.out.1 HV.out.2.1 h1 HV.out.2.2.2
  have hC : Hid (Calls Try.prog 12 #[.slice ao len cap] w fun e w' => ∃ ao' cap', e = .returned (.slice ao' len cap') ∧ Hid (Ints w' (.slice ao' len cap') zs) ∧ Below w.heap.size w w') := clone_form ao len cap zs w HV.out.1 HV.out.2.1 h1
  have t1 : decide (x < 0) = false := by simp; omega
  go_enter Try.func8, Try.ntmps8
  go_wp2_with (first | (go_at_call 28; refine (zz28_yes _ _ _ _ _ (by omega)).mono ?_; rintro e w' ⟨rfl, hw⟩; obtain rfl := hw.symm) | (go_at_call 11; refine hK.out.mono ?_; rintro e w' ⟨rfl, hw⟩; obtain rfl := hw.symm) | (go_at_call 12; refine hC.out.mono ?_; rintro e w1 ⟨ao', cap', rfl, HI, hB1⟩))
  refine (run_form ao' len cap' zs w1 HV.out.1 HI.out h1 HV.out.2.2.1 HV.out.2.2.2).mono ?_
  rintro e w2 ⟨rfl, HS2, hB2⟩
  clear hK hC
  obtain ⟨q1, q2⟩ := runW_ok zs HV.out.2.2.2
  obtain ⟨ws, hws⟩ : ∃ ws, ws = runW zs := ⟨_, rfl⟩
  rw [← hws] at HS2 q1 q2
  have HQ : Hid (Fit ws ∧ ws.length ≤ 1025 ∧ ws = runW zs) := ⟨q1, q2, hws⟩
  clear hws q1 q2
  have hsz1 := hB1.size
  have hsz2 := hB2.size
  have hBel2 : Below w.heap.size w w2 := hB1.trans (hB2.mono hB1.size)
  obtain ⟨hoS2, v2, hb2, hL2⟩ := HS2.out
  have hZ2 : Hid (Calls Try.prog 14 #[.pointer (some ⟨w1.heap.size, 0, none⟩)] w2 fun e w' => e = .returned v2 ∧ w' = w2) := zzlevels_any _ _ _ hb2
  have hlb := levels_bounds (ws := ws) (by have := HQ.out.2.1; omega)
  have hC2 : Hid (Calls Try.prog 21 #[v2] w2 fun e w' => ∃ v', e = .returned v' ∧ Hid (LevE (fun b => w2.heap.size ≤ b ∧ b < w'.heap.size) w' v' (levels ws)) ∧ Below w2.heap.size w2 w') := copy_any _ v2 (levels ws) w2 hlb.1 hlb.2 hL2
  clear hoS2 hb2 hL2 hlb
  go_wp2_with (first | (go_at_call 14; refine hZ2.out.mono ?_; rintro e w' ⟨rfl, hw⟩; obtain rfl := hw.symm) | (go_at_call 21; refine hC2.out.mono ?_; rintro e w3 ⟨v3, rfl, HL3, hB3⟩))
  have hsz3 := hB3.size
  have HS3 : Hid (SetIs (fun b => w1.heap.size ≤ b ∧ ¬ (w2.heap.size ≤ b ∧ b < w3.heap.size)) w3 w1.heap.size (levels ws)) := HS2.out.below hB3 (fun b hb ho => ⟨ho, fun h => by omega⟩)
  have hBel3 : Below w.heap.size w w3 := hBel2.trans (hB3.mono (by omega))
  refine (zzgrow_any' (fun b => w1.heap.size ≤ b ∧ ¬ (w2.heap.size ≤ b ∧ b < w3.heap.size)) w1.heap.size x ws w3 (by have := HQ.out.2.1; omega) HQ.out.1 hx0 hx1 (fun b hb => ⟨by omega, fun h => by omega⟩) HS3.out).mono ?_
  rintro e w4 ⟨rfl, hs4, hk4⟩
  have hsz4 := hk4.size
  have hBel4 : Below w.heap.size w w4 := hBel3.trans (hk4.below (by omega) (fun b hb h => by have := h.1; omega))
  have hL34 : LevE (fun b => w2.heap.size ≤ b ∧ b < w3.heap.size) w4 v3 (levels ws) := HL3.out.kept hk4 (fun b hb h => h.2 hb)
  have hI4 : Ints w4 (.slice ao' len cap') zs := by
    have h12 : Below w1.heap.size w1 w4 := (hB2.trans (hB3.mono hsz2)).trans (hk4.below (by omega) (fun b hb h => by have := h.1; omega))
    exact HI.out.below h12
  obtain ⟨hoS4, v4, hb4, hL4⟩ := hs4
  have hZ4 : Hid (Calls Try.prog 14 #[.pointer (some ⟨w1.heap.size, 0, none⟩)] w4 fun e w' => e = .returned v4 ∧ w' = w4) := zzlevels_any _ _ _ hb4
  obtain ⟨m, hm⟩ : ∃ m, m = largest zs := ⟨_, rfl⟩
  have hM4 : Hid (Calls Try.prog 18 #[.slice ao' len cap'] w4 fun e w' => e = .returned (.int .i64 m) ∧ w' = w4) := by
    rw [hm]
    exact largest_any _ zs w4 hI4 (by have := HV.out.1; omega)
  obtain ⟨ps, hps⟩ : ∃ ps, ps = pad ws (x.toNat / 64 + 1) := ⟨_, rfl⟩
  have hpl : ps.length ≤ 1025 := by rw [hps, length_pad]; have := HQ.out.2.1; omega
  have hpf : Fit ps := by rw [hps]; exact fit_pad HQ.out.1 _
  have hH4 : Hid (∀ room : Int, (room = if m < x then x else m) → Calls Try.prog 17 #[v4, .int .i64 room] w4 fun e w' => e = .returned (.bool true) ∧ w' = w4) := by
    intro room hroom
    rw [hm] at hroom
    have hg := grow_room zs x hx0 room hroom
    rw [← HQ.out.2.2, ← hps] at hg
    refine hold_any (fun b => w1.heap.size ≤ b ∧ ¬ (w2.heap.size ≤ b ∧ b < w3.heap.size)) v4 ps room w4 (by omega) hpf (.inr hg) ?_
    rw [hps]
    exact hL4
  have HPads : Hid ((levels ws).length ≤ (levels ps).length ∧ ∀ k, k < (levels ws).length → k < (levels ps).length ∧ ((levels ws).getD k []).length ≤ ((levels ps).getD k []).length ∧ ∀ j, ((levels ps).getD k []).getD j 0 = ((levels ws).getD k []).getD j 0) := by
    rw [hps]
    exact ⟨levels_le ws _, fun k hk => levels_pads ws _ k hk⟩
  rw [← hps] at hL4
  have hlb := levels_bounds (ws := ps) (by omega)
  obtain ⟨G3, C3, hLv3⟩ := hL34
  obtain ⟨G4, C4, hLv4⟩ := hL4
  obtain ⟨n3, hn3⟩ : ∃ n, n = (levels ws).length := ⟨_, rfl⟩
  obtain ⟨n4, hn4⟩ : ∃ n, n = (levels ps).length := ⟨_, rfl⟩
  obtain ⟨a3, c3, rfl⟩ := hLv3.form hn3.symm
  obtain ⟨a4, c4, rfl⟩ := hLv4.form hn4.symm
  have hn34 : n3 ≤ n4 := by rw [hn3, hn4]; exact HPads.out.1
  have hn4b : n4 ≤ 100001 := by rw [hn4]; exact hlb.1
  have HLL : Hid (Lev (fun b => w2.heap.size ≤ b ∧ b < w3.heap.size) w4 (.slice a3 n3 c3) (levels ws) G3 C3 ∧ Lev (fun b => w1.heap.size ≤ b ∧ ¬ (w2.heap.size ≤ b ∧ b < w3.heap.size)) w4 (.slice a4 n4 c4) (levels ps) G4 C4 ∧ n3 = (levels ws).length ∧ n4 = (levels ps).length ∧ (∀ k, k < (levels ps).length → ((levels ps).getD k []).length ≤ 100000)) := ⟨hLv3, hLv4, hn3, hn4, hlb.2⟩
  have hmb : -9223372036854775808 ≤ m ∧ m ≤ 9223372036854775807 := by
    rw [hm]
    rcases run_len zs with ⟨h1, h2⟩ | ⟨h1, h2⟩
    · omega
    · have := (runW_ok zs HV.out.2.2.2).2; omega
  clear hoS4 hb4 hLv3 hLv4 hn3 hn4 hlb hps hm hk4 HS2 HS3 HL3 hC2 hZ2 hI4 hpf HI
  by_cases hxm : m < x
  focus
    have hHx : Hid (Calls Try.prog 17 #[.slice a4 n4 c4, .int .i64 x] w4 fun e w' => e = .returned (.bool true) ∧ w' = w4) := hH4.out x (by rw [if_pos hxm])
    go_wp2_with (first | (go_at_call 14; refine hZ4.out.mono ?_; rintro e w' ⟨rfl, hw⟩; obtain rfl := hw.symm) | (go_at_call 18; refine hM4.out.mono ?_; rintro e w' ⟨rfl, hw⟩; obtain rfl := hw.symm) | (go_at_call 17; refine hHx.out.mono ?_; rintro e w' ⟨rfl, hw⟩; obtain rfl := hw.symm))
    clear hxm hHx
  rotate_left
  focus
    have hHx : Hid (Calls Try.prog 17 #[.slice a4 n4 c4, .int .i64 m] w4 fun e w' => e = .returned (.bool true) ∧ w' = w4) := hH4.out m (by rw [if_neg hxm])
    go_wp2_with (first | (go_at_call 14; refine hZ4.out.mono ?_; rintro e w' ⟨rfl, hw⟩; obtain rfl := hw.symm) | (go_at_call 18; refine hM4.out.mono ?_; rintro e w' ⟨rfl, hw⟩; obtain rfl := hw.symm) | (go_at_call 17; refine hHx.out.mono ?_; rintro e w' ⟨rfl, hw⟩; obtain rfl := hw.symm))
    clear hxm hHx
  all_goals
    clear hH4 hM4 hZ4
    go_loopg [9] n3 (fun gk kk wr => ∃ k : Nat, k ≤ n3 ∧ kk = .int .i64 k ∧ gk = n3 - k ∧ Calm w4 wr)
    case atStart => exact ⟨0, Nat.zero_le _, rfl, rfl, Kept.refl _ _⟩
    case round =>
      obtain ⟨k, hk, rfl, rfl, hc⟩ := hrel
      by_cases hlt : k < n3
      · obtain ⟨g1, g2, g3, g4, g5⟩ := HLL.out
        obtain ⟨p1, p2, p3⟩ := HPads.out.2 k (by omega)
        obtain ⟨O3, rfl, hO3⟩ := (g1.calm hc).at (k := k) (by omega)
        obtain ⟨O4, rfl, hO4⟩ := (g2.calm hc).at (k := k) p1
        have hl4 := g5 k p1
        obtain ⟨d3, hd3⟩ : ∃ d, (levels ws).getD k [] = d := ⟨_, rfl⟩
        obtain ⟨d4, hd4⟩ : ∃ d, (levels ps).getD k [] = d := ⟨_, rfl⟩
        obtain ⟨l3, hl3⟩ : ∃ l, d3.length = l := ⟨_, rfl⟩
        obtain ⟨l4, hl4'⟩ : ∃ l, d4.length = l := ⟨_, rfl⟩
        rw [hd3, hl3] at hO3
        rw [hd4, hl4'] at hO4 hl4
        rw [hd3, hd4, hl3, hl4'] at p2
        rw [hd3, hd4] at p3
        have HD : Hid ((levels ws).getD k [] = d3 ∧ (levels ps).getD k [] = d4 ∧ d3.length = l3 ∧ d4.length = l4 ∧ (∀ j, d4.getD j 0 = d3.getD j 0) ∧ k < (levels ws).length ∧ k < (levels ps).length) := ⟨hd3, hd4, hl3, hl4', p3, by omega, p1⟩
        clear g1 g2 g3 g4 g5 p1 p3 hd3 hd4 hl3 hl4'
        go_wp2
        go_quiet (fail)
        go_wp2
        go_loopg [10] l4 (fun gj jj wx => ∃ j : Nat, j ≤ l4 ∧ jj = .int .i64 j ∧ gj = l4 - j ∧ Calm w4 wx)
        case atStart => exact ⟨0, Nat.zero_le _, rfl, rfl, hc.drewN _⟩
        case round =>
          obtain ⟨j, hj, rfl, rfl, hcx⟩ := hrel
          clear hO3 hO4
          obtain ⟨g1, g2, g3, g4, g5⟩ := HLL.out
          obtain ⟨d1, d2, e3, e4, e5, e6, e7⟩ := HD.out
          have hO3 := (g1.calm hcx).outer_cell e6
          have hO4 := (g2.calm hcx).outer_cell e7
          have hR3 := ((g1.calm hcx).row k e6).2
          have hR4 := ((g2.calm hcx).row k e7).2
          rw [d1, e3] at hO3
          rw [d1] at hR3
          rw [d2, e4] at hO4
          rw [d2] at hR4
          by_cases hjl : j < l4
          · have hc4 := hR4.cell (j := j) (by omega)
            by_cases hj3 : j < l3
            · have hc3 := hR3.cell (j := j) (by omega)
              rw [e5] at hc4
              clear g1 g2 g3 g4 g5 d1 d2 e3 e4 e5 e6 e7 hR3 hR4
              generalize d3.getD j 0 = y at *
              generalize G3 k = ga at *
              generalize C3 k = cca at *
              generalize G4 k = gb at *
              generalize C4 k = ccb at *
              go_wp2
              go_quiet (fail)
              go_wp2
              go_roundg (l4 - (j + 1))
              case measure => omega
              case rel => exact ⟨j + 1, by omega, by go_num, rfl, hcx.drewN _⟩
            · rw [e5, getD_ge d3 j (by omega)] at hc4
              clear g1 g2 g3 g4 g5 d1 d2 e3 e4 e5 e6 e7 hR3 hR4
              generalize G3 k = ga at *
              generalize C3 k = cca at *
              generalize G4 k = gb at *
              generalize C4 k = ccb at *
              go_wp2
              go_roundg (l4 - (j + 1))
              case measure => omega
              case rel => exact ⟨j + 1, by omega, by go_num, rfl, hcx⟩
          · clear g1 g2 g3 g4 g5 d1 d2 e3 e4 e5 e6 e7 hR3 hR4
            generalize G4 k = gb at *
            generalize C4 k = ccb at *
            go_wp2
            go_roundg (n3 - (k + 1))
            case measure => omega
            case rel => exact ⟨k + 1, by omega, by go_num, rfl, hcx⟩
      · go_wp2
        go_ret
        exact ⟨rfl, hBel4.trans (Calm.below hc _ hBel4.size)⟩

set_option maxHeartbeats 400000 in
theorem law6_walk (ao : Option Addr) (len cap : Nat) (x : Int) (zs : List Int) (w : World) (hlen : zs.length = len) (hv : Ints w (.slice ao len cap) zs) (hr : InRange zs) (hxm : x ≤ 9223372036854775807) :
    Calls Try.prog 8 #[.slice ao len cap, .int .i64 x] w fun e w' => e = .returned (.bool true) ∧ Below w.heap.size w w' := by
  by_cases h1 : len ≤ 131072
  · by_cases hx : 0 ≤ x ∧ x ≤ 65536
    · cases hok : keysOK zs with
      | true => exact law6_main ao len cap x zs w hlen hv hr h1 hok hx.1 hx.2
      | false =>
        have hK : Hid (Calls Try.prog 11 #[.slice ao len cap] w fun e w' => e = .returned (.bool false) ∧ w' = w) := keys_form ao len cap zs w hlen hv h1 hok
        clear hok hlen hv hr
        obtain ⟨hx0, hx1⟩ := hx
        have t1 : decide (x < 0) = false := by simp; omega
        go_enter Try.func8, Try.ntmps8
        go_wp2_with (first | (go_at_call 28; refine (zz28_yes _ _ _ _ _ (by omega)).mono ?_; rintro e w' ⟨rfl, hw⟩; obtain rfl := hw.symm) | (go_at_call 11; refine hK.out.mono ?_; rintro e w' ⟨rfl, hw⟩; obtain rfl := hw.symm))
        go_ret
        exact ⟨rfl, Below.refl _ _⟩
    · clear hlen hv hr
      by_cases hx0 : x < 0
      · have t1 : decide (x < 0) = true := by simp; omega
        go_enter Try.func8, Try.ntmps8
        go_wp2_with (go_at_call 28; refine (zz28_yes _ _ _ _ _ (by omega)).mono ?_; rintro e w' ⟨rfl, hw⟩; obtain rfl := hw.symm)
        go_ret
        exact ⟨rfl, Below.refl _ _⟩
      · have t1 : decide (x < 0) = false := by simp; omega
        have t2 : 65536 < x := by omega
        clear hx
        go_enter Try.func8, Try.ntmps8
        go_wp2_with (go_at_call 28; refine (zz28_yes _ _ _ _ _ (by omega)).mono ?_; rintro e w' ⟨rfl, hw⟩; obtain rfl := hw.symm)
        go_ret
        exact ⟨rfl, Below.refl _ _⟩
  · clear hlen hv hr
    by_cases h2 : len ≤ 1048576
    · go_enter Try.func8, Try.ntmps8
      go_wp2_with (go_at_call 28; refine (zz28_yes _ _ _ _ _ (by omega)).mono ?_; rintro e w' ⟨rfl, hw⟩; obtain rfl := hw.symm)
      go_ret
      exact ⟨rfl, Below.refl _ _⟩
    · go_enter Try.func8, Try.ntmps8
      go_wp2_with (go_at_call 28; refine (zz28_no _ _ _ _ _ (by omega)).mono ?_; rintro e w' ⟨rfl, hw⟩; obtain rfl := hw.symm)
      go_ret
      exact ⟨rfl, Below.refl _ _⟩

end Go.Proofs.Qxb6000573a
