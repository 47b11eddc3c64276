/-
  FnScriptMatchesSetModel: its walk.
-/
import Derived.Test.Qxb6000573aModel
namespace Go.Proofs.Qxb6000573a
open Go.RowKit
set_option linter.unusedSimpArgs false
set_option linter.unusedVariables false
open Pl

theorem Try.info4 : (Try.prog.info? 4).map (fun i => (i.zero, i.size, i.bytes)) = some (some (.bool false), 1, 1) := by kernel_rfl

/-- The empty set, in a new variable. -/
theorem set_new (w : World) : SetIs (fun b => w.heap.size ≤ b) (w.alloc (.cells #[.slice none 0 0] 28)) w.heap.size (levels []) := by
  refine ⟨Nat.le_refl _, .slice none 0 0, by simpa using heap_alloc_new w (.cells #[.slice none 0 0] 28), fun _ => 0, fun _ => 0, ?_⟩
  rw [levels_zero rfl]
  exact ⟨World.ownsRow_nil _ _ _ _, by intro b e; simp [Value.ownBlock] at e, by intro k hk; simp at hk, by intro i j hi; simp at hi⟩

theorem mk_model (N : Nat) (hN : N = 65537) (w : World) : (Instr.makeSlice 25 (.int .i64 65537) (.int .i64 65537)).run Try.prog w = .ok (.slice (some ⟨w.heap.size, 0, none⟩) N N) (w.alloc (.cells (madeCells #[.bool false] N) 4)) := by
  have h := run_make_row' (P := Try.prog) 25 4 (.bool false) 1 Try.underlying25 Try.info4 rfl .i64 .i64 N (by omega) (by omega) w
  have e : ((N : Nat) : Int) = 65537 := by omega
  rw [e] at h
  exact h

set_option maxRecDepth 20000 in
set_option maxHeartbeats 2000000 in
theorem law1_main (v : Value) (zs : List Int) (w : World) (hv : Ints w v zs) (hr : InRange zs) (hl : zs.length ≤ 131072) (hok : keysOK zs = true) :
    Calls Try.prog 3 #[v] w fun e w' => e = .returned (.bool true) ∧ Below w.heap.size w w' := by
  obtain ⟨ao, cap, rfl, hv0⟩ := hv
  have hv : Ints w (.slice ao zs.length cap) zs := ⟨ao, cap, rfl, hv0⟩
  have HV : Hid (Ints w (.slice ao zs.length cap) zs ∧ InRange zs ∧ keysOK zs = true) := ⟨hv, hr, hok⟩
  obtain ⟨N, hN⟩ : ∃ N, N = 65537 := ⟨_, rfl⟩
  have hmk := mk_model N hN
  have hN1 : 65537 ≤ N := by omega
  have hN2 : N ≤ 65537 := by omega
  have hK : Hid (Calls Try.prog 11 #[.slice ao zs.length cap] w fun e w' => e = .returned (.bool true) ∧ w' = w) := by
    have := keys_any (.slice ao zs.length cap) zs w hv (by omega)
    rw [hok] at this
    exact this
  have hC : Hid (Calls Try.prog 12 #[.slice ao zs.length cap] w fun e w' => ∃ ao' cap', e = .returned (.slice ao' zs.length cap') ∧ Hid (zs = [] ∨ ∃ b off, ao' = some ⟨b, off, none⟩ ∧ b < w'.heap.size ∧ ∀ j, j < zs.length → w'.cell? ⟨b, off + j, none⟩ = some (.int .i64 (zs.getD j 0))) ∧ Below w.heap.size w w') := by
    refine (clone_any _ zs w hv (by omega)).mono ?_
    rintro e w' ⟨v', rfl, ⟨ao', cap', rfl, h⟩, hB⟩
    exact ⟨ao', cap', rfl, h, hB⟩
  obtain ⟨n, hn⟩ : ∃ n, n = zs.length := ⟨_, rfl⟩
  have HN : Hid (n = zs.length) := hn
  rw [← hn] at hK hC hl ⊢
  clear hv0 hv hr hok hN hn
  go_enter Try.func3, Try.ntmps3
  go_wp2_with (first | (go_at_call 10; refine (zz10_yes _ _ _ _ (by omega)).mono ?_; rintro e w' ⟨rfl, hw⟩; obtain rfl := hw.symm) | (go_at_call 11; refine hK.out.mono ?_; rintro e w' ⟨rfl, hw⟩; obtain rfl := hw.symm) | (go_at_call 12; refine hC.out.mono ?_; rintro e w1 ⟨ao', cap', rfl, HI0, hB1⟩))
  clear hK hC
  go_loopw [4] (fun i wr => ∃ k : Nat, k ≤ n ∧ i = .int .i64 k ∧ wr.rowIs w1.heap.size 4 N (fun j => .bool (runM (zs.take k) j)) ∧ Below w1.heap.size w1 wr) (fun i wr => n - (intOf i).toNat)
  case atStart => exact ⟨0, Nat.zero_le _, rfl, World.rowIs_made _ _ _ _, (Below.refl _ _).alloc (Nat.le_refl _) _⟩
  case round =>
    obtain ⟨k, hk, rfl, hrow, hB2⟩ := hrel
    have HR : Hid (wr.rowIs w1.heap.size 4 N (fun j => .bool (runM (zs.take k) j))) := hrow
    by_cases hlt : k < n
    · have hkz : k < zs.length := by rw [← HN.out]; exact hlt
      rcases HI0.out with hz | ⟨b, off, hao, hb, hc⟩
      · exfalso; rw [hz] at hkz; simp at hkz
      subst hao
      have hcell := (hB2.cell (p := ⟨b, off + k, none⟩) hb).trans (hc k hlt)
      have hz1 := keysOK_at zs k HV.out.2.2 hkz
      have hz2 := HV.out.2.1.at k
      have HM : Hid (runM (zs.take (k + 1)) = opM (runM (zs.take k)) (zs.getD k 0)) := runM_take zs k hkz
      clear hc
      generalize zs.getD k 0 = z at *
      by_cases hz0 : 0 ≤ z
      · obtain ⟨m, rfl⟩ := Int.eq_ofNat_of_zero_le hz0
        have hmN : m < N := by omega
        have hcm := hrow.cell hmN
        have hfm := hrow.frozen m
        have HS : Hid ((wr.setCell ⟨w1.heap.size, m, none⟩ (.bool true)).rowIs w1.heap.size 4 N (fun j => .bool (runM (zs.take (k + 1)) j))) := by
          refine (hrow.set m (.bool true)).congr (fun j hj => ?_)
          rw [HM.out]
          unfold opM
          rw [if_pos hz0]
          by_cases hj : j = m <;> simp [hj]
        clear hrow hkz
        generalize runM (zs.take k) m = old at *
        go_wp2
        go_roundw
        case rel => exact ⟨k + 1, by omega, by go_num, HS.out, hB2.setCell (p := ⟨w1.heap.size, m, none⟩) (Nat.le_refl _) _⟩
        case measure => simp [intOf]; omega
      · have hneg : z < 0 := by omega
        have hxor := not_neg z hneg hz2.1
        have hsig : IntKind.i64.signed = true := rfl
        obtain ⟨m, hm⟩ := Int.eq_ofNat_of_zero_le (show 0 ≤ -1 - z by omega)
        rw [hm] at hxor
        have HMM : Hid (-1 - z = (m : Int)) := hm
        clear hm
        by_cases hm2 : m ≤ 65536
        · have hmN : m < N := by omega
          have hcm := hrow.cell hmN
          have hfm := hrow.frozen m
          have HS : Hid ((wr.setCell ⟨w1.heap.size, m, none⟩ (.bool false)).rowIs w1.heap.size 4 N (fun j => .bool (runM (zs.take (k + 1)) j))) := by
            refine (hrow.set m (.bool false)).congr (fun j hj => ?_)
            rw [HM.out]
            unfold opM
            rw [if_neg hz0, HMM.out, Int.toNat_natCast]
            by_cases hj : j = m <;> simp [hj]
          clear hrow hkz
          generalize runM (zs.take k) m = old at *
          go_wp2
          go_roundw
          case rel => exact ⟨k + 1, by omega, by go_num, HS.out, hB2.setCell (p := ⟨w1.heap.size, m, none⟩) (Nat.le_refl _) _⟩
          case measure => simp [intOf]; omega
        · have HS : Hid (wr.rowIs w1.heap.size 4 N (fun j => .bool (runM (zs.take (k + 1)) j))) := by
            refine hrow.congr (fun j hj => ?_)
            rw [HM.out]
            unfold opM
            rw [if_neg hz0, HMM.out, Int.toNat_natCast]
            have hjm : ¬ j = m := by omega
            simp [hjm]
          have hm3 : 65536 < m := by omega
          clear hrow hkz
          go_wp2
          go_roundw
          case rel => exact ⟨k + 1, by omega, by go_num, HS.out, hB2⟩
          case measure => simp [intOf]; omega
    · have hkn : k = n := by omega
      have hrow' := hrow
      rw [hkn, HN.out, List.take_length] at hrow'
      have hIw : Ints wr (.slice ao' n cap') zs := by
        have h1 : Ints w1 (.slice ao' n cap') zs := by have h := HI0.out; rw [HN.out] at h ⊢; exact ⟨_, _, rfl, h⟩
        exact h1.below hB2
      have HRun : Hid (Calls Try.prog 13 #[.pointer (some ⟨wr.heap.size, 0, none⟩), .slice ao' n cap'] (wr.alloc (.cells #[.slice none 0 0] 28)) fun e w' => e = .returned (.tuple #[]) ∧ SetIs (fun b => wr.heap.size ≤ b) w' wr.heap.size (levels (runW zs)) ∧ Kept (fun b => wr.heap.size ≤ b) (wr.alloc (.cells #[.slice none 0 0] 28)) w') :=
        run_any (fun b => wr.heap.size ≤ b) wr.heap.size (.slice ao' n cap') zs wr (wr.alloc (.cells #[.slice none 0 0] 28)) hIw (by rw [← HN.out]; omega) HV.out.2.1 HV.out.2.2 ((Below.refl _ _).alloc (Nat.le_refl _) _) (fun b hb => by show ¬ wr.heap.size ≤ b; omega) (fun b hb => Nat.le_trans (by simp) hb) (set_new wr)
      have HRow : Hid (wr.rowIs w1.heap.size 4 N (fun j => .bool (runM zs j))) := hrow'
      clear hrow hrow' hkn hIw HR HI0
      go_wp2_with (go_at_call 13; refine HRun.out.mono ?_; rintro e w2 ⟨rfl, hset, hkept⟩; obtain ⟨hoS, vL, hS2, hLE⟩ := hset)
      have HLE : Hid (LevE (fun b => wr.heap.size ≤ b) w2 vL (levels (runW zs))) := hLE
      have hBel : Below w.heap.size w w2 := (hB1.trans ((hB2.mono hB1.size).alloc (Nat.le_trans hB1.size hB2.size) (.cells #[.slice none 0 0] 28))).trans (hkept.below (Nat.le_trans hB1.size (Nat.le_trans hB2.size (by simp))) (fun b hb => by have := Nat.le_trans hB1.size hB2.size; show ¬ wr.heap.size ≤ b; omega))
      have HRow2 : Hid (w2.rowIs w1.heap.size 4 N (fun j => .bool (runM zs j))) := by
        have hlt1 := HRow.out.lt
        have h1 := HRow.out.alloc (.cells #[.slice none 0 0] 28)
        exact h1.of_block (hkept.block _ h1.lt (by show ¬ wr.heap.size ≤ w1.heap.size; omega))
      obtain ⟨q1, q2⟩ := runW_ok zs HV.out.2.2
      have HMem : Hid (∀ i : Nat, i ≤ 200000 → Calls Try.prog 15 #[vL, .int .i64 (i : Int)] w2 fun e w' => e = .returned (.bool (runM zs i)) ∧ w' = w2) := by
        intro i hi
        have := member_any _ vL (runW zs) i w2 (by omega) (by omega) (by omega) q1 hLE
        rw [Int.toNat_natCast, bit_model zs HV.out.2.2] at this
        exact this
      have HHigh : Hid (∀ i, 65536 < i → runM zs i = false) := model_high zs HV.out.2.2
      have hform : ∃ ao2 n2 cap2, vL = .slice ao2 n2 cap2 ∧ n2 ≤ 2000 ∧ (n2 = 0 ∨ (0 < n2 ∧ ∃ O g len cc, ao2 = some ⟨O, 0, none⟩ ∧ w2.cell? ⟨O, 0, none⟩ = some (.slice (some ⟨g, 0, none⟩) len cc) ∧ len ≤ 1025)) := by
        obtain ⟨G, C, hL⟩ := hLE
        by_cases hz : (runW zs).length = 0
        · rw [levels_zero hz] at hL
          obtain ⟨ao2, cap2, rfl⟩ := hL.form (k := 0) rfl
          exact ⟨ao2, 0, cap2, rfl, by omega, .inl rfl⟩
        · rw [levels_pos (by omega)] at hL
          have hbl := build_length (runW zs)
          rcases hL.shape with ⟨_, h⟩ | ⟨O, cap2, rfl, _⟩
          · exact absurd h (build_ne _)
          · obtain ⟨t, ht⟩ := build_cons (runW zs)
            have hgd : (build (runW zs)).getD 0 [] = runW zs := by rw [ht]; rfl
            have hO := hL.outer_cell (k := 0) (by omega)
            rw [hgd] at hO
            exact ⟨_, _, cap2, rfl, by omega, .inr ⟨by omega, O, _, _, _, rfl, hO, q2⟩⟩
      have hSS : Hid (Calls Try.prog 14 #[.pointer (some ⟨wr.heap.size, 0, none⟩)] w2 fun e w' => e = .returned vL ∧ w' = w2) := zzlevels_any _ _ _ hS2
      clear hLE hS2 HRun HRow hkept hB2 hB1 hoS q1 q2 HLE HV
      obtain ⟨ao2, n2, cap2, rfl, hn2, hcase⟩ := hform
      go_wp2_with fail
      refine hSS.out.mono ?_
      rintro e w3 ⟨rfl, hw⟩
      obtain rfl := hw.symm
      clear hSS
      have hcase3 : (n2 = 0) ∨ (0 < n2 ∧ ∃ O g len cc, ao2 = some ⟨O, 0, none⟩ ∧ w2.cell? ⟨O, 0, none⟩ = some (.slice (some ⟨g, 0, none⟩) len cc) ∧ len ≤ 1025 ∧ 65537 < len * 64) ∨ (0 < n2 ∧ ∃ O g len cc, ao2 = some ⟨O, 0, none⟩ ∧ w2.cell? ⟨O, 0, none⟩ = some (.slice (some ⟨g, 0, none⟩) len cc) ∧ len ≤ 1025 ∧ len * 64 ≤ 65537) := by
        rcases hcase with hz2 | ⟨hp2, O, g, len, cc, h1, hO, hlen⟩
        · exact .inl hz2
        · by_cases hbig : 65537 < len * 64
          · exact .inr (.inl ⟨hp2, O, g, len, cc, h1, hO, hlen, hbig⟩)
          · exact .inr (.inr ⟨hp2, O, g, len, cc, h1, hO, hlen, by omega⟩)
      obtain ⟨M, hM1, hM2⟩ : ∃ M : Nat, M ≤ 100000 ∧ 100000 ≤ M := ⟨100000, Nat.le_refl _, Nat.le_refl _⟩
      clear hcase
      rcases hcase3 with hz2 | ⟨hp2, O, g, len, cc, rfl, hO, hlen, hbig⟩ | ⟨hp2, O, g, len, cc, rfl, hO, hlen, hbig⟩
      focus
        have t1 : decide (0 < n2) = false := by simp [hz2]
        clear hz2
        go_wp2
        obtain ⟨lim, hlim, hlim2⟩ : ∃ lim : Int, (65537 : Int) = lim ∧ lim ≤ 100000 := ⟨_, rfl, by omega⟩
        rw [hlim]
        clear hlim
      rotate_left
      focus
        have t1 : decide (0 < n2) = true := by simp; omega
        go_wp2
        obtain ⟨lim, hlim, hlim2⟩ : ∃ lim : Int, (len : Int) * 64 = lim ∧ lim ≤ 100000 := ⟨_, rfl, by omega⟩
        rw [hlim]
        clear hlim hbig
      rotate_left
      focus
        have t1 : decide (0 < n2) = true := by simp; omega
        have hbig' : (len : Int) * 64 ≤ 65537 := by omega
        go_wp2
        obtain ⟨lim, hlim, hlim2⟩ : ∃ lim : Int, (65537 : Int) = lim ∧ lim ≤ 100000 := ⟨_, rfl, by omega⟩
        clear hbig hbig'
        rw [hlim]
        clear hlim
      all_goals
        go_loopg [9] M (fun gk i wx => ∃ k : Nat, k ≤ M ∧ i = .int .i64 k ∧ gk = M - k ∧ w2 = wx)
        case atStart => exact ⟨0, Nat.zero_le _, rfl, rfl, rfl⟩
        case round =>
          obtain ⟨kk, hkk, rfl, rfl, rfl⟩ := hrel
          have HC15 := HMem.out kk (by omega)
          have HCC : Hid (Calls Try.prog 15 #[_, .int .i64 (kk : Int)] w2 _) := HC15
          clear HC15
          by_cases hke : kk ≤ 65536
          · have hcb := HRow2.out.cell (i := kk) (by omega)
            have t3 : decide ((kk : Int) ≤ 65536) = true := by simp; omega
            generalize runM zs kk = bb at *
            go_wp2_with (go_at_call 15; refine HCC.out.mono ?_; rintro e w4 ⟨rfl, hw⟩; obtain rfl := hw.symm)
            · have hlt4 : (kk : Int) < lim := by assumption
              go_roundg (M - (kk + 1))
              case measure => omega
              case rel => exact ⟨kk + 1, by omega, by go_num, rfl, rfl⟩
            · go_ret
              exact ⟨rfl, hBel⟩
          · have t3 : decide ((kk : Int) ≤ 65536) = false := by simp; omega
            have hfl := HHigh.out kk (by omega)
            rw [hfl] at HCC
            clear hfl
            go_wp2_with (go_at_call 15; refine HCC.out.mono ?_; rintro e w4 ⟨rfl, hw⟩; obtain rfl := hw.symm)
            · have hlt4 : (kk : Int) < lim := by assumption
              go_roundg (M - (kk + 1))
              case measure => omega
              case rel => exact ⟨kk + 1, by omega, by go_num, rfl, rfl⟩
            · go_ret
              exact ⟨rfl, hBel⟩

set_option maxHeartbeats 400000 in
theorem law1_walk (ao : Option Addr) (len cap : Nat) (zs : List Int) (w : World) (hlen : zs.length = len) (hv : Ints w (.slice ao len cap) zs) (hr : InRange zs) :
    Calls Try.prog 3 #[.slice ao len cap] w fun e w' => e = .returned (.bool true) ∧ Below w.heap.size w w' := by
  by_cases h1 : len ≤ 131072
  · cases hok : keysOK zs with
    | true => exact law1_main _ zs w hv hr (by omega) hok
    | false =>
      have hK : Hid (Calls Try.prog 11 #[.slice ao len cap] w fun e w' => e = .returned (.bool false) ∧ w' = w) := by
        have := keys_any _ zs w hv (by omega)
        rw [hok] at this
        exact this
      clear hv hr hok hlen
      go_enter Try.func3, Try.ntmps3
      go_wp2_with (first | (go_at_call 10; refine (zz10_yes _ _ _ _ (by omega)).mono ?_; rintro e w' ⟨rfl, hw⟩; obtain rfl := hw.symm) | (go_at_call 11; refine hK.out.mono ?_; rintro e w' ⟨rfl, hw⟩; obtain rfl := hw.symm))
      go_ret
      exact ⟨rfl, Below.refl _ _⟩
  · clear hv hr hlen
    by_cases h2 : len ≤ 1048576
    · go_enter Try.func3, Try.ntmps3
      go_wp2_with (go_at_call 10; refine (zz10_yes _ _ _ _ (by omega)).mono ?_; rintro e w' ⟨rfl, hw⟩; obtain rfl := hw.symm)
      go_ret
      exact ⟨rfl, Below.refl _ _⟩
    · go_enter Try.func3, Try.ntmps3
      go_wp2_with (go_at_call 10; refine (zz10_no _ _ _ _ (by omega)).mono ?_; rintro e w' ⟨rfl, hw⟩; obtain rfl := hw.symm)
      go_ret
      exact ⟨rfl, Below.refl _ _⟩

end Go.Proofs.Qxb6000573a
