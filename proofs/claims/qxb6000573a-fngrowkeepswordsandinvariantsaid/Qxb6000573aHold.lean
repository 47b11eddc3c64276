/-
  levelsHold: true of the tower.
-/
import Derived.Test.Qxb6000573aRead
namespace Go.Proofs.Qxb6000573a
open Go.RowKit
set_option linter.unusedSimpArgs false
set_option linter.unusedVariables false
open Pl

theorem build_chain : ∀ (m : Nat) (ws : List Nat), ws.length ≤ m → 1 ≤ ws.length → (∀ k, k + 1 < (build ws).length → (build ws).getD (k + 1) [] = summ ((build ws).getD k []) ∧ 2 ≤ ((build ws).getD k []).length) ∧ ((build ws).getD ((build ws).length - 1) []).length = 1 := by
  intro m
  induction m with
  | zero => intro ws h1 h2; omega
  | succ m ih =>
    intro ws h1 h2
    by_cases h : ws.length ≤ 1
    · rw [build_one ws h]
      exact ⟨by intro k hk; simp at hk, by simp; omega⟩
    · have hup := up_le ws.length (by omega)
      have hpo := up_pos ws.length (by omega)
      obtain ⟨i1, i2⟩ := ih (summ ws) (by rw [length_summ]; omega) (by rw [length_summ]; omega)
      have hbl := build_length (summ ws)
      rw [build_more ws (by omega)]
      refine ⟨?_, ?_⟩
      · intro k hk
        cases k with
        | zero =>
          obtain ⟨t, ht⟩ := build_cons (summ ws)
          refine ⟨?_, by simp; omega⟩
          rw [ht]; simp
        | succ k =>
          simp only [List.length_cons] at hk
          have := i1 k (by omega)
          simpa using this
      · have e : (ws :: build (summ ws)).length - 1 = ((build (summ ws)).length - 1) + 1 := by simp; omega
        rw [e]
        simpa using i2

theorem summ_bit (d : List Nat) (j : Nat) (hj : j < up d.length * 64) : ((summ d).getD (j / 64) 0).testBit (j % 64) = decide (d.getD j 0 ≠ 0) := by
  unfold summ
  rw [getD_sumN, if_pos (by omega), testBit_sumw, show 64 * (j / 64) + j % 64 = j by omega]
  simp; omega

set_option maxRecDepth 20000 in
set_option maxHeartbeats 2000000 in
theorem hold_walk (own : Nat → Prop) (O cap : Nat) (ws : List Nat) (room : Nat) (G C : Nat → Nat) (w : World) (hl : ws.length ≤ 90000) (hf : Fit ws) (hr : ws.length = room / 64 + 1)
    (hL : Lev own w (.slice (some ⟨O, 0, none⟩) (build ws).length cap) (build ws) G C) :
    Calls Try.prog 17 #[.slice (some ⟨O, 0, none⟩) (build ws).length cap, .int .i64 (room : Int)] w fun e w' => e = .returned (.bool true) ∧ w' = w := by
  have hbl := build_length ws
  obtain ⟨hch, hlast⟩ := build_chain ws.length ws (Nat.le_refl _) (by omega)
  have hpos := build_pos ws (by omega)
  have hfit := build_fit ws hf
  have HB : Hid ((∀ k, k < (build ws).length → w.cell? ⟨O, k, none⟩ = some (.slice (some ⟨G k, 0, none⟩) ((build ws).getD k []).length (C k)) ∧ 1 ≤ ((build ws).getD k []).length ∧ ((build ws).getD k []).length ≤ 90000 ∧ Fit ((build ws).getD k []) ∧ (∀ j, j < ((build ws).getD k []).length → w.cell? ⟨G k, j, none⟩ = some (.int .u64 ((((build ws).getD k []).getD j 0 : Nat) : Int)))) ∧
      (∀ k, k + 1 < (build ws).length → (build ws).getD (k + 1) [] = summ ((build ws).getD k []) ∧ 2 ≤ ((build ws).getD k []).length) ∧ ((build ws).getD ((build ws).length - 1) []).length = 1) := by
    refine ⟨fun k hk => ?_, hch, hlast⟩
    have hm : (build ws).getD k [] ∈ build ws := by
      rw [List.getD_eq_getElem?_getD, List.getElem?_eq_getElem hk]; exact List.getElem_mem hk
    have h1 := hpos _ hm
    exact ⟨hL.outer_cell hk, h1.1, by omega, hfit _ hm, fun j hj => (hL.row k hk).2.cell hj⟩
  have hd0 : (build ws).getD 0 [] = ws := by obtain ⟨t, ht⟩ := build_cons ws; rw [ht]; rfl
  have hO0 := (HB.out.1 0 (by omega)).1
  rw [hd0, hr] at hO0
  obtain ⟨g0, hg0⟩ : ∃ g0, G 0 = g0 := ⟨_, rfl⟩
  obtain ⟨c0, hc0⟩ : ∃ c0, C 0 = c0 := ⟨_, rfl⟩
  rw [hg0, hc0] at hO0
  obtain ⟨n, hn⟩ : ∃ n, n = (build ws).length := ⟨_, rfl⟩
  have HN : Hid (n = (build ws).length) := hn
  rw [← hn] at hbl ⊢
  have t1 : ((n : Int) == 0) = false := by rw [beq_eq_false_iff_ne]; omega
  have t0 : ¬ ((room : Int) < 0) := by omega
  have hroom : room ≤ 6000000 := by omega
  have t2 : (((room / 64 + 1 : Nat) : Int) != (room : Int) / 64 + 1) = false := by
    rw [bne_eq_false_iff_eq]; omega
  have hn2 : n ≤ 90001 := by omega
  have hn1 : 1 ≤ n := by omega
  clear hL hch hlast hpos hfit hd0 hg0 hc0 hn hbl hr
  go_enter Try.func17, Try.ntmps17
  go_wp2
  go_loopg [5] (n - 1) (fun gk kk wr => ∃ k : Nat, 1 ≤ k ∧ k ≤ n ∧ kk = .int .i64 k ∧ gk = n - k ∧ w = wr)
  case atStart => exact ⟨1, Nat.le_refl _, hn1, rfl, rfl, rfl⟩
  case round =>
    obtain ⟨k, hk1, hkn, rfl, rfl, rfl⟩ := hrel
    clear hO0 t1 t2
    by_cases hlt : k < n
    · obtain ⟨p1, p2, p3, p4, p5⟩ := HB.out.1 (k - 1) (by have := HN.out; omega)
      obtain ⟨r1, r2, r3, r4, r5⟩ := HB.out.1 k (by have := HN.out; omega)
      obtain ⟨ch1, ch2⟩ := HB.out.2.1 (k - 1) (by have := HN.out; omega)
      rw [show k - 1 + 1 = k by omega] at ch1
      rw [ch1, length_summ] at r1
      rw [ch1, length_summ] at r5
      rw [ch1] at r4
      obtain ⟨d, hd⟩ : ∃ d, (build ws).getD (k - 1) [] = d := ⟨_, rfl⟩
      rw [hd] at p1 p3 p5 ch2 r1 r4 r5
      obtain ⟨u, hu⟩ : ∃ u, up d.length = u := ⟨_, rfl⟩
      have hu2 : u = (d.length + 63) / 64 := by rw [← hu]; rfl
      rw [hu] at r1 r5
      have HE : Hid (u = (d.length + 63) / 64 ∧ up d.length = u) := ⟨hu2, hu⟩
      have hub : u * 64 ≤ 200000 := by omega
      have hub2 : d.length ≤ u * 64 := by omega
      have t3 : decide ((d.length : Int) ≤ 1) = false := by simp; omega
      have t4 : ((u : Int) != ((d.length : Int) + 63) / 64) = false := by rw [bne_eq_false_iff_eq]; omega
      have HP : Hid (Fit (summ d) ∧ (∀ j, j < d.length → w.cell? ⟨G (k - 1), j, none⟩ = some (.int .u64 ((d.getD j 0 : Nat) : Int))) ∧ (∀ j, j < u → w.cell? ⟨G k, j, none⟩ = some (.int .u64 (((summ d).getD j 0 : Nat) : Int)))) := ⟨r4, p5, r5⟩
      clear p2 p4 p5 r2 r3 r4 r5 ch1 hd hu hu2
      generalize G (k - 1) = gd at *
      generalize C (k - 1) = cd at *
      generalize G k = ge at *
      generalize C k = ce at *
      generalize hdl : d.length = dl at *
      have HDL : Hid (d.length = dl) := hdl
      clear hdl
      go_wp2
      go_loopg [8] (u * 64) (fun gj jj wr => ∃ j : Nat, j ≤ u * 64 ∧ jj = .int .i64 j ∧ gj = u * 64 - j ∧ w = wr)
      case atStart => exact ⟨0, Nat.zero_le _, rfl, rfl, rfl⟩
      case round =>
        obtain ⟨j, hj, rfl, rfl, rfl⟩ := hrel
        clear t3 t4 p1 r1
        by_cases hju : j < u * 64
        · have hce := HP.out.2.2 (j / 64) (by omega)
          obtain ⟨q, hbit, hq⟩ := bit_asked ((summ d).getD (j / 64) 0) j (HP.out.1 _)
          rw [summ_bit d j (by rw [HDL.out, HE.out.2]; exact hju)] at hq
          by_cases hjd : j < dl
          · have hcd := HP.out.2.1 j hjd
            have hqq : ((q : Int) == 1) = (((d.getD j 0 : Nat) : Int) != 0) := by
              rw [← hq]
              generalize d.getD j 0 = y
              rw [Bool.eq_iff_iff]; simp
            clear hq
            generalize d.getD j 0 = y at *
            generalize (summ d).getD (j / 64) 0 = x at *
            obtain ⟨bb, hbb⟩ : ∃ bb, ((y : Int) != 0) = bb := ⟨_, rfl⟩
            rw [hbb] at hqq
            go_wp2
            go_roundg (u * 64 - (j + 1))
            case measure => omega
            case rel => exact ⟨j + 1, by omega, by go_num, rfl, rfl⟩
          · have hqq : ((q : Int) == 1) = false := by
              rw [← hq, getD_ge d j (by rw [HDL.out]; omega)]; simp
            clear hq
            generalize (summ d).getD (j / 64) 0 = x at *
            have t5 : decide ((j : Int) < (dl : Int)) = false := by simp; omega
            go_wp2
            go_roundg (u * 64 - (j + 1))
            case measure => omega
            case rel => exact ⟨j + 1, by omega, by go_num, rfl, rfl⟩
        · go_wp2
          go_roundg (n - (k + 1))
          case measure => omega
          case rel => exact ⟨k + 1, by omega, by omega, by go_num, rfl, rfl⟩
    · have hke : k = n := by omega
      have hN := HN.out
      have p1 := (HB.out.1 (n - 1) (by omega)).1
      have hla := HB.out.2.2
      rw [← hN] at hla
      rw [hla] at p1
      generalize G (n - 1) = gl at *
      generalize C (n - 1) = cl at *
      clear hN hla hke
      go_wp2
      go_ret
      exact ⟨rfl, rfl⟩

/-- ████ levelsHold is true of a set's levels, at the room that its lowest row has. -/
theorem hold_any (own : Nat → Prop) (v : Value) (ws : List Nat) (room : Int) (w : World) (hl : ws.length ≤ 90000) (hf : Fit ws)
    (hr : (ws.length = 0 ∧ room < 0 ∧ -9223372036854775808 ≤ room) ∨ (0 ≤ room ∧ ws.length = room.toNat / 64 + 1)) (hL : LevE own w v (levels ws)) :
    Calls Try.prog 17 #[v, .int .i64 room] w fun e w' => e = .returned (.bool true) ∧ w' = w := by
  obtain ⟨G, C, hL⟩ := hL
  rcases hr with ⟨hz, hneg, _⟩ | ⟨h0, hlen⟩
  · rw [levels_zero hz] at hL
    obtain ⟨ao, cap, rfl⟩ := hL.form (k := 0) rfl
    clear hL hz hf hl
    go_enter Try.func17, Try.ntmps17
    go_wp2
    go_ret
    exact ⟨rfl, rfl⟩
  · obtain ⟨r, rfl⟩ := Int.eq_ofNat_of_zero_le h0
    rw [Int.toNat_natCast] at hlen
    rw [levels_pos (by omega)] at hL
    rcases hL.shape with ⟨_, h⟩ | ⟨O, cap, rfl, _⟩
    · exact absurd h (build_ne ws)
    · exact hold_walk own O cap ws r G C w hl hf hlen hL

/-! ### The lowest row is as long as the largest key added needs -/
theorem fold_len (zs : List Int) : ∀ (ws : List Nat) (m : Int), ((ws.length = 0 ∧ m = -1) ∨ (0 ≤ m ∧ ws.length = m.toNat / 64 + 1)) →
    let m' := zs.foldl (fun m z => if m < z then z else m) m
    ((zs.foldl opW ws).length = 0 ∧ m' = -1) ∨ (0 ≤ m' ∧ (zs.foldl opW ws).length = m'.toNat / 64 + 1) := by
  induction zs with
  | nil => intro ws m h; exact h
  | cons z zs ih =>
    intro ws m h
    refine ih (opW ws z) (if m < z then z else m) ?_
    unfold opW
    by_cases hz : 0 ≤ z
    · rw [if_pos hz]
      right
      unfold addW
      rw [length_orAt, length_pad]
      rcases h with ⟨h1, h2⟩ | ⟨h1, h2⟩
      · rw [if_pos (by omega)]; omega
      · split <;> omega
    · rw [if_neg hz]
      have e : (remW ws (-1 - z).toNat).length = ws.length := by unfold remW; split <;> simp [length_clrAt]
      rw [e]
      rcases h with ⟨h1, h2⟩ | ⟨h1, h2⟩
      · rw [if_neg (by omega)]; exact .inl ⟨h1, h2⟩
      · rw [if_neg (by omega)]; exact .inr ⟨h1, h2⟩

theorem run_len (zs : List Int) : ((runW zs).length = 0 ∧ largest zs = -1) ∨ (0 ≤ largest zs ∧ (runW zs).length = (largest zs).toNat / 64 + 1) := fold_len zs [] (-1) (.inl ⟨rfl, rfl⟩)

end Go.Proofs.Qxb6000573a
