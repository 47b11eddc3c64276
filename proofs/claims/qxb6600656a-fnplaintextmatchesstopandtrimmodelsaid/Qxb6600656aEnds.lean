/-
  EndsPlainAt, and the parser's at.
-/
import Derived.Test.Qxb6600656aSmall
namespace Go.Proofs.Qxb6600656a
open Go.RowKit
set_option linter.unusedSimpArgs false
set_option linter.unusedVariables false

/-- endsB, by what the byte is. -/
theorem ends_line {zs : List Int} {st k : Nat} {fl : Bool} (h : lineB (zs.getD k 0) = true) : endsB zs st k fl = true := by unfold endsB; rw [h]; simp
theorem ends_colon {zs : List Int} {st k : Nat} {fl : Bool} (h : zs.getD k 0 = 58) : endsB zs st k fl = (spaceB (zs.getD (k + 1) 0) || (fl && flowB (zs.getD (k + 1) 0))) := by
  unfold endsB; rw [h]; simp [lineB, flowB]
theorem ends_hash {zs : List Int} {st k : Nat} {fl : Bool} (h : zs.getD k 0 = 35) : endsB zs st k fl = hashB zs st k := by
  unfold endsB; rw [h]; simp [lineB, flowB]
theorem ends_else {zs : List Int} {st k : Nat} {fl : Bool} (h1 : lineB (zs.getD k 0) = false) (h2 : ¬ zs.getD k 0 = 58) (h3 : ¬ zs.getD k 0 = 35) : endsB zs st k fl = (fl && flowB (zs.getD k 0)) := by
  have e2 : (zs.getD k 0 == 58) = false := by rw [beq_eq_false_iff_ne]; exact h2
  have e3 : (zs.getD k 0 == 35) = false := by rw [beq_eq_false_iff_ne]; exact h3
  unfold endsB; rw [h1, e2, e3]; simp

set_option maxHeartbeats 1000000 in
theorem ends_any (B : Nat) (ao : Option Addr) (n cap : Nat) (zs : List Int) (st k : Nat) (fl : Bool) (w : World) (hb : Bytes B w (.slice ao n cap) zs) (hn : zs.length = n) (hnn : n ≤ 1048576) (hk : k ≤ n) :
    Calls Try.prog 18 #[.slice ao n cap, .int .i64 (st : Int), .int .i64 (k : Int), .bool fl] w fun e w' => e = .returned (.bool (endsB zs st k fl)) ∧ w' = w := by
  have H0 : Hid (Calls Try.prog 26 #[.slice ao n cap, .int .i64 (k : Int)] w fun e w' => e = .returned (.int .u8 (zs.getD k 0)) ∧ w' = w) := by
    have := byteM_any B ao n cap zs (k : Int) w hb hn (by omega) (by omega) hnn
    rw [Int.toNat_natCast] at this
    exact this
  have H1 : Hid (Calls Try.prog 26 #[.slice ao n cap, .int .i64 ((k : Int) + 1)] w fun e w' => e = .returned (.int .u8 (zs.getD (k + 1) 0)) ∧ w' = w) := by
    have := byteM_any B ao n cap zs ((k : Int) + 1) w hb hn (by omega) (by omega) hnn
    rw [show ((k : Int) + 1).toNat = k + 1 by omega] at this
    exact this
  obtain ⟨c, hc⟩ : ∃ c, zs.getD k 0 = c := ⟨_, rfl⟩
  obtain ⟨nx, hnx⟩ : ∃ c, zs.getD (k + 1) 0 = c := ⟨_, rfl⟩
  rw [hc] at H0
  rw [hnx] at H1
  have HC : Hid (zs.getD k 0 = c ∧ zs.getD (k + 1) 0 = nx) := ⟨hc, hnx⟩
  have HB : Hid (Bytes B w (.slice ao n cap) zs) := hb
  clear hc hnx hb
  by_cases h10 : (c == 10) = true
  · have HE : Hid (endsB zs st k fl = true) := ends_line (by rw [HC.out.1]; unfold lineB; rw [h10]; rfl)
    go_enter Try.func18, Try.ntmps18
    go_wp2_with fail
    refine H0.out.mono ?_
    rintro e w' ⟨rfl, hw⟩
    obtain rfl := hw.symm
    go_wp2_with fail
    refine H1.out.mono ?_
    rintro e w' ⟨rfl, hw⟩
    obtain rfl := hw.symm
    go_wp2
    go_ret
    rw [HE.out]
    exact ⟨rfl, rfl⟩
  have h10' : (c == 10) = false := by simpa using h10
  clear h10
  by_cases h0 : (c == 0) = true
  · have HE : Hid (endsB zs st k fl = true) := ends_line (by rw [HC.out.1]; unfold lineB; rw [h0]; simp)
    go_enter Try.func18, Try.ntmps18
    go_wp2_with fail
    refine H0.out.mono ?_
    rintro e w' ⟨rfl, hw⟩
    obtain rfl := hw.symm
    go_wp2_with fail
    refine H1.out.mono ?_
    rintro e w' ⟨rfl, hw⟩
    obtain rfl := hw.symm
    go_wp2
    go_ret
    rw [HE.out]
    exact ⟨rfl, rfl⟩
  have h0' : (c == 0) = false := by simpa using h0
  clear h0
  have HL : Hid (lineB (zs.getD k 0) = false) := by
    show lineB (zs.getD k 0) = false
    rw [HC.out.1]; unfold lineB; rw [h10', h0']; rfl
  by_cases h58 : (c == 58) = true
  · have hE := ends_colon (zs := zs) (st := st) (k := k) (fl := fl) (by rw [HC.out.1]; simpa using h58)
    rw [HC.out.2] at hE
    have HF : Hid (∀ wx, Calls Try.prog 27 #[.int .u8 nx] wx fun e w' => e = .returned (.bool (flowB nx)) ∧ w' = wx) := flowM_any nx
    unfold spaceB at hE
    by_cases n32 : (nx == 32) = true
    · have HE : Hid (endsB zs st k fl = true) := by
        show endsB zs st k fl = true
        rw [hE, n32]; simp
      clear hE
      go_enter Try.func18, Try.ntmps18
      go_wp2_with fail
      refine H0.out.mono ?_
      rintro e w' ⟨rfl, hw⟩
      obtain rfl := hw.symm
      go_wp2_with fail
      refine H1.out.mono ?_
      rintro e w' ⟨rfl, hw⟩
      obtain rfl := hw.symm
      go_wp2
      go_ret
      rw [HE.out]
      exact ⟨rfl, rfl⟩
    have n32' : (nx == 32) = false := by simpa using n32
    clear n32
    by_cases n9 : (nx == 9) = true
    · have HE : Hid (endsB zs st k fl = true) := by
        show endsB zs st k fl = true
        rw [hE, n32', n9]; simp
      clear hE
      go_enter Try.func18, Try.ntmps18
      go_wp2_with fail
      refine H0.out.mono ?_
      rintro e w' ⟨rfl, hw⟩
      obtain rfl := hw.symm
      go_wp2_with fail
      refine H1.out.mono ?_
      rintro e w' ⟨rfl, hw⟩
      obtain rfl := hw.symm
      go_wp2
      go_ret
      rw [HE.out]
      exact ⟨rfl, rfl⟩
    have n9' : (nx == 9) = false := by simpa using n9
    clear n9
    by_cases n10 : (nx == 10) = true
    · have HE : Hid (endsB zs st k fl = true) := by
        show endsB zs st k fl = true
        rw [hE, n32', n9', n10]; simp
      clear hE
      go_enter Try.func18, Try.ntmps18
      go_wp2_with fail
      refine H0.out.mono ?_
      rintro e w' ⟨rfl, hw⟩
      obtain rfl := hw.symm
      go_wp2_with fail
      refine H1.out.mono ?_
      rintro e w' ⟨rfl, hw⟩
      obtain rfl := hw.symm
      go_wp2
      go_ret
      rw [HE.out]
      exact ⟨rfl, rfl⟩
    have n10' : (nx == 10) = false := by simpa using n10
    clear n10
    by_cases n0 : (nx == 0) = true
    · have HE : Hid (endsB zs st k fl = true) := by
        show endsB zs st k fl = true
        rw [hE, n32', n9', n10', n0]; simp
      clear hE
      go_enter Try.func18, Try.ntmps18
      go_wp2_with fail
      refine H0.out.mono ?_
      rintro e w' ⟨rfl, hw⟩
      obtain rfl := hw.symm
      go_wp2_with fail
      refine H1.out.mono ?_
      rintro e w' ⟨rfl, hw⟩
      obtain rfl := hw.symm
      go_wp2
      go_ret
      rw [HE.out]
      exact ⟨rfl, rfl⟩
    have n0' : (nx == 0) = false := by simpa using n0
    clear n0
    have HE : Hid (endsB zs st k fl = (fl && flowB nx)) := by
      show endsB zs st k fl = (fl && flowB nx)
      rw [hE, n32', n9', n10', n0']; simp
    clear hE
    generalize flowB nx = bb at *
    cases fl with
    | true =>
      go_enter Try.func18, Try.ntmps18
      go_wp2_with fail
      refine H0.out.mono ?_
      rintro e w' ⟨rfl, hw⟩
      obtain rfl := hw.symm
      go_wp2_with fail
      refine H1.out.mono ?_
      rintro e w' ⟨rfl, hw⟩
      obtain rfl := hw.symm
      go_wp2_with fail
      refine (HF.out _).mono ?_
      rintro e w' ⟨rfl, hw⟩
      obtain rfl := hw.symm
      go_wp2
      go_ret
      rw [HE.out]
      exact ⟨rfl, rfl⟩
    | false =>
      go_enter Try.func18, Try.ntmps18
      go_wp2_with fail
      refine H0.out.mono ?_
      rintro e w' ⟨rfl, hw⟩
      obtain rfl := hw.symm
      go_wp2_with fail
      refine H1.out.mono ?_
      rintro e w' ⟨rfl, hw⟩
      obtain rfl := hw.symm
      go_wp2
      go_ret
      rw [HE.out]
      exact ⟨rfl, rfl⟩
  have h58' : (c == 58) = false := by simpa using h58
  clear h58
  by_cases h35 : (c == 35) = true
  · have hE := ends_hash (zs := zs) (st := st) (k := k) (fl := fl) (by rw [HC.out.1]; simpa using h35)
    unfold hashB at hE
    by_cases hlt : st < k
    · obtain ⟨b, off, rfl, _, hcs⟩ := HB.out.at (k := k - 1) (by omega)
      have hcell := hcs (k - 1) (by omega)
      rw [show decide (st < k) = true by simp [hlt]] at hE
      generalize zs.getD (k - 1) 0 = pv at *
      have HE : Hid (endsB zs st k fl = blankB pv) := by
        show endsB zs st k fl = blankB pv
        rw [hE]; simp
      have HBl : Hid (∀ wx, Calls Try.prog 19 #[.int .u8 pv] wx fun e w' => e = .returned (.bool (blankB pv)) ∧ w' = wx) := blankM_any pv
      clear hE hcs
      generalize blankB pv = bb at *
      go_enter Try.func18, Try.ntmps18
      go_wp2_with fail
      refine H0.out.mono ?_
      rintro e w' ⟨rfl, hw⟩
      obtain rfl := hw.symm
      go_wp2_with fail
      refine H1.out.mono ?_
      rintro e w' ⟨rfl, hw⟩
      obtain rfl := hw.symm
      go_wp2_with fail
      refine (HBl.out _).mono ?_
      rintro e w' ⟨rfl, hw⟩
      obtain rfl := hw.symm
      go_wp2
      go_ret
      rw [HE.out]
      exact ⟨rfl, rfl⟩
    · rw [show decide (st < k) = false by simp; omega] at hE
      have HE : Hid (endsB zs st k fl = false) := by
        show endsB zs st k fl = false
        rw [hE]; rfl
      have t1 : decide (st < k) = false := by simp; omega
      clear hE
      go_enter Try.func18, Try.ntmps18
      go_wp2_with fail
      refine H0.out.mono ?_
      rintro e w' ⟨rfl, hw⟩
      obtain rfl := hw.symm
      go_wp2_with fail
      refine H1.out.mono ?_
      rintro e w' ⟨rfl, hw⟩
      obtain rfl := hw.symm
      go_wp2
      go_ret
      rw [HE.out]
      exact ⟨rfl, rfl⟩
  have h35' : (c == 35) = false := by simpa using h35
  clear h35
  have hE := ends_else (zs := zs) (st := st) (k := k) (fl := fl) HL.out (by rw [HC.out.1]; simpa using h58') (by rw [HC.out.1]; simpa using h35')
  rw [HC.out.1] at hE
  have HF : Hid (∀ wx, Calls Try.prog 27 #[.int .u8 c] wx fun e w' => e = .returned (.bool (flowB c)) ∧ w' = wx) := flowM_any c
  have HE : Hid (endsB zs st k fl = (fl && flowB c)) := hE
  clear hE
  generalize flowB c = bb at *
  cases fl with
  | true =>
    go_enter Try.func18, Try.ntmps18
    go_wp2_with fail
    refine H0.out.mono ?_
    rintro e w' ⟨rfl, hw⟩
    obtain rfl := hw.symm
    go_wp2_with fail
    refine H1.out.mono ?_
    rintro e w' ⟨rfl, hw⟩
    obtain rfl := hw.symm
    go_wp2_with fail
    refine (HF.out _).mono ?_
    rintro e w' ⟨rfl, hw⟩
    obtain rfl := hw.symm
    go_wp2
    go_ret
    rw [HE.out]
    exact ⟨rfl, rfl⟩
  | false =>
    go_enter Try.func18, Try.ntmps18
    go_wp2_with fail
    refine H0.out.mono ?_
    rintro e w' ⟨rfl, hw⟩
    obtain rfl := hw.symm
    go_wp2_with fail
    refine H1.out.mono ?_
    rintro e w' ⟨rfl, hw⟩
    obtain rfl := hw.symm
    go_wp2
    go_ret
    rw [HE.out]
    exact ⟨rfl, rfl⟩

/-- The parser at block Pb reads v, from place pos. -/
structure PS (w0 wr : World) (Pb : Nat) (v : Value) (pos : Nat) : Prop where
  c0 : wr.cell? ⟨Pb, 0, none⟩ = some v
  c1 : wr.cell? ⟨Pb, 1, none⟩ = some (.int .i64 (pos : Int))
  f1 : wr.frozen? ⟨Pb, 1, none⟩ = false
  below : Below Pb w0 wr

theorem PS.drewN {w0 wr : World} {Pb : Nat} {v : Value} {pos : Nat} (h : PS w0 wr Pb v pos) (m : Nat) : PS w0 (wr.drewN m) Pb v pos := by
  induction m with
  | zero => exact h
  | succ m ih => exact ⟨ih.c0, ih.c1, ih.f1, ih.below.drew⟩

theorem PS.put {w0 wr : World} {Pb : Nat} {v : Value} {pos : Nat} (h : PS w0 wr Pb v pos) (q : Nat) : PS w0 (wr.setCell ⟨Pb, 1, none⟩ (.int .i64 (q : Int))) Pb v q := by
  refine ⟨?_, ?_, ?_, h.below.setCell (p := ⟨Pb, 1, none⟩) (Nat.le_refl _) _⟩
  · have c0 := h.c0
    have c1 := h.c1
    go_simp
  · have c1 := h.c1
    go_simp
  · have f1 := h.f1
    go_simp

set_option maxHeartbeats 400000 in
theorem at_any (w0 : World) (Pb : Nat) (ao : Option Addr) (n cap : Nat) (zs : List Int) (pos i : Nat) (w : World) (hp : PS w0 w Pb (.slice ao n cap) pos) (hb : Bytes Pb w0 (.slice ao n cap) zs) (hn : zs.length = n) (hnn : n ≤ 1048576) (hpos : pos ≤ n) (hi : i ≤ 1) :
    Calls Try.prog 30 #[.pointer (some ⟨Pb, 0, none⟩), .int .i64 (i : Int)] w fun e w' => e = .returned (.int .u8 (zs.getD (pos + i) 0)) ∧ ∃ m, w' = w.drewN m := by
  have c0 := hp.c0
  have c1 := hp.c1
  by_cases hk : pos + i < n
  · obtain ⟨b, off, rfl, hbP, hcs⟩ := hb.at hk
    have hcell := (hp.below.cell (p := ⟨b, off + (pos + i), none⟩) hbP).trans (hcs (pos + i) hk)
    clear hcs hp hb hn
    generalize zs.getD (pos + i) 0 = c at *
    go_enter Try.func30, Try.ntmps30
    go_wp2
    go_quiet (fail)
    go_wp2
    go_quiet (fail)
    go_wp2
    go_ret
    exact ⟨rfl, _, World.drewN_drewN _ _ _⟩
  · have e : zs.getD (pos + i) 0 = 0 := by rw [List.getD_eq_getElem?_getD, List.getElem?_eq_none (by omega)]; rfl
    rw [e]
    clear hp hb hn e
    go_enter Try.func30, Try.ntmps30
    go_wp2
    go_quiet (fail)
    go_wp2
    go_ret
    exact ⟨rfl, _, rfl⟩

end Go.Proofs.Qxb6600656a
