/-
  sameShape, sameLevels: true of two sets of levels that are alike.
-/
import Derived.Test.Qxb6000573aRead
import Derived.Deep.LoopGhost
import Derived.Deep.QuietTactic
import Derived.BigQuiet
namespace Go.Proofs.Qxb6000573a
open Go.RowKit
set_option linter.unusedSimpArgs false
set_option linter.unusedVariables false
open Pl

/-- Nothing that was there has turned. -/
def Calm (w w' : World) : Prop := Kept (fun _ => False) w w'

theorem Calm.drewN {w wr : World} (h : Calm w wr) (n : Nat) : Calm w (wr.drewN n) := by
  induction n with
  | zero => exact h
  | succ n ih => exact Kept.drew ih

theorem Lev.calm {own : Nat → Prop} {w w' : World} {v : Value} {L : List (List Nat)} {G C : Nat → Nat} (h : Lev own w v L G C) (hc : Calm w w') : Lev own w' v L G C := h.kept hc (fun _ _ h => h)

/-- Row k of levels whose value is written with whatever address. -/
theorem Lev.at {own : Nat → Prop} {w : World} {ao : Option Addr} {n cap : Nat} {L : List (List Nat)} {G C : Nat → Nat} (h : Lev own w (.slice ao n cap) L G C) {k : Nat} (hk : k < L.length) :
    ∃ O, ao = some ⟨O, 0, none⟩ ∧ w.cell? ⟨O, k, none⟩ = some (.slice (some ⟨G k, 0, none⟩) (L.getD k []).length (C k)) := by
  rcases h.shape with ⟨_, h'⟩ | ⟨O, cap', h', _⟩
  · rw [h'] at hk; simp at hk
  · simp at h'
    obtain ⟨rfl, rfl, rfl⟩ := h'
    exact ⟨O, rfl, h.outer_cell hk⟩

set_option maxRecDepth 20000 in
set_option maxHeartbeats 1000000 in
theorem shape_any (owna ownb : Nat → Prop) (va vb : Value) (L M : List (List Nat)) (w : World) (hn : L.length ≤ 100001) (hlen : M.length = L.length) (hrow : ∀ k, k < L.length → (M.getD k []).length = (L.getD k []).length ∧ (L.getD k []).length ≤ 100000)
    (hA : LevE owna w va L) (hB : LevE ownb w vb M) :
    Calls Try.prog 25 #[va, vb] w fun e w' => e = .returned (.bool true) ∧ Calm w w' := by
  obtain ⟨Ga, Ca, hA⟩ := hA
  obtain ⟨Gb, Cb, hB⟩ := hB
  obtain ⟨n, hnn⟩ : ∃ n, n = L.length := ⟨_, rfl⟩
  obtain ⟨aa, ca, rfl⟩ := hA.form hnn.symm
  obtain ⟨ab, cb, rfl⟩ := hB.form (hlen.trans hnn.symm)
  have HH : Hid (Lev owna w (.slice aa n ca) L Ga Ca ∧ Lev ownb w (.slice ab n cb) M Gb Cb ∧ n = L.length ∧ M.length = L.length ∧ (∀ k, k < L.length → (M.getD k []).length = (L.getD k []).length ∧ (L.getD k []).length ≤ 100000)) := ⟨hA, hB, hnn, hlen, hrow⟩
  rw [← hnn] at hn
  clear hA hB hnn hlen hrow
  go_enter Try.func25, Try.ntmps25
  go_wp2
  go_loopg [5] n (fun gk kk wr => ∃ k : Nat, k ≤ n ∧ kk = .int .i64 k ∧ gk = n - k ∧ Calm w wr)
  case atStart => exact ⟨0, Nat.zero_le _, rfl, rfl, Kept.refl _ _⟩
  case round =>
    obtain ⟨k, hk, rfl, rfl, hc⟩ := hrel
    by_cases hlt : k < n
    · obtain ⟨h1, h2, h3, h4, h5⟩ := HH.out
      obtain ⟨Oa, rfl, hOa⟩ := (h1.calm hc).at (k := k) (by omega)
      obtain ⟨Ob, rfl, hOb⟩ := (h2.calm hc).at (k := k) (by omega)
      obtain ⟨h6, h7⟩ := h5 k (by omega)
      rw [h6] at hOb
      clear h1 h2 h3 h4 h5 h6
      generalize (L.getD k []).length = l at *
      generalize Ga k = ga at *
      generalize Ca k = cca at *
      generalize Gb k = gb at *
      generalize Cb k = ccb at *
      go_wp2
      go_quiet (fail)
      go_wp2
      go_roundg (n - (k + 1))
      case measure => omega
      case rel => exact ⟨k + 1, by omega, by go_num, rfl, hc.drewN _⟩
    · go_wp2
      go_ret
      exact ⟨rfl, hc⟩

set_option maxRecDepth 20000 in
set_option maxHeartbeats 1000000 in
/-- ████ sameLevels is true of two sets of levels that hold the same words. -/
theorem same_any (owna ownb : Nat → Prop) (va vb : Value) (L : List (List Nat)) (w : World) (hn : L.length ≤ 100001) (hrow : ∀ k, k < L.length → (L.getD k []).length ≤ 100000)
    (hA : LevE owna w va L) (hB : LevE ownb w vb L) :
    Calls Try.prog 22 #[va, vb] w fun e w' => e = .returned (.bool true) ∧ Calm w w' := by
  have HS : Hid (Calls Try.prog 25 #[va, vb] w fun e w' => e = .returned (.bool true) ∧ Calm w w') := shape_any owna ownb va vb L L w hn rfl (fun k hk => ⟨rfl, hrow k hk⟩) hA hB
  obtain ⟨Ga, Ca, hA⟩ := hA
  obtain ⟨Gb, Cb, hB⟩ := hB
  obtain ⟨n, hnn⟩ : ∃ n, n = L.length := ⟨_, rfl⟩
  obtain ⟨aa, ca, rfl⟩ := hA.form hnn.symm
  obtain ⟨ab, cb, rfl⟩ := hB.form hnn.symm
  have HH : Hid (Lev owna w (.slice aa n ca) L Ga Ca ∧ Lev ownb w (.slice ab n cb) L Gb Cb ∧ n = L.length ∧ (∀ k, k < L.length → (L.getD k []).length ≤ 100000)) := ⟨hA, hB, hnn, hrow⟩
  rw [← hnn] at hn
  clear hA hB hnn hrow
  go_enter Try.func22, Try.ntmps22
  go_wp2_with (go_at_call 25; refine HS.out.mono ?_; rintro e w1 ⟨rfl, hc1⟩)
  go_loopg [5] n (fun gk kk wr => ∃ k : Nat, k ≤ n ∧ kk = .int .i64 k ∧ gk = n - k ∧ Calm w wr)
  case atStart => exact ⟨0, Nat.zero_le _, rfl, rfl, hc1⟩
  case round =>
    obtain ⟨k, hk, rfl, rfl, hc⟩ := hrel
    clear HS
    by_cases hlt : k < n
    · obtain ⟨h1, h2, h3, h4⟩ := HH.out
      obtain ⟨Oa, rfl, hOa⟩ := (h1.calm hc).at (k := k) (by omega)
      obtain ⟨Ob, rfl, hOb⟩ := (h2.calm hc).at (k := k) (by omega)
      have h7 := h4 k (by omega)
      obtain ⟨d, hd⟩ : ∃ d, L.getD k [] = d := ⟨_, rfl⟩
      rw [hd] at hOa hOb h7
      obtain ⟨l, hl⟩ : ∃ l, d.length = l := ⟨_, rfl⟩
      have HD : Hid (L.getD k [] = d ∧ d.length = l ∧ k < L.length) := ⟨hd, hl, by omega⟩
      rw [hl] at hOa hOb h7
      clear h1 h2 h3 h4 hd hl
      go_wp2
      go_loopg [6] l (fun gj jj wx => ∃ j : Nat, j ≤ l ∧ jj = .int .i64 j ∧ gj = l - j ∧ Calm w wx)
      case atStart => exact ⟨0, Nat.zero_le _, rfl, rfl, hc⟩
      case round =>
        obtain ⟨j, hj, rfl, rfl, hcx⟩ := hrel
        clear hOa hOb
        obtain ⟨h1, h2, h3, h4⟩ := HH.out
        obtain ⟨g1, g2, g3⟩ := HD.out
        have hOa := (h1.calm hcx).outer_cell g3
        have hOb := (h2.calm hcx).outer_cell g3
        have hRa := ((h1.calm hcx).row k g3).2
        have hRb := ((h2.calm hcx).row k g3).2
        rw [g1, g2] at hOa hOb
        rw [g1] at hRa hRb
        by_cases hjl : j < l
        · have hca := hRa.cell (j := j) (by omega)
          have hcb := hRb.cell (j := j) (by omega)
          clear h1 h2 h3 h4 g1 g2 g3 hRa hRb
          generalize d.getD j 0 = x at *
          generalize Ga k = ga at *
          generalize Ca k = cca at *
          generalize Gb k = gb at *
          generalize Cb k = ccb at *
          go_wp2
          go_quiet (fail)
          go_wp2
          go_roundg (l - (j + 1))
          case measure => omega
          case rel => exact ⟨j + 1, by omega, by go_num, rfl, hcx.drewN _⟩
        · clear h1 h2 h3 h4 g1 g2 g3 hRa hRb
          generalize Ga k = ga at *
          generalize Ca k = cca at *
          go_wp2
          go_roundg (n - (k + 1))
          case measure => omega
          case rel => exact ⟨k + 1, by omega, by go_num, rfl, hcx⟩
    · go_wp2
      go_ret
      exact ⟨rfl, hc⟩

end Go.Proofs.Qxb6000573a
