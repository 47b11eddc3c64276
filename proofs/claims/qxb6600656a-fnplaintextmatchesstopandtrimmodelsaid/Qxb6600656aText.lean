/-
  (*parser).plainText: its contract.
-/
import Derived.Test.Qxb6600656aEnds
import Derived.Laws.BytesArg
namespace Go.Proofs.Qxb6600656a
open Go.RowKit
set_option linter.unusedSimpArgs false
set_option linter.unusedVariables false

/-- What plainText finds: the stop is the first ender from st on; en is the place behind the last byte ahead of it that is no blank. -/
structure Found (zs : List Int) (st : Nat) (fl : Bool) (stop en : Nat) : Prop where
  le1 : st ≤ en
  le2 : en ≤ stop
  le3 : stop ≤ zs.length
  none : ∀ k, st ≤ k → k < stop → endsB zs st k fl = false
  ends : endsB zs st stop fl = true
  blank : ∀ k, en ≤ k → k < stop → blankB (zs.getD k 0) = true
  last : en = st ∨ blankB (zs.getD (en - 1) 0) = false

/-- What holds at the head of plainText's loop. -/
structure At (zs : List Int) (st : Nat) (fl : Bool) (pos en : Nat) : Prop where
  le1 : st ≤ en
  le2 : en ≤ pos
  le3 : pos ≤ zs.length
  none : ∀ k, st ≤ k → k < pos → endsB zs st k fl = false
  blank : ∀ k, en ≤ k → k < pos → blankB (zs.getD k 0) = true
  last : en = st ∨ blankB (zs.getD (en - 1) 0) = false

theorem At.found {zs : List Int} {st : Nat} {fl : Bool} {pos en : Nat} (h : At zs st fl pos en) (he : endsB zs st pos fl = true) : Found zs st fl pos en := ⟨h.le1, h.le2, h.le3, h.none, he, h.blank, h.last⟩

theorem ends_past {zs : List Int} {st k : Nat} {fl : Bool} (h : zs.length ≤ k) : endsB zs st k fl = true := by
  apply ends_line
  rw [List.getD_eq_getElem?_getD, List.getElem?_eq_none h]
  rfl

theorem At.step {zs : List Int} {st : Nat} {fl : Bool} {pos en : Nat} (h : At zs st fl pos en) (he : endsB zs st pos fl = false) :
    pos < zs.length ∧ (blankB (zs.getD pos 0) = true → At zs st fl (pos + 1) en) ∧ (blankB (zs.getD pos 0) = false → At zs st fl (pos + 1) (pos + 1)) := by
  have hlt : pos < zs.length := by
    rcases Nat.lt_or_ge pos zs.length with h' | h'
    · exact h'
    · rw [ends_past h'] at he; cases he
  have h1 := h.le1
  have h2 := h.le2
  have hnone : ∀ k, st ≤ k → k < pos + 1 → endsB zs st k fl = false := by
    intro k hk1 hk2
    by_cases e : k = pos
    · rw [e]; exact he
    · exact h.none k hk1 (by omega)
  refine ⟨hlt, fun hb => ⟨h1, by omega, by omega, hnone, ?_, h.last⟩, fun hb => ⟨by omega, Nat.le_refl _, by omega, hnone, fun k h3 h4 => by omega, .inr ?_⟩⟩
  · intro k hk1 hk2
    by_cases e : k = pos
    · rw [e]; exact hb
    · exact h.blank k hk1 (by omega)
  · rw [show pos + 1 - 1 = pos by omega]; exact hb

theorem getD_drop (zs : List Int) (a j : Nat) : (zs.drop a).getD j 0 = zs.getD (a + j) 0 := by
  simp [List.getD_eq_getElem?_getD, List.getElem?_drop]
theorem getD_takeI (zs : List Int) (m j : Nat) (h : j < m) : (zs.take m).getD j 0 = zs.getD j 0 := by
  simp [List.getD_eq_getElem?_getD, List.getElem?_take, h]

/-- The bytes from a to b. -/
def cut (zs : List Int) (a b : Nat) : List Int := (zs.drop a).take (b - a)

/-- 'string(src[a:b])' in whatever world holds the bytes. -/
theorem conv_some (b off n cap : Nat) (zs : List Int) (wx : World) (lo hi : Nat) (hn : zs.length = n) (h1 : lo < hi) (h2 : hi ≤ n) (hc : ∀ j, j < n → wx.cell? ⟨b, off + j, none⟩ = some (.int .u8 (zs.getD j 0))) (c : Nat) :
    (convert 27 9 (.slice (some ⟨b, off + lo, none⟩) (hi - lo) c)).run Try.prog wx = .ok (.string (strOfNums (cut zs lo hi))) wx := by
  refine run_convert_bytes_arg (P := Try.prog) wx 27 5 Try.underlying27 Try.underlying5 b (off + lo) (hi - lo) c (cut zs lo hi) (by simp [cut]; omega) (fun i hi' => ?_) 9 Try.underlying9
  have := hc (lo + i) (by omega)
  rw [show off + lo + i = off + (lo + i) by omega, this]
  unfold cut
  rw [getD_takeI _ _ _ hi', getD_drop]

theorem conv_none (ao : Option Addr) (c : Nat) (wx : World) (zs : List Int) (lo : Nat) : (convert 27 9 (.slice ao 0 c)).run Try.prog wx = .ok (.string (strOfNums (cut zs lo lo))) wx := by
  have e : strOfNums (cut zs lo lo) = ByteArray.empty := by simp [cut, strOfNums]; rfl
  rw [e, run_convert_bytes_string wx 27 9 5 ao 0 c Try.underlying27 Try.underlying5 Try.underlying9]
  cases ao with
  | none => simp [Conv.bytesToString]
  | some a => simp [Conv.bytesToString, loadCells, loadCellsFrom]

set_option maxRecDepth 20000 in
set_option maxHeartbeats 2000000 in
theorem text_walk (w0 : World) (Pb b off n cap : Nat) (zs : List Int) (st : Nat) (fl : Bool) (w : World) (hp : PS w0 w Pb (.slice (some ⟨b, off, none⟩) n cap) st)
    (hb : Bytes Pb w0 (.slice (some ⟨b, off, none⟩) n cap) zs) (hbP : b < Pb) (hcs : ∀ j, j < n → w0.cell? ⟨b, off + j, none⟩ = some (.int .u8 (zs.getD j 0))) (hn : zs.length = n) (hnn : n ≤ 1048576) (hnc : n ≤ cap) (hst : st ≤ n) :
    Calls Try.prog 25 #[.pointer (some ⟨Pb, 0, none⟩), .bool fl] w fun e w' => ∃ stop en, Found zs st fl stop en ∧ e = .returned (.string (strOfNums (cut zs st en))) ∧ PS w0 w' Pb (.slice (some ⟨b, off, none⟩) n cap) en := by
  have HP : Hid (PS w0 w Pb (.slice (some ⟨b, off, none⟩) n cap) st) := hp
  have HB : Hid (Bytes Pb w0 (.slice (some ⟨b, off, none⟩) n cap) zs ∧ zs.length = n ∧ (∀ j, j < n → w0.cell? ⟨b, off + j, none⟩ = some (.int .u8 (zs.getD j 0)))) := ⟨hb, hn, hcs⟩
  have c0 := hp.c0
  have c1 := hp.c1
  clear hp hb hn hcs
  go_enter Try.func25, Try.ntmps25
  go_wp2
  go_quiet (fail)
  go_wp2
  go_loopg [6] (n - st) (fun gk ee wr => ∃ pos en : Nat, ee = .int .i64 en ∧ gk = n - pos ∧ At zs st fl pos en ∧ PS w0 wr Pb (.slice (some ⟨b, off, none⟩) n cap) pos)
  case atStart => exact ⟨st, st, rfl, rfl, ⟨Nat.le_refl _, Nat.le_refl _, by rw [HB.out.2.1]; exact hst, fun k h1 h2 => by omega, fun k h1 h2 => by omega, .inl rfl⟩, HP.out.drewN _⟩
  case round =>
    obtain ⟨pos, en, rfl, rfl, hat, hps⟩ := hrel
    clear c0 c1
    have hl1 := hat.le1
    have hl2 := hat.le2
    have hl3 := hat.le3
    rw [HB.out.2.1] at hl3
    have HAt : Hid (At zs st fl pos en ∧ PS w0 wr Pb (.slice (some ⟨b, off, none⟩) n cap) pos) := ⟨hat, hps⟩
    have H0 : Hid (Calls Try.prog 30 #[.pointer (some ⟨Pb, 0, none⟩), .int .i64 0] wr fun e w' => e = .returned (.int .u8 (zs.getD pos 0)) ∧ ∃ m, w' = wr.drewN m) := at_any w0 Pb _ n cap zs pos 0 wr hps HB.out.1 HB.out.2.1 hnn hl3 (by omega)
    have H1 : Hid (∀ m, Calls Try.prog 30 #[.pointer (some ⟨Pb, 0, none⟩), .int .i64 1] (wr.drewN m) fun e w' => e = .returned (.int .u8 (zs.getD (pos + 1) 0)) ∧ ∃ m', w' = wr.drewN m') := by
      intro m
      refine (at_any w0 Pb _ n cap zs pos 1 (wr.drewN m) (hps.drewN m) HB.out.1 HB.out.2.1 hnn hl3 (by omega)).mono ?_
      rintro e w' ⟨rfl, m', rfl⟩
      exact ⟨rfl, _, World.drewN_drewN _ _ _⟩
    have c0 := hps.c0
    have c1 := hps.c1
    have f1 := hps.f1
    obtain ⟨c, hc⟩ : ∃ c, zs.getD pos 0 = c := ⟨_, rfl⟩
    obtain ⟨nx, hnx⟩ : ∃ c, zs.getD (pos + 1) 0 = c := ⟨_, rfl⟩
    rw [hc] at H0
    rw [hnx] at H1
    have HC : Hid (zs.getD pos 0 = c ∧ zs.getD (pos + 1) 0 = nx) := ⟨hc, hnx⟩
    have hcv : ∀ m, (convert 27 9 (.slice (if cap = st then some ⟨b, off, none⟩ else some ⟨b, off + st, none⟩) (en - st) (cap - st))).run Try.prog ((wr.drewN m).setCell ⟨Pb, 1, none⟩ (.int .i64 (en : Int))) = .ok (.string (strOfNums (cut zs st en))) ((wr.drewN m).setCell ⟨Pb, 1, none⟩ (.int .i64 (en : Int))) := by
      intro m
      by_cases he : st = en
      · rw [← he, Nat.sub_self]; exact conv_none _ _ _ zs st
      · rw [if_neg (by omega)]
        refine conv_some b off n cap zs _ st en HB.out.2.1 (by omega) (by omega) (fun j hj => ?_) _
        have hpp := ((hps.drewN m).put en).below
        exact (hpp.cell (p := ⟨b, off + j, none⟩) hbP).trans (HB.out.2.2 j hj)
    obtain ⟨A, hA⟩ : ∃ A, (if cap = st then some (⟨b, off, none⟩ : Addr) else some ⟨b, off + st, none⟩) = some A := by
      by_cases h : cap = st
      · exact ⟨_, by rw [if_pos h]⟩
      · exact ⟨_, by rw [if_neg h]⟩
    rw [hA] at hcv
    have HPut : Hid (∀ m, PS w0 ((wr.drewN m).setCell ⟨Pb, 1, none⟩ (.int .i64 (en : Int))) Pb (.slice (some ⟨b, off, none⟩) n cap) en) := fun m => (hps.drewN m).put en
    have HPut1 : Hid (∀ m, PS w0 ((wr.drewN m).setCell ⟨Pb, 1, none⟩ (.int .i64 ((pos : Int) + 1))) Pb (.slice (some ⟨b, off, none⟩) n cap) (pos + 1)) := fun m => (hps.drewN m).put (pos + 1)
    have HPrev : Hid (st < pos → ∀ m, (wr.drewN m).cell? ⟨b, off + (pos - 1), none⟩ = some (.int .u8 (zs.getD (pos - 1) 0))) := by
      intro hlt m
      exact ((hps.drewN m).below.cell (p := ⟨b, off + (pos - 1), none⟩) hbP).trans (HB.out.2.2 (pos - 1) (by omega))
    clear hat hps hc hnx
    obtain ⟨S, hS⟩ : ∃ S, strOfNums (cut zs st en) = S := ⟨_, rfl⟩
    rw [hS] at hcv
    have HSS : Hid (strOfNums (cut zs st en) = S) := hS
    clear hS
    by_cases h10 : (c == 10) = true
    · go_wp2_with fail
      refine H0.out.mono ?_
      rintro e w1 ⟨rfl, m1, rfl⟩
      go_wp2
      go_ret
      exact ⟨pos, en, HAt.out.1.found (ends_line (by rw [HC.out.1]; unfold lineB; rw [h10]; rfl)), by rw [HSS.out]; rfl, HPut.out _⟩
    have h10' : (c == 10) = false := by simpa using h10
    clear h10
    by_cases h0 : (c == 0) = true
    · go_wp2_with fail
      refine H0.out.mono ?_
      rintro e w1 ⟨rfl, m1, rfl⟩
      go_wp2
      go_ret
      exact ⟨pos, en, HAt.out.1.found (ends_line (by rw [HC.out.1]; unfold lineB; rw [h0]; simp)), by rw [HSS.out]; rfl, HPut.out _⟩
    have h0' : (c == 0) = false := by simpa using h0
    clear h0
    have HL : Hid (lineB (zs.getD pos 0) = false) := by
      show lineB (zs.getD pos 0) = false
      rw [HC.out.1]; unfold lineB; rw [h10', h0']; rfl
    obtain ⟨sp, hsp⟩ : ∃ sp, spaceB nx = sp := ⟨_, rfl⟩
    obtain ⟨fw, hfw⟩ : ∃ fw, flowB nx = fw := ⟨_, rfl⟩
    obtain ⟨fc, hfc⟩ : ∃ fc, flowB c = fc := ⟨_, rfl⟩
    obtain ⟨bc, hbc⟩ : ∃ bc, blankB c = bc := ⟨_, rfl⟩
    have HX : Hid (spaceB nx = sp ∧ flowB nx = fw ∧ flowB c = fc ∧ blankB c = bc) := ⟨hsp, hfw, hfc, hbc⟩
    have HSp : Hid (∀ wx, Calls Try.prog 31 #[.int .u8 nx] wx fun e w' => e = .returned (.bool sp) ∧ w' = wx) := by rw [← hsp]; exact space_any nx
    have HFn : Hid (∀ wx, Calls Try.prog 32 #[.int .u8 nx] wx fun e w' => e = .returned (.bool fw) ∧ w' = wx) := by rw [← hfw]; exact flow_any nx
    have HFc : Hid (∀ wx, Calls Try.prog 32 #[.int .u8 c] wx fun e w' => e = .returned (.bool fc) ∧ w' = wx) := by rw [← hfc]; exact flow_any c
    have HBc : Hid (∀ wx, Calls Try.prog 33 #[.int .u8 c] wx fun e w' => e = .returned (.bool bc) ∧ w' = wx) := by rw [← hbc]; exact blank_any c
    clear hsp hfw hfc hbc
    by_cases h58 : (c == 58) = true
    · have hE : Hid (endsB zs st pos fl = (sp || (fl && fw))) := by
        have := ends_colon (zs := zs) (st := st) (k := pos) (fl := fl) (by rw [HC.out.1]; simpa using h58)
        rw [HC.out.2, HX.out.1, HX.out.2.1] at this
        exact this
      have h35' : (c == 35) = false := by
        have : c = 58 := by simpa using h58
        rw [this]; rfl
      have hfcf : fc = false := by
        have : c = 58 := by simpa using h58
        rw [← HX.out.2.2.1, this]; rfl
      have hbcf : bc = false := by
        have : c = 58 := by simpa using h58
        rw [← HX.out.2.2.2, this]; rfl
      have HBB : Hid (blankB (zs.getD pos 0) = false) := by
        show blankB (zs.getD pos 0) = false
        rw [HC.out.1, HX.out.2.2.2]; exact hbcf
      rw [hfcf] at HFc
      rw [hbcf] at HBc
      clear hfcf hbcf
      cases sp with
      | true =>
        go_wp2_with fail
        refine H0.out.mono ?_
        rintro e w1 ⟨rfl, m1, rfl⟩
        go_wp2_with fail
        refine (H1.out _).mono ?_
        rintro e w1 ⟨rfl, m2, rfl⟩
        go_wp2_with fail
        refine (HSp.out _).mono ?_
        rintro e w1 ⟨rfl, hw⟩
        obtain rfl := hw.symm
        go_wp2
        go_ret
        exact ⟨pos, en, HAt.out.1.found (by rw [hE.out]; rfl), by rw [HSS.out]; rfl, HPut.out _⟩
      | false =>
        cases fl with
        | true =>
          cases fw with
          | true =>
            go_wp2_with fail
            refine H0.out.mono ?_
            rintro e w1 ⟨rfl, m1, rfl⟩
            go_wp2_with fail
            refine (H1.out _).mono ?_
            rintro e w1 ⟨rfl, m2, rfl⟩
            go_wp2_with fail
            refine (HSp.out _).mono ?_
            rintro e w1 ⟨rfl, hw⟩
            obtain rfl := hw.symm
            go_wp2_with fail
            refine (H1.out _).mono ?_
            rintro e w1 ⟨rfl, m3, rfl⟩
            go_wp2_with fail
            refine (HFn.out _).mono ?_
            rintro e w1 ⟨rfl, hw⟩
            obtain rfl := hw.symm
            go_wp2
            go_ret
            exact ⟨pos, en, HAt.out.1.found (by rw [hE.out]; rfl), by rw [HSS.out]; rfl, HPut.out _⟩
          | false =>
            go_wp2_with fail
            refine H0.out.mono ?_
            rintro e w1 ⟨rfl, m1, rfl⟩
            go_wp2_with fail
            refine (H1.out _).mono ?_
            rintro e w1 ⟨rfl, m2, rfl⟩
            go_wp2_with fail
            refine (HSp.out _).mono ?_
            rintro e w1 ⟨rfl, hw⟩
            obtain rfl := hw.symm
            go_wp2_with fail
            refine (H1.out _).mono ?_
            rintro e w1 ⟨rfl, m3, rfl⟩
            go_wp2_with fail
            refine (HFn.out _).mono ?_
            rintro e w1 ⟨rfl, hw⟩
            obtain rfl := hw.symm
            go_wp2_with fail
            go_quiet (fail)
            go_wp2_with fail
            refine (HFc.out _).mono ?_
            rintro e w1 ⟨rfl, hw⟩
            obtain rfl := hw.symm
            go_wp2_with fail
            refine (HBc.out _).mono ?_
            rintro e w1 ⟨rfl, hw⟩
            obtain rfl := hw.symm
            go_wp2
            obtain ⟨g1, _, g3⟩ := HAt.out.1.step (by rw [hE.out]; rfl)
            rw [HB.out.2.1] at g1
            go_roundg (n - (pos + 1))
            case measure => omega
            case rel => exact ⟨pos + 1, pos + 1, by go_num, rfl, g3 (HBB.out), HPut1.out _⟩
        | false =>
          go_wp2_with fail
          refine H0.out.mono ?_
          rintro e w1 ⟨rfl, m1, rfl⟩
          go_wp2_with fail
          refine (H1.out _).mono ?_
          rintro e w1 ⟨rfl, m2, rfl⟩
          go_wp2_with fail
          refine (HSp.out _).mono ?_
          rintro e w1 ⟨rfl, hw⟩
          obtain rfl := hw.symm
          go_wp2_with fail
          go_quiet (fail)
          go_wp2_with fail
          refine (HBc.out _).mono ?_
          rintro e w1 ⟨rfl, hw⟩
          obtain rfl := hw.symm
          go_wp2
          obtain ⟨g1, _, g3⟩ := HAt.out.1.step (by rw [hE.out]; rfl)
          rw [HB.out.2.1] at g1
          go_roundg (n - (pos + 1))
          case measure => omega
          case rel => exact ⟨pos + 1, pos + 1, by go_num, rfl, g3 (HBB.out), HPut1.out _⟩
    have h58' : (c == 58) = false := by simpa using h58
    clear h58
    by_cases h35 : (c == 35) = true
    · have hfcf : fc = false := by
        have : c = 35 := by simpa using h35
        rw [← HX.out.2.2.1, this]; rfl
      have hbcf : bc = false := by
        have : c = 35 := by simpa using h35
        rw [← HX.out.2.2.2, this]; rfl
      have HBB : Hid (blankB (zs.getD pos 0) = false) := by
        show blankB (zs.getD pos 0) = false
        rw [HC.out.1, HX.out.2.2.2]; exact hbcf
      have hE := ends_hash (zs := zs) (st := st) (k := pos) (fl := fl) (by rw [HC.out.1]; simpa using h35)
      rw [hfcf] at HFc
      rw [hbcf] at HBc
      clear hfcf hbcf
      unfold hashB at hE
      by_cases hlt : st < pos
      · have hprev := HPrev.out hlt 0
        have hprev : wr.cell? ⟨b, off + (pos - 1), none⟩ = some (.int .u8 (zs.getD (pos - 1) 0)) := hprev
        have hq1 : IntKind.i64.wrap ((pos : Int) - 1) = ((pos - 1 : Nat) : Int) := by rw [IntKind.wrap_i64]; omega
        have hq2 : ((pos - 1 : Nat) : Int) < (n : Int) := by omega
        have hq3 : pos - 1 < n := by omega
        rw [show decide (st < pos) = true by simp [hlt]] at hE
        obtain ⟨pv, hpv⟩ : ∃ pv, zs.getD (pos - 1) 0 = pv := ⟨_, rfl⟩
        rw [hpv] at hE hprev
        clear hpv
        have HBp : Hid (∀ wx, Calls Try.prog 33 #[.int .u8 pv] wx fun e w' => e = .returned (.bool (blankB pv)) ∧ w' = wx) := blank_any pv
        obtain ⟨bp, hbp⟩ : ∃ bp, blankB pv = bp := ⟨_, rfl⟩
        rw [hbp] at HBp hE
        clear hbp
        have HE : Hid (endsB zs st pos fl = bp) := by
          show endsB zs st pos fl = bp
          rw [hE]; simp
        clear hE
        have t2 : (st : Int) < (pos : Int) := by omega
        cases bp with
        | true =>
          go_wp2_with fail
          refine H0.out.mono ?_
          rintro e w1 ⟨rfl, m1, rfl⟩
          go_wp2_with fail
          go_quiet ((go_at_call 33; exact (HBp.out _).mono (fun _ _ h => ⟨h.1, _, h.2⟩)))
          go_wp2
          go_ret
          exact ⟨pos, en, HAt.out.1.found (HE.out), by rw [HSS.out]; rfl, HPut.out _⟩
        | false =>
          cases fl with
          | true =>
            go_wp2_with fail
            refine H0.out.mono ?_
            rintro e w1 ⟨rfl, m1, rfl⟩
            go_wp2_with fail
            go_quiet ((go_at_call 33; exact (HBp.out _).mono (fun _ _ h => ⟨h.1, _, h.2⟩)))
            go_wp2_with fail
            refine (HFc.out _).mono ?_
            rintro e w1 ⟨rfl, hw⟩
            obtain rfl := hw.symm
            go_wp2_with fail
            refine (HBc.out _).mono ?_
            rintro e w1 ⟨rfl, hw⟩
            obtain rfl := hw.symm
            go_wp2
            obtain ⟨g1, _, g3⟩ := HAt.out.1.step (HE.out)
            rw [HB.out.2.1] at g1
            go_roundg (n - (pos + 1))
            case measure => omega
            case rel => exact ⟨pos + 1, pos + 1, by go_num, rfl, g3 (HBB.out), HPut1.out _⟩
          | false =>
            go_wp2_with fail
            refine H0.out.mono ?_
            rintro e w1 ⟨rfl, m1, rfl⟩
            go_wp2_with fail
            go_quiet ((go_at_call 33; exact (HBp.out _).mono (fun _ _ h => ⟨h.1, _, h.2⟩)))
            go_wp2_with fail
            refine (HBc.out _).mono ?_
            rintro e w1 ⟨rfl, hw⟩
            obtain rfl := hw.symm
            go_wp2
            obtain ⟨g1, _, g3⟩ := HAt.out.1.step (HE.out)
            rw [HB.out.2.1] at g1
            go_roundg (n - (pos + 1))
            case measure => omega
            case rel => exact ⟨pos + 1, pos + 1, by go_num, rfl, g3 (HBB.out), HPut1.out _⟩
      · rw [show decide (st < pos) = false by simp; omega] at hE
        have HE : Hid (endsB zs st pos fl = false) := by
          show endsB zs st pos fl = false
          rw [hE]; rfl
        clear hE
        have t2 : decide (st < pos) = false := by simp; omega
        cases fl with
        | true =>
          go_wp2_with fail
          refine H0.out.mono ?_
          rintro e w1 ⟨rfl, m1, rfl⟩
          go_wp2_with fail
          go_quiet (fail)
          go_wp2_with fail
          refine (HFc.out _).mono ?_
          rintro e w1 ⟨rfl, hw⟩
          obtain rfl := hw.symm
          go_wp2_with fail
          refine (HBc.out _).mono ?_
          rintro e w1 ⟨rfl, hw⟩
          obtain rfl := hw.symm
          go_wp2
          obtain ⟨g1, _, g3⟩ := HAt.out.1.step (HE.out)
          rw [HB.out.2.1] at g1
          go_roundg (n - (pos + 1))
          case measure => omega
          case rel => exact ⟨pos + 1, pos + 1, by go_num, rfl, g3 (HBB.out), HPut1.out _⟩
        | false =>
          go_wp2_with fail
          refine H0.out.mono ?_
          rintro e w1 ⟨rfl, m1, rfl⟩
          go_wp2_with fail
          go_quiet (fail)
          go_wp2_with fail
          refine (HBc.out _).mono ?_
          rintro e w1 ⟨rfl, hw⟩
          obtain rfl := hw.symm
          go_wp2
          obtain ⟨g1, _, g3⟩ := HAt.out.1.step (HE.out)
          rw [HB.out.2.1] at g1
          go_roundg (n - (pos + 1))
          case measure => omega
          case rel => exact ⟨pos + 1, pos + 1, by go_num, rfl, g3 (HBB.out), HPut1.out _⟩
    have h35' : (c == 35) = false := by simpa using h35
    clear h35
    have HE : Hid (endsB zs st pos fl = (fl && fc)) := by
      have := ends_else (zs := zs) (st := st) (k := pos) (fl := fl) HL.out (by rw [HC.out.1]; simpa using h58') (by rw [HC.out.1]; simpa using h35')
      rw [HC.out.1, HX.out.2.2.1] at this
      exact this
    have HBB : Hid (blankB (zs.getD pos 0) = bc) := by
      show blankB (zs.getD pos 0) = bc
      rw [HC.out.1]; exact HX.out.2.2.2
    cases fl with
    | true =>
      cases fc with
      | true =>
        go_wp2_with fail
        refine H0.out.mono ?_
        rintro e w1 ⟨rfl, m1, rfl⟩
        go_wp2_with fail
        go_quiet (fail)
        go_wp2_with fail
        refine (HFc.out _).mono ?_
        rintro e w1 ⟨rfl, hw⟩
        obtain rfl := hw.symm
        go_wp2
        go_ret
        exact ⟨pos, en, HAt.out.1.found (by rw [HE.out]; rfl), by rw [HSS.out]; rfl, HPut.out _⟩
      | false =>
        cases bc with
        | true =>
          go_wp2_with fail
          refine H0.out.mono ?_
          rintro e w1 ⟨rfl, m1, rfl⟩
          go_wp2_with fail
          go_quiet (fail)
          go_wp2_with fail
          refine (HFc.out _).mono ?_
          rintro e w1 ⟨rfl, hw⟩
          obtain rfl := hw.symm
          go_wp2_with fail
          refine (HBc.out _).mono ?_
          rintro e w1 ⟨rfl, hw⟩
          obtain rfl := hw.symm
          go_wp2
          obtain ⟨g1, g2, _⟩ := HAt.out.1.step (by rw [HE.out]; rfl)
          rw [HB.out.2.1] at g1
          go_roundg (n - (pos + 1))
          case measure => omega
          case rel => exact ⟨pos + 1, en, rfl, rfl, g2 (HBB.out), HPut1.out _⟩
        | false =>
          go_wp2_with fail
          refine H0.out.mono ?_
          rintro e w1 ⟨rfl, m1, rfl⟩
          go_wp2_with fail
          go_quiet (fail)
          go_wp2_with fail
          refine (HFc.out _).mono ?_
          rintro e w1 ⟨rfl, hw⟩
          obtain rfl := hw.symm
          go_wp2_with fail
          refine (HBc.out _).mono ?_
          rintro e w1 ⟨rfl, hw⟩
          obtain rfl := hw.symm
          go_wp2
          obtain ⟨g1, _, g3⟩ := HAt.out.1.step (by rw [HE.out]; rfl)
          rw [HB.out.2.1] at g1
          go_roundg (n - (pos + 1))
          case measure => omega
          case rel => exact ⟨pos + 1, pos + 1, by go_num, rfl, g3 (HBB.out), HPut1.out _⟩
    | false =>
      cases bc with
      | true =>
        go_wp2_with fail
        refine H0.out.mono ?_
        rintro e w1 ⟨rfl, m1, rfl⟩
        go_wp2_with fail
        go_quiet (fail)
        go_wp2_with fail
        refine (HBc.out _).mono ?_
        rintro e w1 ⟨rfl, hw⟩
        obtain rfl := hw.symm
        go_wp2
        obtain ⟨g1, g2, _⟩ := HAt.out.1.step (by rw [HE.out]; rfl)
        rw [HB.out.2.1] at g1
        go_roundg (n - (pos + 1))
        case measure => omega
        case rel => exact ⟨pos + 1, en, rfl, rfl, g2 (HBB.out), HPut1.out _⟩
      | false =>
        go_wp2_with fail
        refine H0.out.mono ?_
        rintro e w1 ⟨rfl, m1, rfl⟩
        go_wp2_with fail
        go_quiet (fail)
        go_wp2_with fail
        refine (HBc.out _).mono ?_
        rintro e w1 ⟨rfl, hw⟩
        obtain rfl := hw.symm
        go_wp2
        obtain ⟨g1, _, g3⟩ := HAt.out.1.step (by rw [HE.out]; rfl)
        rw [HB.out.2.1] at g1
        go_roundg (n - (pos + 1))
        case measure => omega
        case rel => exact ⟨pos + 1, pos + 1, by go_num, rfl, g3 (HBB.out), HPut1.out _⟩

end Go.Proofs.Qxb6600656a
