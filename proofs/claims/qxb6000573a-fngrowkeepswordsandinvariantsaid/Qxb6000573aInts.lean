/-
  THE SCRIPT: a slice of ints, read; its copy; the bound on its keys; the largest key added.
-/
import Derived.Test.Qxb6000573aAdd
namespace Go.Proofs.Qxb6000573a
open Go.RowKit
set_option linter.unusedSimpArgs false
set_option linter.unusedVariables false

/-- The slice value v holds the numbers zs. -/
def Ints (w : World) (v : Value) (zs : List Int) : Prop :=
  ∃ ao cap, v = .slice ao zs.length cap ∧ (zs = [] ∨ ∃ b off, ao = some ⟨b, off, none⟩ ∧ b < w.heap.size ∧ ∀ j, j < zs.length → w.cell? ⟨b, off + j, none⟩ = some (.int .i64 (zs.getD j 0)))

theorem Ints.same {w w' : World} {v : Value} {zs : List Int} (h : Ints w v zs) (hs : w.heap.size ≤ w'.heap.size) (hb : ∀ b, b < w.heap.size → w'.heap[b]? = w.heap[b]?) : Ints w' v zs := by
  obtain ⟨ao, cap, rfl, h⟩ := h
  refine ⟨ao, cap, rfl, ?_⟩
  rcases h with h | ⟨b, off, h1, h2, h3⟩
  · exact .inl h
  · exact .inr ⟨b, off, h1, by omega, fun j hj => (World.cell?_of_block (a := ⟨b, off + j, none⟩) (hb b h2)).trans (h3 j hj)⟩
theorem Ints.below {w w' : World} {v : Value} {zs : List Int} (h : Ints w v zs) (hb : Below w.heap.size w w') : Ints w' v zs := h.same hb.size hb.block

def InRange (zs : List Int) : Prop := ∀ z ∈ zs, -9223372036854775808 ≤ z ∧ z ≤ 9223372036854775807

theorem InRange.at {zs : List Int} (h : InRange zs) (j : Nat) : -9223372036854775808 ≤ zs.getD j 0 ∧ zs.getD j 0 ≤ 9223372036854775807 := by
  rw [List.getD_eq_getElem?_getD]
  rcases Nat.lt_or_ge j zs.length with hj | hj
  · rw [List.getElem?_eq_getElem hj]; exact h _ (List.getElem_mem hj)
  · rw [List.getElem?_eq_none hj]; simp

/-- No key added is above 65536. -/
def keysOK (zs : List Int) : Bool := zs.all fun z => decide (z ≤ 65536)
theorem keysOK_take (zs : List Int) (k : Nat) (hk : k < zs.length) : keysOK (zs.take (k + 1)) = (keysOK (zs.take k) && decide (zs.getD k 0 ≤ 65536)) := by
  unfold keysOK
  rw [List.take_succ_eq_append_getElem hk, List.all_append]
  simp [List.getD_eq_getElem?_getD, hk]
theorem keysOK_mono (zs : List Int) (k : Nat) (h : keysOK (zs.take k) = false) : keysOK zs = false := by
  unfold keysOK at *
  rw [List.all_eq_false] at *
  obtain ⟨x, hx, hp⟩ := h
  exact ⟨x, List.mem_of_mem_take hx, hp⟩

set_option maxHeartbeats 400000 in
theorem keys_any (v : Value) (zs : List Int) (w : World) (hv : Ints w v zs) (hl : zs.length ≤ 1048576) :
    Calls Try.prog 11 #[v] w fun e w' => e = .returned (.bool (keysOK zs)) ∧ w' = w := by
  obtain ⟨ao, cap, rfl, hv⟩ := hv
  rcases hv with rfl | ⟨b, off, rfl, hb, hc⟩
  · go_enter Try.func11, Try.ntmps11
    go_wp2
    go_loop [3] (fun i => i = .int .i64 0) (fun i => 0)
    case atStart => rfl
    case round =>
      subst hrel
      go_wp2
      go_ret
      exact ⟨rfl, rfl⟩
  · have HC : Hid (∀ j, j < zs.length → w.cell? ⟨b, off + j, none⟩ = some (.int .i64 (zs.getD j 0))) := hc
    clear hc
    obtain ⟨n, hn⟩ : ∃ n, n = zs.length := ⟨_, rfl⟩
    rw [← hn] at HC hl ⊢
    have HN : Hid (n = zs.length) := hn
    clear hn
    go_enter Try.func11, Try.ntmps11
    go_wp2
    go_loop [3] (fun i => ∃ k : Nat, k ≤ n ∧ i = .int .i64 k ∧ keysOK (zs.take k) = true) (fun i => n - (intOf i).toNat)
    case atStart => exact ⟨0, Nat.zero_le _, rfl, rfl⟩
    case round =>
      obtain ⟨k, hk, rfl, hok⟩ := hrel
      have HO : Hid (keysOK (zs.take k) = true) := hok
      clear hok
      by_cases hlt : k < n
      · have hcell := HC.out k hlt
        have hz := keysOK_take zs k (by rw [← HN.out]; exact hlt)
        rw [HO.out] at hz
        have HZ : Hid (keysOK (zs.take (k + 1)) = (true && decide (zs.getD k 0 ≤ 65536))) := hz
        clear hz
        generalize zs.getD k 0 = z at *
        by_cases hzz : z ≤ 65536
        · go_wp2
          go_round
          case rel => exact ⟨k + 1, by omega, by go_num, by rw [HZ.out]; simp [hzz]⟩
          case measure => simp [intOf]; omega
        · have hzz' : 65536 < z := by omega
          go_wp2
          go_ret
          refine ⟨?_, rfl⟩
          have h1 : keysOK (zs.take (k + 1)) = false := by rw [HZ.out]; simp [hzz]
          rw [keysOK_mono zs (k + 1) h1]; rfl
      · go_wp2
        go_ret
        refine ⟨?_, rfl⟩
        have hkn : k = n := by omega
        have h1 := HO.out
        rw [hkn, HN.out, List.take_length] at h1
        rw [h1]; rfl

/-- '^v' of a negative v. -/
theorem not_neg (v : Int) (h0 : v < 0) (h1 : -9223372036854775808 ≤ v) : bits .xor .i64 (-1) v = -1 - v := by
  show IntKind.i64.wrap ((BitVec.ofInt 64 (-1) ^^^ BitVec.ofInt 64 v).toNat : Int) = _
  have e1 : BitVec.ofInt 64 (-1) = BitVec.allOnes 64 := by decide
  have e2 : (BitVec.ofInt 64 v).toNat = (v + 18446744073709551616).toNat := by
    rw [BitVec.toNat_ofInt]
    have : v % ((2 ^ 64 : Nat) : Int) = v + 18446744073709551616 := by
      have e3 : ((2 ^ 64 : Nat) : Int) = 18446744073709551616 := by decide
      rw [e3]; omega
    rw [this]
  rw [e1, BitVec.allOnes_xor, BitVec.toNat_not, e2, IntKind.wrap_i64]
  omega

/-! ### The copy -/
theorem Try.info3 : (Try.prog.info? 3).map (fun i => (i.zero, i.size, i.bytes)) = some (some (.int .i64 0), 1, 8) := by kernel_rfl

/-- A row of the call's own that holds the numbers xs. -/
def IRow (w : World) (g n : Nat) (xs : List Int) : Prop := w.ownsRow 0 3 1 (.slice (some ⟨g, 0, none⟩) n n) n (xs.map (Value.int .i64))

theorem IRow.ints {w : World} {g n : Nat} {xs : List Int} (h : IRow w g n xs) : Ints w (.slice (some ⟨g, 0, none⟩) n n) xs := by
  have hl : xs.length = n := by have := h.1; simpa using this
  refine ⟨_, n, by rw [hl], .inr ⟨g, 0, rfl, ?_, fun j hj => ?_⟩⟩
  · obtain ⟨cur, hc⟩ := ownsRow_block h rfl
    exact lt_of_block hc
  · rw [Nat.zero_add, World.ownsRow.cellAt h j (by omega)]
    simp [hj]

theorem fill_step (zs : List Int) (n k : Nat) (hn : n = zs.length) (hk : k < n) : (zs.take k ++ List.replicate (n - k) 0).set k (zs.getD k 0) = zs.take (k + 1) ++ List.replicate (n - (k + 1)) 0 := by
  have hkz : k < zs.length := by omega
  have e1 : List.replicate (n - k) (0 : Int) = 0 :: List.replicate (n - (k + 1)) 0 := by
    rw [show n - k = (n - (k + 1)) + 1 by omega, List.replicate_succ]
  have hl : (zs.take k).length = k := by simp; omega
  rw [e1, List.take_succ_eq_append_getElem hkz, List.append_assoc, List.set_append_right _ _ (by omega), hl, Nat.sub_self]
  simp [List.getD_eq_getElem?_getD, hkz]

set_option maxHeartbeats 400000 in
theorem clone_any (v : Value) (zs : List Int) (w : World) (hv : Ints w v zs) (hl : zs.length ≤ 1048576) :
    Calls Try.prog 12 #[v] w fun e w' => ∃ v', e = .returned v' ∧ Ints w' v' zs ∧ Below w.heap.size w w' := by
  obtain ⟨ao, cap, rfl, hv⟩ := hv
  have hnil := fun wx a n c => Lib.run_eql_slice_nil (P := Try.prog) wx 22 3 a n c 0 0 Try.underlying22
  cases ao with
  | none =>
    have hz : zs = [] := by rcases hv with h | ⟨b, off, h, _⟩; exact h; simp at h
    subst hz
    go_enter Try.func12, Try.ntmps12
    go_wp2
    go_ret
    exact ⟨_, rfl, ⟨none, 0, rfl, .inl rfl⟩, Below.refl _ _⟩
  | some a =>
    obtain ⟨n, hn⟩ : ∃ n, n = zs.length := ⟨_, rfl⟩
    have HN : Hid (n = zs.length) := hn
    have hmk := run_make_row' (P := Try.prog) 22 3 (.int .i64 0) 8 Try.underlying22 Try.info3 rfl .i64 .i64 n (by omega) (by omega)
    have h0 : IRow (w.alloc (.cells (madeCells #[.int .i64 0] n) 3)) w.heap.size n (zs.take 0 ++ List.replicate (n - 0) 0) := by
      have h1 := World.ownsRow_lit (base := 0) (e := 3) (size := 1) w (madeCells #[.int .i64 0] n) n (Nat.zero_le _) (by unfold maxLen; omega) (by simp [madeCells])
      rw [toList_madeCells_one] at h1
      unfold IRow
      simpa using h1
    have H0 : Hid (IRow (w.alloc (.cells (madeCells #[.int .i64 0] n) 3)) w.heap.size n (zs.take 0 ++ List.replicate (n - 0) 0)) := h0
    rw [← hn] at hl
    have hl' : n ≤ 1048576 := hl
    rw [← hn]
    clear h0 hl
    rcases hv with hz | ⟨b, off, ha, hb, hc⟩
    · have hn0 : n ≤ 0 := by rw [hn, hz]; exact Nat.le_refl _
      have HZ : Hid (zs = []) := hz
      clear hn hz
      go_enter Try.func12, Try.ntmps12
      go_wp2
      go_loopw [4] (fun i wr => ∃ k : Nat, k ≤ n ∧ i = .int .i64 k ∧ IRow wr w.heap.size n (zs.take k ++ List.replicate (n - k) 0) ∧ Below w.heap.size w wr) (fun i wr => n - (intOf i).toNat)
      case atStart => exact ⟨0, Nat.zero_le _, rfl, H0.out, (Below.refl _ _).alloc (Nat.le_refl _) _⟩
      case round =>
        obtain ⟨k, hk, rfl, hI, hB⟩ := hrel
        have HI : Hid (IRow wr w.heap.size n (zs.take k ++ List.replicate (n - k) 0)) := hI
        clear hI
        have hkn : n ≤ k := by omega
        go_wp2
        go_ret
        refine ⟨_, rfl, ?_, hB⟩
        have h1 := HI.out
        rw [HZ.out] at h1 ⊢
        have e0 : n = 0 := by omega
        subst e0
        rw [show List.take k ([] : List Int) ++ List.replicate (0 - k) 0 = [] by simp] at h1
        exact h1.ints
    · obtain rfl : a = ⟨b, off, none⟩ := by simpa using ha
      have HC : Hid (∀ j, j < zs.length → w.cell? ⟨b, off + j, none⟩ = some (.int .i64 (zs.getD j 0))) := hc
      clear hn hc ha
      go_enter Try.func12, Try.ntmps12
      go_wp2
      go_loopw [4] (fun i wr => ∃ k : Nat, k ≤ n ∧ i = .int .i64 k ∧ IRow wr w.heap.size n (zs.take k ++ List.replicate (n - k) 0) ∧ Below w.heap.size w wr) (fun i wr => n - (intOf i).toNat)
      case atStart => exact ⟨0, Nat.zero_le _, rfl, H0.out, (Below.refl _ _).alloc (Nat.le_refl _) _⟩
      case round =>
        obtain ⟨k, hk, rfl, hI, hB⟩ := hrel
        have HI : Hid (IRow wr w.heap.size n (zs.take k ++ List.replicate (n - k) 0)) := hI
        by_cases hlt : k < n
        · have hcell := (hB.cell (p := ⟨b, off + k, none⟩) hb).trans (HC.out k (by rw [← HN.out]; exact hlt))
          have hcl := World.ownsRow.cellAt hI k (by omega)
          obtain ⟨old, hold⟩ : ∃ old, wr.cell? ⟨w.heap.size, k, none⟩ = some old := by
            rw [hcl]
            have hlen : k < ((zs.take k ++ List.replicate (n - k) 0).map (Value.int .i64)).length := by rw [hI.1]; omega
            exact ⟨_, List.getElem?_eq_getElem hlen⟩
          have hfz := World.ownsRow.frozenAt hI k
          have hst := (World.ownsRow.stored hI k (.int .i64 (zs.getD k 0))).1
          rw [← List.map_set, fill_step zs n k HN.out hlt] at hst
          have HS : Hid (IRow (wr.setCell ⟨w.heap.size, k, none⟩ (.int .i64 (zs.getD k 0))) w.heap.size n (zs.take (k + 1) ++ List.replicate (n - (k + 1)) 0)) := hst
          clear hst hcl hI
          generalize zs.getD k 0 = z at *
          go_wp2
          go_roundw
          case rel => exact ⟨k + 1, by omega, by go_num, HS.out, hB.setCell (p := ⟨w.heap.size, k, none⟩) (Nat.le_refl _) _⟩
          case measure => simp [intOf]; omega
        · clear hI
          go_wp2
          go_ret
          refine ⟨_, rfl, ?_, hB⟩
          have h1 := HI.out
          have hkn : k = n := by omega
          rw [hkn, Nat.sub_self, HN.out, List.take_length] at h1
          simp only [List.replicate_zero, List.append_nil] at h1
          rw [HN.out]
          exact h1.ints

/-! ### The largest key added -/
def largest (zs : List Int) : Int := zs.foldl (fun m z => if m < z then z else m) (-1)
theorem largest_take (zs : List Int) (k : Nat) (hk : k < zs.length) : largest (zs.take (k + 1)) = if largest (zs.take k) < zs.getD k 0 then zs.getD k 0 else largest (zs.take k) := by
  unfold largest
  rw [List.take_succ_eq_append_getElem hk, List.foldl_append]
  simp [List.getD_eq_getElem?_getD, hk]

set_option maxHeartbeats 400000 in
theorem largest_any (v : Value) (zs : List Int) (w : World) (hv : Ints w v zs) (hl : zs.length ≤ 1048576) :
    Calls Try.prog 18 #[v] w fun e w' => e = .returned (.int .i64 (largest zs)) ∧ w' = w := by
  obtain ⟨ao, cap, rfl, hv⟩ := hv
  obtain ⟨n, hn⟩ : ∃ n, n = zs.length := ⟨_, rfl⟩
  have HN : Hid (n = zs.length) := hn
  rw [← hn] at hl ⊢
  rcases hv with hz | ⟨b, off, rfl, hb, hc⟩
  · have hn0 : n ≤ 0 := by rw [hn, hz]; exact Nat.le_refl _
    have HZ : Hid (zs = []) := hz
    clear hn hz
    go_enter Try.func18, Try.ntmps18
    go_wp2
    go_loop [3, 4] (fun m i => ∃ k : Nat, k ≤ n ∧ i = .int .i64 k ∧ m = .int .i64 (-1)) (fun m i => n - (intOf i).toNat)
    case atStart => exact ⟨0, Nat.zero_le _, rfl, rfl⟩
    case round =>
      obtain ⟨k, hk, rfl, rfl⟩ := hrel
      have hkn : n ≤ k := by omega
      go_wp2
      go_ret
      rw [HZ.out]
      exact ⟨rfl, rfl⟩
  · have HC : Hid (∀ j, j < zs.length → w.cell? ⟨b, off + j, none⟩ = some (.int .i64 (zs.getD j 0))) := hc
    clear hn hc
    go_enter Try.func18, Try.ntmps18
    go_wp2
    go_loop [3, 4] (fun m i => ∃ k : Nat, k ≤ n ∧ i = .int .i64 k ∧ m = .int .i64 (largest (zs.take k))) (fun m i => n - (intOf i).toNat)
    case atStart => exact ⟨0, Nat.zero_le _, rfl, rfl⟩
    case round =>
      obtain ⟨k, hk, rfl, rfl⟩ := hrel
      by_cases hlt : k < n
      · have hcell := HC.out k (by rw [← HN.out]; exact hlt)
        have HM : Hid (largest (zs.take (k + 1)) = if largest (zs.take k) < zs.getD k 0 then zs.getD k 0 else largest (zs.take k)) := largest_take zs k (by rw [← HN.out]; exact hlt)
        generalize zs.getD k 0 = z at *
        generalize largest (zs.take k) = m at *
        by_cases hmz : m < z
        · go_wp2
          go_round
          case rel => exact ⟨k + 1, by omega, by go_num, by rw [HM.out, if_pos hmz]⟩
          case measure => simp [intOf]; omega
        · go_wp2
          go_round
          case rel => exact ⟨k + 1, by omega, by go_num, by rw [HM.out, if_neg hmz]⟩
          case measure => simp [intOf]; omega
      · go_wp2
        go_ret
        have hkn : k = n := by omega
        rw [hkn, HN.out, List.take_length]
        exact ⟨rfl, rfl⟩

/-! ### The script, run -/
def opW (ws : List Nat) (v : Int) : List Nat := if 0 ≤ v then Pl.addW ws v.toNat else Pl.remW ws (-1 - v).toNat
def runW (zs : List Int) : List Nat := zs.foldl opW []
theorem runW_take (zs : List Int) (k : Nat) (hk : k < zs.length) : runW (zs.take (k + 1)) = opW (runW (zs.take k)) (zs.getD k 0) := by
  unfold runW
  rw [List.take_succ_eq_append_getElem hk, List.foldl_append]
  simp [List.getD_eq_getElem?_getD, hk]

theorem opW_ok (ws : List Nat) (v : Int) (hf : Pl.Fit ws) (hl : ws.length ≤ 1025) (hv : v ≤ 65536) : Pl.Fit (opW ws v) ∧ (opW ws v).length ≤ 1025 := by
  unfold opW
  split
  · unfold Pl.addW
    refine ⟨Pl.fit_orAt (Pl.fit_pad hf _) _, ?_⟩
    rw [Pl.length_orAt, Pl.length_pad]
    omega
  · unfold Pl.remW
    split
    · exact ⟨Pl.fit_clrAt hf _, by rw [Pl.length_clrAt]; exact hl⟩
    · exact ⟨hf, hl⟩

theorem fold_ok (zs : List Int) : ∀ ws, Pl.Fit ws → ws.length ≤ 1025 → keysOK zs = true → Pl.Fit (zs.foldl opW ws) ∧ (zs.foldl opW ws).length ≤ 1025 := by
  induction zs with
  | nil => intro ws h1 h2 _; exact ⟨h1, h2⟩
  | cons z zs ih =>
    intro ws h1 h2 h3
    simp only [keysOK, List.all_cons, Bool.and_eq_true, decide_eq_true_eq] at h3
    obtain ⟨q1, q2⟩ := opW_ok ws z h1 h2 h3.1
    exact ih _ q1 q2 h3.2

theorem fit_nil : Pl.Fit [] := by intro k; simp [Pl.m64]
theorem runW_ok (zs : List Int) (h : keysOK zs = true) : Pl.Fit (runW zs) ∧ (runW zs).length ≤ 1025 := fold_ok zs [] fit_nil (by simp) h
theorem keysOK_pre (zs : List Int) (k : Nat) (h : keysOK zs = true) : keysOK (zs.take k) = true := by
  cases hk : keysOK (zs.take k) with
  | true => rfl
  | false => rw [keysOK_mono zs k hk] at h; exact h
theorem keysOK_at (zs : List Int) (k : Nat) (h : keysOK zs = true) (hk : k < zs.length) : zs.getD k 0 ≤ 65536 := by
  have h1 := keysOK_take zs k hk
  rw [keysOK_pre zs (k + 1) h] at h1
  have := h1.symm
  simp only [Bool.and_eq_true, decide_eq_true_eq] at this
  exact this.2

set_option maxHeartbeats 1000000 in
/-- ████ runScript on an empty set. -/
theorem run_any (own : Nat → Prop) (S : Nat) (v : Value) (zs : List Int) (w0 w : World) (hv : Ints w0 v zs) (hl : zs.length ≤ 1048576) (hr : InRange zs) (hok : keysOK zs = true)
    (hB : Below w0.heap.size w0 w) (hno : ∀ b, b < w0.heap.size → ¬ own b) (hnew : ∀ b, w.heap.size ≤ b → own b) (hs : SetIs own w S (Pl.levels [])) :
    Calls Try.prog 13 #[.pointer (some ⟨S, 0, none⟩), v] w fun e w' => e = .returned (.tuple #[]) ∧ SetIs own w' S (Pl.levels (runW zs)) ∧ Kept own w w' := by
  obtain ⟨ao, cap, rfl, hv⟩ := hv
  obtain ⟨n, hn⟩ : ∃ n, n = zs.length := ⟨_, rfl⟩
  have HN : Hid (n = zs.length) := hn
  rw [← hn] at hl ⊢
  have HW : Hid (SetIs own w S (Pl.levels (runW (zs.take 0))) ∧ (∀ b, w.heap.size ≤ b → own b) ∧ keysOK zs = true ∧ InRange zs ∧ (∀ b, b < w0.heap.size → ¬ own b)) := ⟨hs, hnew, hok, hr, hno⟩
  clear hs hnew hok hr hno
  rcases hv with hz | ⟨b, off, rfl, hb, hc⟩
  · have hn0 : n ≤ 0 := by rw [hn, hz]; exact Nat.le_refl _
    have HZ : Hid (zs = []) := hz
    clear hn hz
    go_enter Try.func13, Try.ntmps13
    go_wp2
    go_loopw [4] (fun i wr => ∃ k : Nat, k ≤ n ∧ i = .int .i64 k ∧ wr = w) (fun i wr => n - (intOf i).toNat)
    case atStart => exact ⟨0, Nat.zero_le _, rfl, rfl⟩
    case round =>
      obtain ⟨k, hk, rfl, rfl⟩ := hrel
      have hkn : n ≤ k := by omega
      go_wp2
      go_end0
      have h1 := HW.out.1
      rw [HZ.out] at h1 ⊢
      exact ⟨rfl, h1, Kept.refl _ _⟩
  · have HC : Hid (∀ j, j < zs.length → w0.cell? ⟨b, off + j, none⟩ = some (.int .i64 (zs.getD j 0))) := hc
    clear hn hc
    go_enter Try.func13, Try.ntmps13
    go_wp2
    go_loopw [4] (fun i wr => ∃ k : Nat, k ≤ n ∧ i = .int .i64 k ∧ SetIs own wr S (Pl.levels (runW (zs.take k))) ∧ Kept own w wr) (fun i wr => n - (intOf i).toNat)
    case atStart => exact ⟨0, Nat.zero_le _, rfl, HW.out.1, Kept.refl _ _⟩
    case round =>
      obtain ⟨k, hk, rfl, hset, hkept⟩ := hrel
      have HS : Hid (SetIs own wr S (Pl.levels (runW (zs.take k)))) := hset
      clear hset
      by_cases hlt : k < n
      · have hkz : k < zs.length := by rw [← HN.out]; exact hlt
        obtain ⟨o1, o2, o3, o4, o5⟩ := HW.out
        have hcell := ((hB.trans (hkept.below (B := w0.heap.size) hB.size o5)).cell (p := ⟨b, off + k, none⟩) hb).trans (HC.out k hkz)
        have hz1 := keysOK_at zs k o3 hkz
        have hz2 := o4.at k
        obtain ⟨q1, q2⟩ := runW_ok (zs.take k) (keysOK_pre zs k o3)
        have HR : Hid (runW (zs.take (k + 1)) = opW (runW (zs.take k)) (zs.getD k 0) ∧ Pl.Fit (runW (zs.take k)) ∧ (runW (zs.take k)).length ≤ 1025 ∧ (∀ b, wr.heap.size ≤ b → own b)) := ⟨runW_take zs k hkz, q1, q2, fun b' hb' => o2 b' (Nat.le_trans hkept.size hb')⟩
        clear o1 o2 o3 o4 o5 q1 q2 hkz
        generalize zs.getD k 0 = z at *
        by_cases hz0 : 0 ≤ z
        · have HA : Hid (Calls Try.prog 20 #[.pointer (some ⟨S, 0, none⟩), .int .i64 z] wr fun e w' => e = .returned (.tuple #[]) ∧ SetIs own w' S (Pl.levels (Pl.addW (runW (zs.take k)) z.toNat)) ∧ Kept own wr w') :=
            add_any own S z (runW (zs.take k)) wr (by have := HR.out.2.2.1; omega) HR.out.2.1 hz0 hz1 HR.out.2.2.2 HS.out
          go_wp2_with (go_at_call 20; refine HA.out.mono ?_; rintro e w1 ⟨rfl, hset1, hk1⟩; have HS1 := (show Hid _ from hset1); clear hset1)
          go_roundw
          case rel => exact ⟨k + 1, by omega, by go_num, by rw [HR.out.1]; unfold opW; rw [if_pos hz0]; exact HS1, hkept.trans hk1⟩
          case measure => simp [intOf]; omega
        · have hneg : z < 0 := by omega
          have hxor := not_neg z hneg hz2.1
          have hsig : IntKind.i64.signed = true := rfl
          have HA : Hid (Calls Try.prog 24 #[.pointer (some ⟨S, 0, none⟩), .int .i64 (-1 - z)] wr fun e w' => e = .returned (.tuple #[]) ∧ SetIs own w' S (Pl.levels (Pl.remW (runW (zs.take k)) (-1 - z).toNat)) ∧ Kept own wr w') :=
            remove_any own S (-1 - z) (runW (zs.take k)) wr (by have := HR.out.2.2.1; omega) HR.out.2.1 (by omega) (by omega) HS.out
          go_wp2_with (go_at_call 24; refine HA.out.mono ?_; rintro e w1 ⟨rfl, hset1, hk1⟩; have HS1 := (show Hid _ from hset1); clear hset1)
          go_roundw
          case rel => exact ⟨k + 1, by omega, by go_num, by rw [HR.out.1]; unfold opW; rw [if_neg (by omega)]; exact HS1, hkept.trans hk1⟩
          case measure => simp [intOf]; omega
      · go_wp2
        go_end0
        have hkn : k = n := by omega
        have h1 := HS.out
        rw [hkn, HN.out, List.take_length] at h1
        exact ⟨rfl, h1, hkept⟩

end Go.Proofs.Qxb6000573a
