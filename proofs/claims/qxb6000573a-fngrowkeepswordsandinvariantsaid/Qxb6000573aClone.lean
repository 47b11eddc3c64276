/-
  cloneLevels: a copy of a set's levels, in new memory.
-/
import Derived.Test.Qxb6000573aSame
namespace Go.Proofs.Qxb6000573a
open Go.RowKit
set_option linter.unusedSimpArgs false
set_option linter.unusedVariables false
open Pl

/-- What cloneLevels has made after k rows: the outer row Oc (n cells) and the first k rows. -/
structure Cl (B : Nat) (wr : World) (Oc n k : Nat) (L : List (List Nat)) (G C : Nat → Nat) : Prop where
  outer : wr.rowIs Oc 32 n (fun i => if i < k then rowVal G C L i else .slice none 0 0)
  base : B ≤ Oc
  row : ∀ i, i < k → B ≤ G i ∧ Row wr (G i) (C i) (L.getD i [])
  inj : ∀ i j, i < k → j < k → G i = G j → i = j

theorem Cl.same {B : Nat} {wr w' : World} {Oc n k : Nat} {L : List (List Nat)} {G C : Nat → Nat} (h : Cl B wr Oc n k L G C) (hb : Below wr.heap.size wr w') : Cl B w' Oc n k L G C :=
  ⟨h.outer.of_block (hb.block _ h.outer.lt), h.base, fun i hi => ⟨(h.row i hi).1, (h.row i hi).2.same (hb.block _ (by obtain ⟨cur, hc⟩ := (h.row i hi).2.block; exact lt_of_block hc))⟩, h.inj⟩

/-- One row more. -/
theorem Cl.next {B : Nat} {wr w' : World} {Oc n k g c : Nat} {L : List (List Nat)} {G C : Nat → Nat} (h : Cl B wr Oc n k L G C) (hb : Below wr.heap.size wr w') (hg : wr.heap.size ≤ g) (hr : Row w' g c (L.getD k [])) (hB : B ≤ wr.heap.size) :
    Cl B (w'.setCell ⟨Oc, k, none⟩ (.slice (some ⟨g, 0, none⟩) (L.getD k []).length c)) Oc n (k + 1) L (fun i => if i = k then g else G i) (fun i => if i = k then c else C i) := by
  have hs := h.same hb
  have hOlt := h.outer.lt
  have hGlt : ∀ i, i < k → G i < wr.heap.size := fun i hi => by obtain ⟨cur, hc⟩ := (h.row i hi).2.block; exact lt_of_block hc
  have hGO : ∀ i, i < k → G i ≠ Oc := by
    intro i hi e
    obtain ⟨cur, hc⟩ := (h.row i hi).2.block
    obtain ⟨cs, hc2, _⟩ := h.outer
    rw [e, hc2] at hc
    simp at hc
  refine ⟨?_, h.base, fun i hi => ?_, fun i j hi hj e => ?_⟩
  · refine (hs.outer.set k _).congr (fun j hj => ?_)
    by_cases hjk : j = k
    · subst hjk; simp [rowVal]
    · rw [if_neg hjk]
      by_cases hlt : j < k
      · simp [hlt, rowVal, hjk, show j < k + 1 by omega]
      · simp [hlt, show ¬ j < k + 1 by omega]
  · by_cases hik : i = k
    · subst hik
      simp only [if_true]
      exact ⟨by omega, hr.same (Below.heap_setCell _ _ _ _ (by show g ≠ Oc; omega))⟩
    · simp only [if_neg hik]
      exact ⟨(h.row i (by omega)).1, (hs.row i (by omega)).2.same (Below.heap_setCell _ _ _ _ (hGO i (by omega)))⟩
  · by_cases h1 : i = k <;> by_cases h2 : j = k
    · omega
    · simp only [if_pos h1, if_neg h2] at e
      have := hGlt j (by omega); omega
    · simp only [if_neg h1, if_pos h2] at e
      have := hGlt i (by omega); omega
    · simp only [if_neg h1, if_neg h2] at e
      exact h.inj i j (by omega) (by omega) e

/-- All rows are there. -/
theorem Cl.done {B : Nat} {wr : World} {Oc n : Nat} {L : List (List Nat)} {G C : Nat → Nat} (h : Cl B wr Oc n n L G C) (hn : L.length = n) (hm : n ≤ maxLen) :
    Lev (fun b => B ≤ b ∧ b < wr.heap.size) wr (.slice (some ⟨Oc, 0, none⟩) n n) L G C := by
  refine ⟨?_, ?_, fun k hk => ?_, fun i j hi hj => h.inj i j (by omega) (by omega)⟩
  · obtain ⟨cs, hc, hsz, hcell⟩ := h.outer
    rw [hn]
    refine ⟨by simp, .inr ⟨Oc, n, cs, rfl, Nat.zero_le _, hc, Nat.le_refl _, hm, by omega, ?_⟩⟩
    apply List.ext_getElem?
    intro i
    rw [List.getElem?_take]
    by_cases hi : i < n
    · rw [if_pos (by omega)]
      have h1 := hcell i hi
      simp only [if_pos hi] at h1
      simp [hi]
      simpa using h1
    · rw [if_neg (by omega)]
      simp [hi]
  · intro b e
    simp [Value.ownBlock] at e
    subst e
    exact ⟨h.base, h.outer.lt⟩
  · obtain ⟨r1, r2⟩ := h.row k (by omega)
    obtain ⟨cur, hc⟩ := r2.block
    exact ⟨⟨r1, lt_of_block hc⟩, r2⟩

theorem fill_words (d : List Nat) (l j : Nat) (hl : d.length = l) (hj : j < l) : (d.take j ++ List.replicate (l - j) 0).set j (d.getD j 0) = d.take (j + 1) ++ List.replicate (l - (j + 1)) 0 := by
  have hkz : j < d.length := by omega
  have e1 : List.replicate (l - j) (0 : Nat) = 0 :: List.replicate (l - (j + 1)) 0 := by
    rw [show l - j = (l - (j + 1)) + 1 by omega, List.replicate_succ]
  have hl' : (d.take j).length = j := by simp; omega
  rw [e1, List.take_succ_eq_append_getElem hkz, List.append_assoc, List.set_append_right _ _ (by omega), hl', Nat.sub_self]
  simp [List.getD_eq_getElem?_getD, hkz]

theorem Row.made (w : World) (l : Nat) (hl : l ≤ 100000) : Row (w.alloc (.cells (madeCells #[.int .u64 0] l) 40)) w.heap.size l (List.replicate l 0) := by
  have h1 := World.ownsRow_lit (base := 0) (e := 40) (size := 1) w (madeCells #[.int .u64 0] l) l (Nat.zero_le _) (by unfold maxLen; omega) (by simp [madeCells])
  rw [toList_madeCells_one] at h1
  unfold Row
  rw [List.length_replicate, List.map_replicate]
  exact h1

set_option maxRecDepth 20000 in
set_option maxHeartbeats 1000000 in
theorem copy_any (own : Nat → Prop) (v : Value) (L : List (List Nat)) (w : World) (hn : L.length ≤ 100001) (hrow : ∀ k, k < L.length → (L.getD k []).length ≤ 100000) (hL : LevE own w v L) :
    Calls Try.prog 21 #[v] w fun e w' => ∃ v', e = .returned v' ∧ LevE (fun b => w.heap.size ≤ b ∧ b < w'.heap.size) w' v' L ∧ Below w.heap.size w w' := by
  obtain ⟨G, C, hL⟩ := hL
  obtain ⟨n, hnn⟩ : ∃ n, n = L.length := ⟨_, rfl⟩
  obtain ⟨ao, cap, rfl⟩ := hL.form hnn.symm
  have hnil := fun wx a n c => Lib.run_eql_slice_nil (P := Try.prog) wx 26 32 a n c 0 0 Try.underlying26
  cases ao with
  | none =>
    have hz : L = [] := by
      rcases hL.shape with ⟨_, h⟩ | ⟨O, cap', h, _⟩
      · exact h
      · simp at h
    have HZ : Hid (L = []) := hz
    clear hL hz hnn hrow hn
    go_enter Try.func21, Try.ntmps21
    go_wp2
    go_ret
    refine ⟨_, rfl, ⟨fun _ => 0, fun _ => 0, ?_⟩, Below.refl _ _⟩
    rw [HZ.out]
    exact ⟨World.ownsRow_nil _ _ _ _, by intro b e; simp [Value.ownBlock] at e, by intro k hk; simp at hk, by intro i j hi; simp at hi⟩
  | some a =>
    have hmk := run_make_row' (P := Try.prog) 26 32 (.slice none 0 0) 24 Try.underlying26 Try.info32 rfl .i64 .i64 n (by omega) (by omega)
    have HH : Hid (Lev own w (.slice (some a) n cap) L G C ∧ n = L.length ∧ (∀ k, k < L.length → (L.getD k []).length ≤ 100000)) := ⟨hL, hnn, hrow⟩
    have H0 : Hid (Cl w.heap.size (w.alloc (.cells (madeCells #[.slice none 0 0] n) 32)) w.heap.size n 0 L (fun _ => 0) (fun _ => 0)) := by
      refine ⟨(World.rowIs_made w (.slice none 0 0) n 32).congr (fun i hi => by simp), Nat.le_refl _, by intro i hi; omega, by intro i j hi; omega⟩
    rw [← hnn] at hn
    clear hL hnn hrow
    go_enter Try.func21, Try.ntmps21
    go_wp2
    go_loopg [4] n (fun gk kk wr => ∃ (k : Nat) (G' C' : Nat → Nat), k ≤ n ∧ kk = .int .i64 k ∧ gk = n - k ∧ Cl w.heap.size wr w.heap.size n k L G' C' ∧ Below w.heap.size w wr)
    case atStart => exact ⟨0, _, _, Nat.zero_le _, rfl, rfl, H0.out, (Below.refl _ _).alloc (Nat.le_refl _) _⟩
    case round =>
      obtain ⟨k, G', C', hk, rfl, rfl, hCl, hB⟩ := hrel
      obtain ⟨wo, rfl⟩ : ∃ wo, wo = wr := ⟨wr, rfl⟩
      clear hmk H0
      have HCl : Hid (Cl w.heap.size wo w.heap.size n k L G' C') := hCl
      clear hCl
      by_cases hlt : k < n
      · obtain ⟨h1, h2, h3⟩ := HH.out
        obtain ⟨O, hao, hO⟩ := h1.at (k := k) (by omega)
        obtain rfl : a = ⟨O, 0, none⟩ := by simpa using hao
        have hOlt : O < w.heap.size := by
          obtain ⟨cur, hc⟩ := ownsRow_block h1.outer rfl
          exact lt_of_block hc
        have hGlt := h1.block_lt (k := k) (by omega)
        have hrk := (h1.row k (by omega)).2
        obtain ⟨d, hd⟩ : ∃ d, L.getD k [] = d := ⟨_, rfl⟩
        have hdl := h3 k (by omega)
        rw [hd] at hO hrk hdl
        obtain ⟨l, hl⟩ : ∃ l, d.length = l := ⟨_, rfl⟩
        rw [hl] at hO hdl
        have hO1 := (hB.cell (p := ⟨O, k, none⟩) hOlt).trans hO
        have hmk2 := run_make_row' (P := Try.prog) 32 40 (.int .u64 0) 8 Try.underlying32 Try.info40 rfl .i64 .i64 l (by omega) (by omega)
        have HM : Hid (Row (wo.alloc (.cells (madeCells #[.int .u64 0] l) 40)) wo.heap.size l (d.take 0 ++ List.replicate (l - 0) 0)) := Row.made wo l hdl
        have HD : Hid (L.getD k [] = d ∧ d.length = l ∧ Row w (G k) (C k) d ∧ w.cell? ⟨O, k, none⟩ = some (.slice (some ⟨G k, 0, none⟩) l (C k)) ∧ G k < w.heap.size) := ⟨hd, hl, hrk, hO, hGlt⟩
        have hO1' : ∀ o, (wo.alloc o).cell? ⟨O, k, none⟩ = some (.slice (some ⟨G k, 0, none⟩) l (C k)) := by
          intro o
          rw [← hO1]
          exact World.cell?_of_block (Below.heap_alloc _ _ _ (Nat.lt_of_lt_of_le hOlt hB.size))
        clear h1 h2 h3 hd hl hrk hO hao hGlt
        go_wp2
        go_loopg [6] l (fun gj jj wx => ∃ j : Nat, j ≤ l ∧ jj = .int .i64 j ∧ gj = l - j ∧ Row wx wo.heap.size l (d.take j ++ List.replicate (l - j) 0) ∧ Below wo.heap.size wo wx)
        case atStart => exact ⟨0, Nat.zero_le _, rfl, rfl, HM.out, (Below.refl _ _).alloc (Nat.le_refl _) _⟩
        case round =>
          obtain ⟨j, hj, rfl, rfl, hRow, hBx⟩ := hrel
          obtain ⟨wx, rfl⟩ : ∃ wx, wx = wr := ⟨wr, rfl⟩
          clear hO1 hO1' hmk2
          obtain ⟨d1, d2, d3, d4, d5⟩ := HD.out
          have hBw : Below w.heap.size w wx := hB.trans (hBx.mono hB.size)
          have hcO := (hBw.cell (p := ⟨O, k, none⟩) hOlt).trans d4
          by_cases hjl : j < l
          · have hcd := (hBw.cell (p := ⟨G k, j, none⟩) d5).trans (d3.cell (j := j) (by omega))
            have hlen : (d.take j ++ List.replicate (l - j) 0).length = l := by simp; omega
            have hold := hRow.cell (j := j) (by omega)
            have hfz := hRow.frozen j
            have hst := hRow.stored j (d.getD j 0)
            rw [fill_words d l j d2 hjl] at hst
            have HST : Hid (Row (wx.setCell ⟨wo.heap.size, j, none⟩ (word (d.getD j 0))) wo.heap.size l (d.take (j + 1) ++ List.replicate (l - (j + 1)) 0)) := hst
            clear d1 d2 d3 d4 d5 hlen hst hRow
            generalize (d.take j ++ List.replicate (l - j) 0).getD j 0 = old at *
            generalize d.getD j 0 = x at *
            generalize G k = gk0 at *
            generalize C k = ck0 at *
            go_wp2
            go_roundg (l - (j + 1))
            case measure => omega
            case rel => exact ⟨j + 1, by omega, by go_num, rfl, HST.out, hBx.setCell (p := ⟨wo.heap.size, j, none⟩) (Nat.le_refl _) _⟩
          · have hje : j = l := by omega
            rw [hje, Nat.sub_self, ← d2, List.take_length] at hRow
            simp only [List.replicate_zero, List.append_nil] at hRow
            have hcl := HCl.out.same hBx
            have hoc := hcl.outer.cell hlt
            have hfc := hcl.outer.frozen k
            simp only [Nat.lt_irrefl, if_false] at hoc
            have hnx := HCl.out.next (g := wo.heap.size) (c := d.length) hBx (Nat.le_refl _) (by rw [d1]; exact hRow) hB.size
            rw [d1, d2] at hnx
            have HNX : Hid (Cl w.heap.size (wx.setCell ⟨w.heap.size, k, none⟩ (.slice (some ⟨wo.heap.size, 0, none⟩) l l)) w.heap.size n (k + 1) L (fun i => if i = k then wo.heap.size else G' i) (fun i => if i = k then l else C' i)) := hnx
            clear d1 d2 d3 d4 d5 hRow hcl hnx hje
            generalize G k = gk0 at *
            generalize C k = ck0 at *
            go_wp2
            go_roundg (n - (k + 1))
            case measure => omega
            case rel => exact ⟨k + 1, _, _, by omega, by go_num, rfl, HNX.out, hBw.setCell (p := ⟨w.heap.size, k, none⟩) (Nat.le_refl _) _⟩
      · have hke : k = n := by omega
        subst hke
        go_wp2
        go_ret
        exact ⟨_, rfl, ⟨G', C', HCl.out.done HH.out.2.1.symm (by unfold maxLen; omega)⟩, hB⟩

end Go.Proofs.Qxb6000573a
