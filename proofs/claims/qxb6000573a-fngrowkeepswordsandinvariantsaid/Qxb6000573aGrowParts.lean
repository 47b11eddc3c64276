/-
  WHAT EACH STEP OF (*Set).grow DOES: to the tower (plain), to memory.
-/
import Derived.Test.Qxb6000573aRows
import Derived.Test.Qxb6000573aApp
import Derived.Deep.RegionLaw
namespace Go.Proofs.Qxb6000573a
open Go.RowKit
set_option linter.unusedSimpArgs false
set_option linter.unusedVariables false
open Pl

/-! ### The plain steps -/
theorem getD_take (d : List Nat) (j t : Nat) : (d.take j).getD t 0 = if t < j then d.getD t 0 else 0 := by
  simp only [List.getD_eq_getElem?_getD, List.getElem?_take]
  split <;> simp

theorem sumN_zero (n : Nat) : sumN n [] = List.replicate n 0 := by
  apply getD_ext (by simp [length_sumN])
  intro k hk
  rw [length_sumN] at hk
  rw [getD_sumN, if_pos hk]
  have e : sumw [] k 64 = 0 := by
    apply Nat.eq_of_testBit_eq; intro t; rw [testBit_sumw]; simp
  rw [e]; simp [List.getD_eq_getElem?_getD, hk]

theorem sumN_take (n : Nat) (d : List Nat) (j : Nat) (hj : j < d.length) (hn : j / 64 < n) :
    sumN n (d.take (j + 1)) = if d.getD j 0 = 0 then sumN n (d.take j) else orAt (sumN n (d.take j)) j := by
  split
  · rename_i h0
    apply getD_ext (by rw [length_sumN, length_sumN])
    intro k _
    rw [getD_sumN, getD_sumN]
    split
    · apply sumw_congr
      intro t _
      rw [getD_take, getD_take]
      by_cases he : 64 * k + t = j
      · rw [he, if_pos (by omega), if_neg (by omega), h0]
      · by_cases hl : 64 * k + t < j
        · rw [if_pos (by omega), if_pos hl]
        · rw [if_neg (by omega), if_neg hl]
    · rfl
  · rename_i h0
    apply getD_ext (by simp [orAt, length_sumN])
    intro k hk
    rw [length_sumN] at hk
    unfold orAt
    rw [getD_set, getD_sumN, if_pos hk]
    by_cases hkj : j / 64 = k
    · rw [if_pos ⟨hkj, by rw [length_sumN]; exact hn⟩, getD_sumN, if_pos hn]
      apply Nat.eq_of_testBit_eq
      intro t
      rw [testBit_sumw, Nat.testBit_or, testBit_sumw, Nat.testBit_two_pow, getD_take, getD_take, hkj]
      by_cases ht : t < 64
      · by_cases he : 64 * k + t = j
        · have h3 : j % 64 = t := by omega
          rw [if_pos (by omega), if_neg (by omega), he, h3]; simp [ht, h0, -List.getD_eq_getElem?_getD]
        · have h3 : ¬ j % 64 = t := by omega
          by_cases hl : 64 * k + t < j
          · rw [if_pos (by omega), if_pos hl]; simp [h3]
          · rw [if_neg (by omega), if_neg hl]; simp [h3]
      · have h3 : ¬ j % 64 = t := by omega
        simp [ht, h3]
    · rw [if_neg (fun h => hkj h.1), getD_sumN, if_pos hk]
      apply sumw_congr
      intro t ht
      rw [getD_take, getD_take]
      by_cases hl : 64 * k + t < j
      · rw [if_pos (by omega), if_pos hl]
      · rw [if_neg (by omega), if_neg hl]

theorem sumN_all (d : List Nat) : sumN (up d.length) (d.take d.length) = summ d := by rw [List.take_length]; rfl

theorem pad_le (c : List Nat) (n : Nat) (h : n ≤ c.length) : pad c n = c := by
  unfold pad; rw [show n - c.length = 0 by omega]; simp

theorem build_pad_one (c : List Nat) (n : Nat) (h : c.length = 1) (hn : n ≤ 1) : build c = [c] ∧ build (pad c n) = [c] := by
  rw [pad_le c n (by omega)]; exact ⟨build_one c (by omega), build_one c (by omega)⟩

theorem build_pad_more (c : List Nat) (n : Nat) (h : 2 ≤ c.length) : build c = c :: build (summ c) ∧ build (pad c n) = pad c n :: build (pad (summ c) (up (pad c n).length)) := by
  refine ⟨build_more c h, ?_⟩
  rw [build_more (pad c n) (by rw [length_pad]; omega), summ_pad]

/-! ### The memory's steps -/
theorem set_apart {own : Nat → Prop} {w : World} {v u : Value} {L : List (List Nat)} {G C : Nat → Nat} (h : Lev own w v L G C) {S : Nat} (hS : w.heap[S]? = some (.cells #[u] 28 (0, 0))) :
    (∀ k, k < L.length → G k ≠ S) ∧ v.ownBlock ≠ some S := by
  constructor
  · intro k hk e
    obtain ⟨cur, hc⟩ := (h.row k hk).2.block
    rw [e, hS] at hc
    simp at hc
  · intro e
    obtain ⟨cur, hc⟩ := ownsRow_block h.outer e
    rw [hS] at hc
    simp at hc

theorem rowVal_push (G C : Nat → Nat) (L : List (List Nat)) (ws : List Nat) (g c : Nat) :
    (List.range (L ++ [ws]).length).map (rowVal (fun i => if i = L.length then g else G i) (fun i => if i = L.length then c else C i) (L ++ [ws])) =
      (List.range L.length).map (rowVal G C L) ++ [.slice (some ⟨g, 0, none⟩) ws.length c] := by
  rw [List.length_append, List.length_singleton, List.range_succ, List.map_append]
  congr 1
  · apply List.map_congr_left
    intro i hi
    have hi' : i < L.length := by simpa using hi
    have hne : ¬ i = L.length := by omega
    simp [rowVal, hne, List.getD_eq_getElem?_getD, List.getElem?_append_left hi']
  · simp [rowVal, List.getD_eq_getElem?_getD]

theorem Lev.push {own : Nat → Prop} {w : World} {v : Value} {L : List (List Nat)} {G C : Nat → Nat} (h : Lev own w v L G C) {w2 w' : World} {g c O cap : Nat} {ws : List Nat}
    (hk : ∀ b, b < w.heap.size → w2.heap[b]? = w.heap[b]?) (hg : w.heap.size ≤ g) (hrow : Row w2 g c ws) (hog : own g)
    (hown : w'.ownsRow 0 32 1 (.slice (some ⟨O, 0, none⟩) (L.length + 1) cap) (L.length + 1) ((List.range L.length).map (rowVal G C L) ++ [.slice (some ⟨g, 0, none⟩) ws.length c]))
    (hgr : w2.grownBy w' v.ownBlock) (hO : own O) :
    Lev own w' (.slice (some ⟨O, 0, none⟩) (L.length + 1) cap) (L ++ [ws]) (fun i => if i = L.length then g else G i) (fun i => if i = L.length then c else C i) := by
  have hvlt : ∀ b, v.ownBlock = some b → b < w.heap.size := by
    intro b e
    obtain ⟨cur, hc⟩ := ownsRow_block h.outer e
    exact lt_of_block hc
  have hlt2 : ∀ {b}, b < w.heap.size → b < w2.heap.size := by
    intro b hb
    have hx : w.heap[b]? = some w.heap[b] := Array.getElem?_eq_getElem hb
    exact lt_of_block ((hk b hb).trans hx)
  refine ⟨?_, fun b e => ?_, fun k hk' => ?_, fun i j hi hj e => ?_⟩
  · rw [rowVal_push]
    simpa using hown
  · simp [Value.ownBlock] at e; subst e; exact hO
  · rw [List.length_append, List.length_singleton] at hk'
    by_cases he : k = L.length
    · subst he
      simp only [if_true]
      refine ⟨hog, ?_⟩
      have e : (L ++ [ws]).getD L.length [] = ws := by simp [List.getD_eq_getElem?_getD]
      rw [e]
      obtain ⟨cur, hc⟩ := hrow.block
      refine hrow.same (hgr.block g (lt_of_block hc) (fun e' => ?_))
      have := hvlt g e'.symm
      omega
    · have hkl : k < L.length := by omega
      simp only [if_neg he]
      refine ⟨(h.row k hkl).1, ?_⟩
      have e : (L ++ [ws]).getD k [] = L.getD k [] := by simp [List.getD_eq_getElem?_getD, List.getElem?_append_left hkl]
      rw [e]
      have hb := h.block_lt hkl
      refine (h.row k hkl).2.same ((hgr.block _ (hlt2 hb) (fun e' => ?_)).trans (hk _ hb))
      exact h.apart hkl e'.symm rfl
  · rw [List.length_append, List.length_singleton] at hi hj
    by_cases h1 : i = L.length <;> by_cases h2 : j = L.length
    · omega
    · have hb := h.block_lt (k := j) (by omega)
      simp only [if_pos h1, if_neg h2] at e
      omega
    · have hb := h.block_lt (k := i) (by omega)
      simp only [if_neg h1, if_pos h2] at e
      omega
    · simp only [if_neg h1, if_neg h2] at e
      exact h.inj i j (by omega) (by omega) e

theorem Lev.regrow {own : Nat → Prop} {w : World} {O n cap : Nat} {L : List (List Nat)} {G C : Nat → Nat} (h : Lev own w (.slice (some ⟨O, 0, none⟩) n cap) L G C) {k : Nat} (hk : k < L.length) {w' : World} {g c : Nat} {ws : List Nat}
    (hrow : Row w' g c ws) (hgr : w.grownBy w' (some (G k))) (hg : g = G k ∨ w.heap.size ≤ g) (hog : own g) :
    Lev own (w'.setCell ⟨O, k, none⟩ (.slice (some ⟨g, 0, none⟩) ws.length c)) (.slice (some ⟨O, 0, none⟩) n cap) (L.set k ws) (fun i => if i = k then g else G i) (fun i => if i = k then c else C i) := by
  have hnl : n = L.length := by
    rcases h.shape with ⟨h', _⟩ | ⟨O', cap', h', _⟩
    · simp at h'
    · simp at h'; exact h'.2.1
  subst hnl
  have hOlt : O < w.heap.size := by
    obtain ⟨cur, hc⟩ := ownsRow_block h.outer rfl
    exact lt_of_block hc
  have hGO : ∀ i, i < L.length → G i ≠ O := fun i hi => h.apart hi rfl
  have hgO : g ≠ O := by
    rcases hg with rfl | hg
    · exact hGO k hk
    · omega
  have hout : w'.ownsRow 0 32 1 (.slice (some ⟨O, 0, none⟩) L.length cap) L.length ((List.range L.length).map (rowVal G C L)) :=
    ownsRow_same h.outer (fun b e => by simp [Value.ownBlock] at e; subst e; exact hgr.block _ hOlt (fun e' => hGO k hk (by simpa using e'.symm)))
  have hst := (World.ownsRow.stored hout k (.slice (some ⟨g, 0, none⟩) ws.length c)).1
  have hlen : (L.set k ws).length = L.length := List.length_set
  refine ⟨?_, h.ownv, fun i hi => ?_, fun i j hi hj e => ?_⟩
  · rw [hlen]
    have e : ((List.range L.length).map (rowVal G C L)).set k (.slice (some ⟨g, 0, none⟩) ws.length c) =
        (List.range L.length).map (rowVal (fun i => if i = k then g else G i) (fun i => if i = k then c else C i) (L.set k ws)) := by
      apply List.ext_getElem?
      intro j
      rw [List.getElem?_set]
      by_cases hj : j < L.length
      · by_cases hjk : k = j
        · subst hjk; simp [hj, rowVal, List.getD_eq_getElem?_getD]
        · have hjk' : ¬ j = k := fun e => hjk e.symm
          simp [hj, hjk, hjk', rowVal, List.getD_eq_getElem?_getD]
      · simp [hj]; omega
    rw [← e]
    exact hst
  · rw [hlen] at hi
    by_cases hik : i = k
    · subst hik
      simp only [if_true]
      refine ⟨hog, ?_⟩
      have e : (L.set i ws).getD i [] = ws := by simp [List.getD_eq_getElem?_getD, hk]
      rw [e]
      exact hrow.same (Below.heap_setCell _ _ _ _ hgO)
    · simp only [if_neg hik]
      refine ⟨(h.row i hi).1, ?_⟩
      have hki : ¬ k = i := fun e => hik e.symm
      have e : (L.set k ws).getD i [] = L.getD i [] := by simp only [List.getD_eq_getElem?_getD, List.getElem?_set, if_neg hki]
      rw [e]
      refine (h.row i hi).2.same ((Below.heap_setCell _ _ _ _ (hGO i hi)).trans (hgr.block _ (h.block_lt hi) (fun e' => hik (h.inj i k hi hk (by simpa using e')))))
  · rw [hlen] at hi hj
    by_cases h1 : i = k <;> by_cases h2 : j = k
    · omega
    · simp only [if_pos h1, if_neg h2] at e
      have hb := h.block_lt hj
      rcases hg with hg | hg
      · exfalso; exact h2 (h.inj j k hj hk (by rw [← e, hg]))
      · omega
    · simp only [if_neg h1, if_pos h2] at e
      have hb := h.block_lt hi
      rcases hg with hg | hg
      · exfalso; exact h1 (h.inj i k hi hk (by rw [e, hg]))
      · omega
    · simp only [if_neg h1, if_neg h2] at e
      exact h.inj i j hi hj e

/-! ### The region's two laws -/
theorem Try.info32 : (Try.prog.info? 32).map (fun i => (i.zero, i.size, i.bytes)) = some (some (.slice none 0 0), 1, 24) := by kernel_rfl
theorem Try.info40 : (Try.prog.info? 40).map (fun i => (i.zero, i.size, i.bytes)) = some (some (.int .u64 0), 1, 8) := by kernel_rfl

/-- 's.levels = append(s.levels, row)', the append: as one step of a region that draws. -/
theorem step_push {ops : Array Oper} {o : Oper} {a : Act} {w : World} {K : Act → World → Prop} {Q : Exit → Act → World → Prop} {E : Prop}
    (hg : o.guard = none) (s x : Operand) (hop : o.op = Op.call { callee := Callee.builtin Builtin.append, args := #[s, x], argTypes := #[26, 26] })
    (S : Nat) (u v : Value) (n : Nat) (xs : List Value) (hs : a.eval s = v) (hown : w.ownsRow 0 32 1 v n xs) (b : Nat) (nv : Value) (hx : a.eval x = .slice (some ⟨b, 0, none⟩) 1 1) (hcell : w.cell? ⟨b, 0, none⟩ = some nv) (h1 : nv.oneCell' = true)
    (hn : n ≤ 100001) (hS : w.heap[S]? = some (.cells #[u] 28 (0, 0)))
    (hK : ∀ O cap w', w'.cell? ⟨S, 0, none⟩ = some u → w'.frozen? ⟨S, 0, none⟩ = false →
      Hid (w'.heap[S]? = some (.cells #[u] 28 (0, 0)) ∧ w'.ownsRow 0 32 1 (.slice (some ⟨O, 0, none⟩) (n + 1) cap) (n + 1) (xs ++ [nv]) ∧ w.grownBy w' v.ownBlock ∧ (v.ownBlock = some O ∨ w.heap.size ≤ O)) →
      K (a.put o.dst (.slice (some ⟨O, 0, none⟩) (n + 1) cap)) w') :
    if Region.wanted o (yielded ops a.tmps) = true then Oper.wp Try.prog o a w K Q else E := by
  have hw : Region.wanted o (yielded ops a.tmps) = true := by simp [Region.wanted, hg]
  rw [if_pos hw]
  obtain ⟨i, hi, hz0, hz1, hz2⟩ := info_parts Try.info32
  obtain ⟨O, cap, w', hr, r1, r2, r3⟩ := run_append_told (P := Try.prog) w 26 o.type 32 i (.slice none 0 0) 24 Try.underlying26 hi hz0 hz1 hz2 rfl v n xs hown ⟨b, 0, none⟩ 1 1 [nv] (by omega) rfl
    (by intro j z hz; match j, hz with | 0, hz => simp at hz; subst hz; rw [Addr.add_lit]; exact hcell) (by intro z hz; simp at hz; subst hz; exact h1) (by unfold maxLen; omega) (by omega)
  have hbS : w'.heap[S]? = some (.cells #[u] 28 (0, 0)) := by
    rw [r2.block S (lt_of_block hS) (fun e => ?_)]; exact hS
    obtain ⟨cur, hc⟩ := ownsRow_block hown e.symm
    rw [hS] at hc
    simp at hc
  unfold Oper.wp
  simp [execOp, hop, resolve, invoke, builtin, hs, hx, hr, Result.andThen]
  exact hK O cap w' (cell_of_one hbS) (free_of_one hbS) ⟨hbS, r1, r2, r3⟩

/-- 's.levels[k] = append(s.levels[k], make([]uint64, m)...)', the append: as one step of a region that draws. -/
theorem step_zeros {ops : Array Oper} {o : Oper} {a : Act} {w : World} {K : Act → World → Prop} {Q : Exit → Act → World → Prop} {E : Prop}
    (hg : o.guard = none) (s x : Operand) (hop : o.op = Op.call { callee := Callee.builtin Builtin.append, args := #[s, x], argTypes := #[32, 3] })
    (own : Nat → Prop) (O nO capO : Nat) (L : List (List Nat)) (G C : Nat → Nat) (k need : Nat) (c : List Nat) (X : Int) (hL : Lev own w (.slice (some ⟨O, 0, none⟩) nO capO) L G C) (hk : k < L.length) (hc : L.getD k [] = c)
    (hs : a.eval s = .slice (some ⟨G k, 0, none⟩) c.length (C k)) (hx : a.eval x = .int .i64 X) (hX : X = ((need - c.length : Nat) : Int)) (hlt : c.length < need) (hn : need ≤ 100001)
    (hnew : ∀ b, w.heap.size ≤ b → own b) (S : Nat) (u : Value) (hS : w.heap[S]? = some (.cells #[u] 28 (0, 0)))
    (hK : ∀ g cc w', w'.cell? ⟨S, 0, none⟩ = some u → w'.cell? ⟨O, k, none⟩ = some (.slice (some ⟨G k, 0, none⟩) c.length (C k)) → w'.frozen? ⟨O, k, none⟩ = false →
      Hid (w.grownBy w' (some (G k)) ∧ Lev own (w'.setCell ⟨O, k, none⟩ (.slice (some ⟨g, 0, none⟩) need cc)) (.slice (some ⟨O, 0, none⟩) nO capO) (L.set k (pad c need)) (fun i => if i = k then g else G i) (fun i => if i = k then cc else C i)) →
      K (a.put o.dst (.slice (some ⟨g, 0, none⟩) need cc)) w') :
    if Region.wanted o (yielded ops a.tmps) = true then Oper.wp Try.prog o a w K Q else E := by
  have hw : Region.wanted o (yielded ops a.tmps) = true := by simp [Region.wanted, hg]
  rw [if_pos hw]
  obtain ⟨i, hi, hz0, hz1, hz2⟩ := info_parts Try.info40
  have hrow := (hL.row k hk).2
  rw [hc] at hrow
  obtain ⟨g, cc, w', hr, r1, r2, r3⟩ := run_append_zeros (P := Try.prog) w 32 3 o.type 40 i (.int .u64 0) 8 Try.underlying32 Try.underlying3 hi hz0 hz1 hz2 rfl rfl (G k) c.length (C k) (c.map word) hrow (need - c.length) (by omega) (by unfold maxLen; omega) (by omega)
  have hsum : c.length + (need - c.length) = need := by omega
  rw [hsum] at hr r1
  have hpl : (pad c need).length = need := by rw [length_pad]; omega
  have hrow' : Row w' g cc (pad c need) := by
    unfold Row
    rw [hpl]
    have e : (pad c need).map word = c.map word ++ List.replicate (need - c.length) (.int .u64 0) := by
      unfold pad; rw [List.map_append, List.map_replicate]; rfl
    rw [e]
    exact r1
  have hog : own g := by
    rcases r3 with rfl | h
    · exact (hL.row k hk).1
    · exact hnew g h
  have hLev := hL.regrow hk hrow' r2 r3 hog
  rw [hpl] at hLev
  have hOlt : O < w.heap.size := by
    obtain ⟨cur, hc⟩ := ownsRow_block hL.outer rfl
    exact lt_of_block hc
  have hbO : w'.heap[O]? = w.heap[O]? := r2.block O hOlt (fun e => hL.apart hk rfl (by simpa using e.symm))
  have hcO := hL.outer_cell hk
  rw [hc] at hcO
  unfold Oper.wp
  simp [execOp, hop, resolve, invoke, builtin, hs, hx, hX, hr, Result.andThen]
  have hbS : w'.heap[S]? = some (.cells #[u] 28 (0, 0)) := by
    rw [r2.block S (lt_of_block hS) (fun e => (set_apart hL hS).1 k hk (by simpa using e.symm))]; exact hS
  exact hK g cc w' (cell_of_one hbS) ((World.cell?_of_block (a := ⟨O, k, none⟩) hbO).trans hcO) ((World.frozen?_of_block (a := ⟨O, k, none⟩) hbO).trans (hL.outer_frozen k)) ⟨r2, hLev⟩

end Go.Proofs.Qxb6000573a
