/-
  WHAT THE LAWS' WALKS WANT OF SETS: a set while other memory is made; bounds on its levels; the plain laws on rows of words.
-/
import Derived.Test.Qxb6000573aHead
import Derived.Test.Qxb6000573aClone
namespace Go.Proofs.Qxb6000573a
open Go.RowKit
set_option linter.unusedSimpArgs false
set_option linter.unusedVariables false
open Pl

theorem LevE.same {own own' : Nat → Prop} {w w' : World} {v : Value} {L : List (List Nat)} (h : LevE own w v L) (hm : ∀ b, b < w.heap.size → own b → own' b) (hb : ∀ b, b < w.heap.size → own b → w'.heap[b]? = w.heap[b]?) : LevE own' w' v L := by
  obtain ⟨G, C, h⟩ := h
  have h1 := h.restrict (own' := fun b => own b ∧ b < w.heap.size) (fun b hb ho => ⟨ho, hb⟩)
  have h2 : Lev (fun b => own b ∧ b < w.heap.size) w' v L G C := h1.same (fun b ho hl => hb b hl ho.1)
  refine ⟨G, C, ⟨h2.outer, fun b e => ?_, fun k hk => ?_, h2.inj⟩⟩
  · have := h2.ownv b e; exact hm b this.2 this.1
  · have := (h2.row k hk).1; exact ⟨hm _ this.2 this.1, (h2.row k hk).2⟩

theorem LevE.below {own own' : Nat → Prop} {w w' : World} {v : Value} {L : List (List Nat)} (h : LevE own w v L) (hb : Below w.heap.size w w') (hm : ∀ b, b < w.heap.size → own b → own' b) : LevE own' w' v L :=
  h.same hm (fun b hl _ => hb.block b hl)
theorem LevE.kept {own own' : Nat → Prop} {w w' : World} {v : Value} {L : List (List Nat)} (h : LevE own w v L) (hk : Kept own' w w') (hd : ∀ b, own b → ¬ own' b) : LevE own w' v L :=
  h.same (fun _ _ h => h) (fun b hl ho => hk.block b hl (hd b ho))
theorem LevE.calm {own : Nat → Prop} {w w' : World} {v : Value} {L : List (List Nat)} (h : LevE own w v L) (hk : Calm w w') : LevE own w' v L := h.kept hk (fun _ _ h => h)

theorem SetIs.same {own own' : Nat → Prop} {w w' : World} {S : Nat} {L : List (List Nat)} (h : SetIs own w S L) (hm : ∀ b, b < w.heap.size → own b → own' b) (hb : ∀ b, b < w.heap.size → own b → w'.heap[b]? = w.heap[b]?) : SetIs own' w' S L := by
  obtain ⟨h1, v, h2, h3⟩ := h
  have hlt := lt_of_block h2
  exact ⟨hm S hlt h1, v, (hb S hlt h1).trans h2, h3.same hm hb⟩
theorem SetIs.below {own own' : Nat → Prop} {w w' : World} {S : Nat} {L : List (List Nat)} (h : SetIs own w S L) (hb : Below w.heap.size w w') (hm : ∀ b, b < w.heap.size → own b → own' b) : SetIs own' w' S L :=
  h.same hm (fun b hl _ => hb.block b hl)
theorem SetIs.calm {own : Nat → Prop} {w w' : World} {S : Nat} {L : List (List Nat)} (h : SetIs own w S L) (hk : Calm w w') : SetIs own w' S L := h.same (fun _ _ h => h) (fun b hl _ => hk.block b hl (fun h => h))

theorem Calm.below {w w' : World} (h : Calm w w') (B : Nat) (hB : B ≤ w.heap.size) : Below B w w' := Kept.below h hB (fun _ _ h => h)

theorem levels_bounds {ws : List Nat} (h : ws.length ≤ 90000) : (levels ws).length ≤ 100001 ∧ ∀ k, k < (levels ws).length → ((levels ws).getD k []).length ≤ 100000 := by
  by_cases hz : ws.length = 0
  · rw [levels_zero hz]; exact ⟨by simp, by intro k hk; simp at hk⟩
  · rw [levels_pos (by omega)]
    have hb := build_length ws
    refine ⟨by omega, fun k hk => ?_⟩
    have hm : (build ws).getD k [] ∈ build ws := by
      rw [List.getD_eq_getElem?_getD, List.getElem?_eq_getElem hk]; exact List.getElem_mem hk
    have := build_pos ws (by omega) _ hm
    omega

/-! ### Plain laws on rows of words -/
theorem pad_pad (ws : List Nat) (n : Nat) : pad (pad ws n) n = pad ws n := by
  rw [pad_le (pad ws n) n (by rw [length_pad]; omega)]

theorem set_self (ws : List Nat) (j : Nat) : ws.set j (ws.getD j 0) = ws := by
  apply getD_ext (by simp)
  intro k _
  rw [getD_set]
  split
  · rename_i h; rw [h.1]
  · rfl

theorem or_bit_self (a i : Nat) (h : a.testBit i = true) : a ||| 2 ^ i = a := by
  apply Nat.eq_of_testBit_eq
  intro t
  rw [Nat.testBit_or, Nat.testBit_two_pow]
  by_cases ht : i = t
  · subst ht; simp [h]
  · simp [ht]

theorem clr_bit_self (a i : Nat) (hi : i < 64) (ha : a < m64) (h : a.testBit i = false) : clr a i = a := by
  apply Nat.eq_of_testBit_eq
  intro t
  rw [testBit_clr a i t hi ha]
  by_cases ht : t = i
  · subst ht; simp [h]
  · simp [ht]

theorem addW_len (ws : List Nat) (i : Nat) : i / 64 < (addW ws i).length := by unfold addW; rw [length_orAt, length_pad]; omega

/-- A second Add of one key changes nothing. -/
theorem addW_again (ws : List Nat) (i : Nat) : addW (addW ws i) i = addW ws i := by
  have hb : bitAt (addW ws i) i = true := by rw [bitAt_addW]; simp
  have hp : pad (addW ws i) (i / 64 + 1) = addW ws i := pad_le _ _ (addW_len ws i)
  show orAt (pad (addW ws i) (i / 64 + 1)) i = addW ws i
  rw [hp]
  unfold orAt
  unfold bitAt at hb
  rw [or_bit_self _ _ hb, set_self]

/-- Remove of no member changes nothing. -/
theorem remW_none (ws : List Nat) (i : Nat) (hf : Fit ws) (h : bitAt ws i = false) : remW ws i = ws := by
  unfold remW
  split
  · unfold clrAt
    unfold bitAt at h
    rw [clr_bit_self _ _ (by omega) (hf _) h, set_self]
  · rfl

theorem fit_remW {ws : List Nat} (hf : Fit ws) (i : Nat) : Fit (remW ws i) := by
  unfold remW; split
  · exact fit_clrAt hf i
  · exact hf
theorem length_remW (ws : List Nat) (i : Nat) : (remW ws i).length = ws.length := by unfold remW; split <;> simp [length_clrAt]
theorem fit_addW {ws : List Nat} (hf : Fit ws) (i : Nat) : Fit (addW ws i) := fit_orAt (fit_pad hf _) i
theorem length_addW (ws : List Nat) (i : Nat) : (addW ws i).length = max ws.length (i / 64 + 1) := by unfold addW; rw [length_orAt, length_pad]

/-- Add then Remove of a key that is no member: as grow alone. -/
theorem remW_addW (ws : List Nat) (i : Nat) (hf : Fit ws) (h : bitAt ws i = false) : remW (addW ws i) i = pad ws (i / 64 + 1) := by
  have hlt := addW_len ws i
  unfold remW
  rw [if_pos hlt]
  apply getD_ext
  · rw [length_clrAt, length_addW, length_pad]
  · intro k _
    unfold clrAt addW
    rw [getD_set]
    have hpl : i / 64 < (pad ws (i / 64 + 1)).length := by rw [length_pad]; omega
    unfold orAt
    by_cases hk : i / 64 = k
    · rw [if_pos ⟨hk, by rw [List.length_set]; exact hpl⟩, getD_set, if_pos ⟨rfl, hpl⟩, ← hk, getD_pad]
      apply Nat.eq_of_testBit_eq
      intro t
      rw [testBit_clr _ _ _ (by omega) (or_lt_m64 (hf _) (pow_lt_m64 i)), Nat.testBit_or, Nat.testBit_two_pow]
      unfold bitAt at h
      by_cases ht : t = i % 64
      · subst ht; rw [h]; simp
      · have ht' : ¬ i % 64 = t := fun e => ht e.symm
        simp [ht, ht']
    · rw [if_neg (fun e => hk e.1), getD_set, if_neg (fun e => hk e.1)]

end Go.Proofs.Qxb6000573a
