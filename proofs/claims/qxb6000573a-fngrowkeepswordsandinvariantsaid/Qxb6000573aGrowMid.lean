/-
  (*Set).grow: its contract.
-/
import Derived.Test.Qxb6000573aGrowParts
import Derived.Deep.OwnRows
import Derived.Deep.LoopGhost
import Derived.Deep.DeepCutAuto
import Derived.WalkKit
import Derived.ProofKit
import Derived.WalkLawsBesides
import Derived.WalkSpells
namespace Go.Proofs.Qxb6000573a
open Go.RowKit
set_option linter.unusedSimpArgs false
set_option linter.unusedVariables false
open Pl

/-- What holds at the head of grow's loop. -/
def GrowAt (own : Nat → Prop) (w0 : World) (S : Nat) (T : List (List Nat)) (k need : Nat) (wr : World) (v : Value) (G C : Nat → Nat) (L done : List (List Nat)) : Prop :=
  done.length = k ∧ Kept own w0 wr ∧ 1 ≤ need ∧ need ≤ 100000 ∧ k < T.length ∧ wr.heap[S]? = some (.cells #[v] 28 (0, 0)) ∧ Lev own wr v L G C ∧
    ((∃ c, L = done ++ build c ∧ done ++ build (pad c need) = T ∧ 1 ≤ c.length ∧ c.length ≤ 100000 ∧ Fit c) ∨
     (L = done ∧ ∃ c', done ++ build c' = T ∧ c'.length = need ∧ ((k = 0 ∧ c' = List.replicate need 0) ∨ (1 ≤ k ∧ ∃ d, done.getD (k - 1) [] = d ∧ c' = summ d ∧ 2 ≤ d.length ∧ d.length ≤ 100000 ∧ Fit d))))

theorem Lev.form {own : Nat → Prop} {w : World} {v : Value} {L : List (List Nat)} {G C : Nat → Nat} (h : Lev own w v L G C) {k : Nat} (hk : L.length = k) : ∃ ao cap, v = .slice ao k cap := by
  rcases h.shape with ⟨rfl, rfl⟩ | ⟨O, cap, rfl, _⟩
  · exact ⟨none, 0, by rw [← hk]; rfl⟩
  · exact ⟨_, cap, by rw [← hk]⟩

theorem Lev.setOther {own : Nat → Prop} {w : World} {v : Value} {L : List (List Nat)} {G C : Nat → Nat} (h : Lev own w v L G C) {a : Addr} (h1 : ∀ k, k < L.length → G k ≠ a.block) (h2 : v.ownBlock ≠ some a.block) (u : Value) : Lev own (w.setCell a u) v L G C :=
  ⟨ownsRow_same h.outer (fun b e => Below.heap_setCell _ _ _ _ (fun e' => h2 (e' ▸ e))), h.ownv, fun k hk => ⟨(h.row k hk).1, (h.row k hk).2.same (Below.heap_setCell _ _ _ _ (h1 k hk))⟩, h.inj⟩

def madeW (wr : World) (need : Nat) : World := ((wr.alloc (.cells (madeCells #[.int .u64 0] need) 40)).alloc (.cells #[.slice (some ⟨wr.heap.size, 0, none⟩) need need] 32)).drew

theorem push_before {wr : World} {S k need : Nat} {v : Value} {xs : List Value} (hS : wr.heap[S]? = some (.cells #[v] 28 (0, 0))) (hown : wr.ownsRow 0 32 1 v k xs) :
    (madeW wr need).ownsRow 0 32 1 v k xs ∧ (madeW wr need).cell? ⟨wr.heap.size + 1, 0, none⟩ = some (.slice (some ⟨wr.heap.size, 0, none⟩) need need) ∧ (madeW wr need).heap[S]? = some (.cells #[v] 28 (0, 0)) := by
  refine ⟨((hown.alloc _).alloc _).drew, by simp [madeW], ?_⟩
  have hlt := lt_of_block hS
  show ((wr.alloc _).alloc _).heap[S]? = _
  rw [Below.heap_alloc _ _ _ (by simp; omega), Below.heap_alloc _ _ _ hlt]
  exact hS

/-- Behind 's.levels = append(s.levels, make([]uint64, need))'. -/
theorem push_done {own : Nat → Prop} {w0 wr w' : World} {S k need O cap : Nat} {v : Value} {L : List (List Nat)} {G C : Nat → Nat} (hL : Lev own wr v L G C) (hlen : L.length = k)
    (hkept : Kept own w0 wr) (hoS : own S) (hnew : ∀ b, w0.heap.size ≤ b → own b) (hn : need ≤ 100000)
    (hbS : w'.heap[S]? = some (.cells #[v] 28 (0, 0))) (hown : w'.ownsRow 0 32 1 (.slice (some ⟨O, 0, none⟩) (k + 1) cap) (k + 1) ((List.range L.length).map (rowVal G C L) ++ [.slice (some ⟨wr.heap.size, 0, none⟩) need need]))
    (hgr : (madeW wr need).grownBy w' v.ownBlock) (hO : v.ownBlock = some O ∨ (madeW wr need).heap.size ≤ O) :
    ∃ G' C', (w'.setCell ⟨S, 0, none⟩ (.slice (some ⟨O, 0, none⟩) (k + 1) cap)).heap[S]? = some (.cells #[.slice (some ⟨O, 0, none⟩) (k + 1) cap] 28 (0, 0)) ∧
      Lev own (w'.setCell ⟨S, 0, none⟩ (.slice (some ⟨O, 0, none⟩) (k + 1) cap)) (.slice (some ⟨O, 0, none⟩) (k + 1) cap) (L ++ [List.replicate need 0]) G' C' ∧
      Kept own w0 (w'.setCell ⟨S, 0, none⟩ (.slice (some ⟨O, 0, none⟩) (k + 1) cap)) := by
  have hsz : (madeW wr need).heap.size = wr.heap.size + 2 := by simp [madeW]
  have hin := hkept.size
  have hkb : ∀ b, b < wr.heap.size → (madeW wr need).heap[b]? = wr.heap[b]? := by
    intro b hb
    show ((wr.alloc _).alloc _).heap[b]? = _
    rw [Below.heap_alloc _ _ _ (by simp; omega), Below.heap_alloc _ _ _ hb]
  have hrow : Row (madeW wr need) wr.heap.size need (List.replicate need 0) := by
    have h1 := World.ownsRow_lit (base := 0) (e := 40) (size := 1) wr (madeCells #[.int .u64 0] need) need (Nat.zero_le _) (by unfold maxLen; omega) (by simp [madeCells])
    rw [toList_madeCells_one] at h1
    have h2 := (h1.alloc (.cells #[.slice (some ⟨wr.heap.size, 0, none⟩) need need] 32)).drew
    unfold Row
    rw [List.length_replicate, List.map_replicate]
    exact h2
  have hoO : own O := by
    rcases hO with h | h
    · exact hL.ownv O h
    · exact hnew O (by omega)
  have hP := hL.push (w2 := madeW wr need) (w' := w') (g := wr.heap.size) (c := need) (O := O) (cap := cap) (ws := List.replicate need 0) hkb (Nat.le_refl _) hrow (hnew _ (by omega)) (by rw [List.length_replicate, hlen]; rw [hlen] at hown; exact hown) hgr hoO
  rw [hlen] at hP
  have hap := set_apart hP hbS
  have hk2 : Kept own w0 (madeW wr need) := ((hkept.alloc _).alloc _).drew
  exact ⟨_, _, one_setCell hbS, hP.setOther (a := ⟨S, 0, none⟩) hap.1 hap.2 _, (hk2.grown hgr (fun b e => hL.ownv b e)).setCell (p := ⟨S, 0, none⟩) hoS _⟩

/-! ### The loop's state, from round to round -/
theorem grow_next {own : Nat → Prop} {w0 wc : World} {S k need : Nat} {T : List (List Nat)} {v : Value} {G C : Nat → Nat} {L : List (List Nat)} {c' : List Nat}
    (hlen : L.length = k) (hT : L ++ build c' = T) (hcl : c'.length = need) (hn : 2 ≤ need) (hn2 : need ≤ 100000) (hfit : Fit c')
    (hS : wc.heap[S]? = some (.cells #[v] 28 (0, 0))) (hL : Lev own wc v (L ++ [c']) G C) (hk : Kept own w0 wc) :
    GrowAt own w0 S T (k + 1) (up need) wc v G C (L ++ [c']) (L ++ [c']) ∧ k + 1 < T.length := by
  have hT' : (L ++ [c']) ++ build (summ c') = T := by rw [← hT, build_more c' (by omega), List.append_assoc]; rfl
  have hlt : k + 1 < T.length := by
    have h2 := (build_length (summ c')).1
    rw [← hT']
    simp
    omega
  refine ⟨⟨by simp [hlen], hk, up_pos _ (by omega), by have := up_le need hn; omega, hlt, hS, hL, .inr ⟨rfl, summ c', hT', by rw [length_summ, hcl], .inr ⟨by omega, c', ?_, rfl, by omega, by omega, hfit⟩⟩⟩, hlt⟩
  rw [show k + 1 - 1 = L.length by omega]
  simp [List.getD_eq_getElem?_getD]

theorem grow_ret {T L : List (List Nat)} {c' : List Nat} (hT : L ++ build c' = T) (hcl : c'.length = 1) : L ++ [c'] = T := by
  rw [← hT, build_one c' (by omega)]

theorem grow_up {own : Nat → Prop} {w0 wc : World} {S k need : Nat} {T : List (List Nat)} {v : Value} {G C : Nat → Nat} {done : List (List Nat)} {c : List Nat}
    (hlen : done.length = k) (hT : done ++ build (pad c need) = T) (hc : 2 ≤ c.length) (hc2 : c.length ≤ 100000) (hn2 : need ≤ 100000)
    (hS : wc.heap[S]? = some (.cells #[v] 28 (0, 0))) (hL : Lev own wc v (done ++ pad c need :: build (summ c)) G C) (hk : Kept own w0 wc) :
    GrowAt own w0 S T (k + 1) (up (pad c need).length) wc v G C ((done ++ [pad c need]) ++ build (summ c)) (done ++ [pad c need]) ∧ k + 1 < T.length := by
  have hpl : (pad c need).length = max c.length need := length_pad c need
  have hT' : (done ++ [pad c need]) ++ build (pad (summ c) (up (pad c need).length)) = T := by
    rw [← hT, (build_pad_more c need hc).2, List.append_assoc]; rfl
  have hlt : k + 1 < T.length := by
    have h2 := (build_length (pad (summ c) (up (pad c need).length))).1
    rw [← hT']
    simp
    omega
  have hup := up_le (pad c need).length (by omega)
  have hup2 := up_le c.length (by omega)
  refine ⟨⟨by simp [hlen], hk, up_pos _ (by omega), by omega, hlt, hS, by rw [List.append_assoc]; exact hL, .inl ⟨summ c, rfl, hT', ?_, ?_, fit_sumN _ _⟩⟩, hlt⟩
  · rw [length_summ]; exact up_pos _ (by omega)
  · rw [length_summ]; omega

end Go.Proofs.Qxb6000573a
