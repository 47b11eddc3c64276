/-
  THE SET's LEVELS IN MEMORY: a slice of slices of words, each row in a block of its own. 'own': which blocks the structure may lie in.
-/
import Derived.WalkKit
import Derived.Test.Qxb6000573aPlain
namespace Go.Proofs.Qxb6000573a
open Go.RowKit
set_option linter.unusedSimpArgs false
set_option linter.unusedVariables false

def word (n : Nat) : Value := .int .u64 (n : Int)

/-- The slice value of row k. -/
def rowVal (G C : Nat → Nat) (L : List (List Nat)) (k : Nat) : Value := .slice (some ⟨G k, 0, none⟩) (L.getD k []).length (C k)

def Row (w : World) (g c : Nat) (ws : List Nat) : Prop := w.ownsRow 0 40 1 (.slice (some ⟨g, 0, none⟩) ws.length c) ws.length (ws.map word)

structure Lev (own : Nat → Prop) (w : World) (v : Value) (L : List (List Nat)) (G C : Nat → Nat) : Prop where
  outer : w.ownsRow 0 32 1 v L.length ((List.range L.length).map (rowVal G C L))
  ownv : ∀ b, v.ownBlock = some b → own b
  row : ∀ k, k < L.length → own (G k) ∧ Row w (G k) (C k) (L.getD k [])
  inj : ∀ i j, i < L.length → j < L.length → G i = G j → i = j

def LevE (own : Nat → Prop) (w : World) (v : Value) (L : List (List Nat)) : Prop := ∃ G C, Lev own w v L G C

/-- The variable s (block S) holds a set whose levels are L. -/
def SetIs (own : Nat → Prop) (w : World) (S : Nat) (L : List (List Nat)) : Prop :=
  own S ∧ ∃ v, w.heap[S]? = some (.cells #[v] 28 (0, 0)) ∧ LevE own w v L

/-- Blocks that are not 'own' are as they were; the streams too. -/
structure Kept (own : Nat → Prop) (w w' : World) : Prop where
  os : w'.os = w.os
  tape : w'.tape = w.tape
  output : w'.output = w.output
  size : w.heap.size ≤ w'.heap.size
  block : ∀ k, k < w.heap.size → ¬ own k → w'.heap[k]? = w.heap[k]?

theorem Kept.refl (own : Nat → Prop) (w : World) : Kept own w w := ⟨rfl, rfl, rfl, Nat.le_refl _, fun _ _ _ => rfl⟩
theorem Kept.trans {own : Nat → Prop} {a b c : World} (h : Kept own a b) (k : Kept own b c) : Kept own a c :=
  ⟨k.os.trans h.os, k.tape.trans h.tape, k.output.trans h.output, Nat.le_trans h.size k.size, fun i hi ho => (k.block i (Nat.lt_of_lt_of_le hi h.size) ho).trans (h.block i hi ho)⟩
theorem Kept.drew {own : Nat → Prop} {a b : World} (h : Kept own a b) : Kept own a b.drew := ⟨h.os, h.tape, h.output, h.size, h.block⟩
theorem Kept.setCell {own : Nat → Prop} {a b : World} (h : Kept own a b) {p : Addr} (hp : own p.block) (u : Value) : Kept own a (b.setCell p u) :=
  h.trans ⟨rfl, rfl, rfl, by simp [World.setCell], fun k _ hk => Below.heap_setCell _ _ _ _ (fun e => hk (e ▸ hp))⟩
theorem Kept.alloc {own : Nat → Prop} {a b : World} (h : Kept own a b) (o : Obj) : Kept own a (b.alloc o) :=
  h.trans ⟨rfl, rfl, rfl, by simp, fun k hk _ => Below.heap_alloc _ _ _ hk⟩
theorem Kept.grown {own : Nat → Prop} {a b c : World} {r : Option Nat} (h : Kept own a b) (hg : b.grownBy c r) (hr : ∀ k, r = some k → own k) : Kept own a c :=
  h.trans ⟨hg.os, hg.tape, hg.output, hg.size, fun k hk ho => hg.block k hk (fun e => ho (hr k e.symm))⟩
theorem Kept.mono {own own' : Nat → Prop} {a b : World} (h : Kept own a b) (hm : ∀ k, k < a.heap.size → own k → own' k) : Kept own' a b :=
  ⟨h.os, h.tape, h.output, h.size, fun k hk ho => h.block k hk (fun e => ho (hm k hk e))⟩
theorem Kept.below {own : Nat → Prop} {a b : World} {B : Nat} (h : Kept own a b) (hB : B ≤ a.heap.size) (ho : ∀ k, k < B → ¬ own k) : Below B a b :=
  ⟨h.os, h.tape, h.output, h.size, fun k hk => h.block k (by omega) (ho k hk)⟩
theorem Kept.of_below {own : Nat → Prop} {a b : World} {B : Nat} (h : Below B a b) (ho : ∀ k, k < a.heap.size → B ≤ k → own k) : Kept own a b :=
  ⟨h.os, h.tape, h.output, h.size, fun k hk hn => h.block k (by rcases Nat.lt_or_ge k B with h' | h'; exact h'; exact absurd (ho k hk h') hn)⟩

theorem ownsRow_same {w w' : World} {base : Nat} {e : TypeId} {size : Nat} {v : Value} {n : Nat} {xs : List Value} (h : w.ownsRow base e size v n xs) (hb : ∀ b, v.ownBlock = some b → w'.heap[b]? = w.heap[b]?) : w'.ownsRow base e size v n xs := by
  obtain ⟨h1, h2⟩ := h
  refine ⟨h1, ?_⟩
  rcases h2 with h2 | ⟨g, cap, cur, hv, hg, hh, r⟩
  · exact Or.inl h2
  · subst hv
    exact Or.inr ⟨g, cap, cur, rfl, hg, by rw [hb g rfl]; exact hh, r⟩

theorem ownsRow_block {w : World} {base : Nat} {e : TypeId} {size : Nat} {v : Value} {n : Nat} {xs : List Value} (h : w.ownsRow base e size v n xs) {b : Nat} (hv : v.ownBlock = some b) : ∃ cur, w.heap[b]? = some (.cells cur e (0, 0)) := by
  rcases h.2 with ⟨rfl, _⟩ | ⟨g, cap, cur, rfl, _, hh, _⟩
  · simp [Value.ownBlock] at hv
  · simp [Value.ownBlock] at hv; subst hv; exact ⟨cur, hh⟩

theorem Row.block {w : World} {g c : Nat} {ws : List Nat} (h : Row w g c ws) : ∃ cur, w.heap[g]? = some (.cells cur 40 (0, 0)) := ownsRow_block h rfl
theorem Row.cell {w : World} {g c : Nat} {ws : List Nat} (h : Row w g c ws) {j : Nat} (hj : j < ws.length) : w.cell? ⟨g, j, none⟩ = some (.int .u64 ((ws.getD j 0 : Nat) : Int)) := by
  have := World.ownsRow.cellAt h j (by omega)
  rw [this]
  simp [word, hj]
theorem Row.frozen {w : World} {g c : Nat} {ws : List Nat} (h : Row w g c ws) (j : Nat) : w.frozen? ⟨g, j, none⟩ = false := World.ownsRow.frozenAt h j
theorem Row.same {w w' : World} {g c : Nat} {ws : List Nat} (h : Row w g c ws) (hb : w'.heap[g]? = w.heap[g]?) : Row w' g c ws := ownsRow_same h (fun b e => by simp [Value.ownBlock] at e; subst e; exact hb)
theorem Row.stored {w : World} {g c : Nat} {ws : List Nat} (h : Row w g c ws) (j x : Nat) : Row (w.setCell ⟨g, j, none⟩ (word x)) g c (ws.set j x) := by
  have := (World.ownsRow.stored h j (word x)).1
  unfold Row
  rw [List.map_set, List.length_set]
  exact this
theorem Row.cap {w : World} {g c : Nat} {ws : List Nat} (h : Row w g c ws) : ws.length ≤ c ∧ c ≤ maxLen := by
  rcases h.2 with ⟨h', _⟩ | ⟨g', cap', cur, h', _, hg, h1, h2, _⟩
  · simp at h'
  · simp only [Value.slice.injEq, Option.some.injEq, Addr.mk.injEq, and_true, true_and] at h'
    obtain ⟨rfl, rfl⟩ := h'
    exact ⟨h1, h2⟩

namespace Lev
variable {own : Nat → Prop} {w : World} {v : Value} {L : List (List Nat)} {G C : Nat → Nat}

theorem block_lt (h : Lev own w v L G C) {k : Nat} (hk : k < L.length) : G k < w.heap.size := by
  obtain ⟨cur, hc⟩ := (h.row k hk).2.block
  exact lt_of_block hc

/-- The outer row's block is none of the inner ones. -/
theorem apart (h : Lev own w v L G C) {k b : Nat} (hk : k < L.length) (hv : v.ownBlock = some b) : G k ≠ b := by
  intro e
  obtain ⟨cur, hc⟩ := (h.row k hk).2.block
  obtain ⟨cur', hc'⟩ := ownsRow_block h.outer hv
  rw [e, hc'] at hc
  simp at hc

theorem same (h : Lev own w v L G C) {w' : World} (hb : ∀ b, own b → b < w.heap.size → w'.heap[b]? = w.heap[b]?) : Lev own w' v L G C := by
  refine ⟨ownsRow_same h.outer (fun b e => hb b (h.ownv b e) ?_), h.ownv, fun k hk => ⟨(h.row k hk).1, (h.row k hk).2.same (hb _ (h.row k hk).1 (h.block_lt hk))⟩, h.inj⟩
  obtain ⟨cur, hc⟩ := ownsRow_block h.outer e
  exact lt_of_block hc

theorem kept (h : Lev own w v L G C) {own' : Nat → Prop} {w' : World} (hk : Kept own' w w') (hd : ∀ b, own b → ¬ own' b) : Lev own w' v L G C :=
  h.same (fun b hb hl => hk.block b hl (hd b hb))

theorem restrict (h : Lev own w v L G C) {own' : Nat → Prop} (hm : ∀ b, b < w.heap.size → own b → own' b) : Lev own' w v L G C := by
  refine ⟨h.outer, fun b e => hm b ?_ (h.ownv b e), fun k hk => ⟨hm _ (h.block_lt hk) (h.row k hk).1, (h.row k hk).2⟩, h.inj⟩
  obtain ⟨cur, hc⟩ := ownsRow_block h.outer e
  exact lt_of_block hc

theorem drew (h : Lev own w v L G C) : Lev own w.drew v L G C := h.same (fun _ _ _ => rfl)

/-- What the slice value is. -/
theorem shape (h : Lev own w v L G C) : (v = .slice none 0 0 ∧ L = []) ∨ ∃ O cap, v = .slice (some ⟨O, 0, none⟩) L.length cap ∧ own O ∧ L.length ≤ cap ∧ cap ≤ maxLen := by
  rcases h.outer.2 with ⟨h1, h2⟩ | ⟨g, cap, cur, h1, _, _, h3, h4, _⟩
  · exact .inl ⟨h1, List.eq_nil_of_length_eq_zero h2⟩
  · exact .inr ⟨g, cap, h1, h.ownv g (by rw [h1]; rfl), h3, h4⟩

theorem outer_cell {O cap n : Nat} (h : Lev own w (.slice (some ⟨O, 0, none⟩) n cap) L G C) {k : Nat} (hk : k < L.length) :
    w.cell? ⟨O, k, none⟩ = some (.slice (some ⟨G k, 0, none⟩) (L.getD k []).length (C k)) := by
  have ho := h.outer
  obtain rfl : n = L.length := by
    rcases ho.2 with ⟨h', _⟩ | ⟨g', cap', cur, h', _⟩
    · simp at h'
    · simp at h'; exact h'.2.1
  have := World.ownsRow.cellAt ho k (by omega)
  rw [this]
  simp [hk, rowVal]

theorem outer_frozen {O cap n : Nat} (h : Lev own w (.slice (some ⟨O, 0, none⟩) n cap) L G C) (k : Nat) : w.frozen? ⟨O, k, none⟩ = false := by
  have ho := h.outer
  obtain rfl : n = L.length := by
    rcases ho.2 with ⟨h', _⟩ | ⟨g', cap', cur, h', _⟩
    · simp at h'
    · simp at h'; exact h'.2.1
  exact World.ownsRow.frozenAt ho k

/-- A store into word j of row k. -/
theorem store (h : Lev own w v L G C) {k : Nat} (hk : k < L.length) (j x : Nat) : Lev own (w.setCell ⟨G k, j, none⟩ (word x)) v (L.set k ((L.getD k []).set j x)) G C := by
  have hlen : ∀ i, ((L.set k ((L.getD k []).set j x)).getD i []).length = (L.getD i []).length := by
    intro i
    by_cases hi : k = i
    · subst hi; simp [List.getD_eq_getElem?_getD, List.getElem?_set, hk]
    · simp [List.getD_eq_getElem?_getD, hi]
  have hrow : rowVal G C (L.set k ((L.getD k []).set j x)) = rowVal G C L := by funext i; simp only [rowVal, hlen]
  refine ⟨?_, h.ownv, ?_, ?_⟩
  · rw [hrow, List.length_set]
    exact ownsRow_same h.outer (fun b e => Below.heap_setCell _ _ _ _ (fun e' => h.apart hk e e'.symm))
  · intro i hi
    rw [List.length_set] at hi
    refine ⟨(h.row i hi).1, ?_⟩
    by_cases hik : k = i
    · subst hik
      have e : (L.set k ((L.getD k []).set j x)).getD k [] = (L.getD k []).set j x := by simp [List.getD_eq_getElem?_getD, List.getElem?_set, hk]
      rw [e]
      exact (h.row k hk).2.stored j x
    · have e : (L.set k ((L.getD k []).set j x)).getD i [] = L.getD i [] := by simp [List.getD_eq_getElem?_getD, hik]
      rw [e]
      exact (h.row i hi).2.same (Below.heap_setCell _ _ _ _ (fun e' => hik (h.inj k i hk hi e'.symm)))
  · intro i j' hi hj
    rw [List.length_set] at hi hj
    exact h.inj i j' hi hj

end Lev
end Go.Proofs.Qxb6000573a
