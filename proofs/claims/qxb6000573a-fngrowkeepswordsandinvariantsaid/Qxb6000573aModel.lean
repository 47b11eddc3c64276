/-
  THE MODEL: a set as a function to Bool; what a script makes of it; that the lowest row of words says the same.
-/
import Derived.Test.Qxb6000573aRead
import Derived.OpenShut
namespace Go.Proofs.Qxb6000573a
open Go.RowKit
set_option linter.unusedSimpArgs false
set_option linter.unusedVariables false
open Pl

theorem bitAt_orAt (ws : List Nat) (k i : Nat) (h : k / 64 < ws.length) : bitAt (orAt ws k) i = if i = k then true else bitAt ws i := by
  unfold bitAt orAt
  rw [getD_set]
  by_cases hik : i = k
  · subst hik
    rw [if_pos ⟨rfl, h⟩, if_pos rfl]; simp [Nat.testBit_or]
  · rw [if_neg hik]
    by_cases hd : k / 64 = i / 64
    · rw [if_pos ⟨hd, h⟩, Nat.testBit_or, Nat.testBit_two_pow, hd]
      have : ¬ (k % 64 = i % 64) := by omega
      simp [this]
    · rw [if_neg (fun e => hd e.1)]

theorem bitAt_clrAt (ws : List Nat) (k i : Nat) (hf : Fit ws) (h : k / 64 < ws.length) : bitAt (clrAt ws k) i = if i = k then false else bitAt ws i := by
  unfold bitAt clrAt
  rw [getD_set]
  by_cases hik : i = k
  · subst hik
    rw [if_pos ⟨rfl, h⟩, if_pos rfl, testBit_clr _ _ _ (by omega) (hf _)]; simp
  · rw [if_neg hik]
    by_cases hd : k / 64 = i / 64
    · rw [if_pos ⟨hd, h⟩, testBit_clr _ _ _ (by omega) (hf _), hd]
      have : ¬ (i % 64 = k % 64) := by omega
      simp [this]
    · rw [if_neg (fun e => hd e.1)]

theorem bitAt_pad (ws : List Nat) (n i : Nat) : bitAt (pad ws n) i = bitAt ws i := by unfold bitAt; rw [getD_pad]

theorem bitAt_addW (ws : List Nat) (k i : Nat) : bitAt (addW ws k) i = if i = k then true else bitAt ws i := by
  unfold addW
  rw [bitAt_orAt _ _ _ (by rw [length_pad]; omega), bitAt_pad]

theorem bitAt_ge (ws : List Nat) (i : Nat) (h : ws.length ≤ i / 64) : bitAt ws i = false := by unfold bitAt; rw [getD_ge _ _ h]; simp

theorem bitAt_remW (ws : List Nat) (k i : Nat) (hf : Fit ws) : bitAt (remW ws k) i = if i = k then false else bitAt ws i := by
  unfold remW
  split
  · rename_i h; exact bitAt_clrAt ws k i hf h
  · rename_i h
    split
    · rename_i e; subst e; exact bitAt_ge ws i (by omega)
    · rfl

/-- One op on the model. -/
def opM (f : Nat → Bool) (v : Int) : Nat → Bool := if 0 ≤ v then (fun i => if i = v.toNat then true else f i) else (fun i => if i = (-1 - v).toNat then false else f i)
def runM (zs : List Int) : Nat → Bool := zs.foldl opM (fun _ => false)
theorem runM_take (zs : List Int) (k : Nat) (hk : k < zs.length) : runM (zs.take (k + 1)) = opM (runM (zs.take k)) (zs.getD k 0) := by
  unfold runM
  rw [List.take_succ_eq_append_getElem hk, List.foldl_append]
  simp [List.getD_eq_getElem?_getD, hk]

theorem bitAt_opW (ws : List Nat) (f : Nat → Bool) (v : Int) (hf : Fit ws) (h : ∀ i, bitAt ws i = f i) : ∀ i, bitAt (opW ws v) i = opM f v i := by
  intro i
  unfold opW opM
  split
  · rw [bitAt_addW]; split <;> simp_all
  · rw [bitAt_remW _ _ _ hf]; split <;> simp_all

theorem fold_same (zs : List Int) : ∀ ws f, Fit ws → ws.length ≤ 1025 → keysOK zs = true → (∀ i, bitAt ws i = f i) → ∀ i, bitAt (zs.foldl opW ws) i = zs.foldl opM f i := by
  induction zs with
  | nil => intro ws f _ _ _ h; exact h
  | cons z zs ih =>
    intro ws f h1 h2 h3 h4
    simp only [keysOK, List.all_cons, Bool.and_eq_true, decide_eq_true_eq] at h3
    obtain ⟨q1, q2⟩ := opW_ok ws z h1 h2 h3.1
    exact ih _ _ q1 q2 h3.2 (bitAt_opW ws f z h1 h4)

/-- The set that the script makes has the model's members. -/
theorem bit_model (zs : List Int) (h : keysOK zs = true) (i : Nat) : bitAt (runW zs) i = runM zs i :=
  fold_same zs [] _ fit_nil (by simp) h (fun i => by simp [bitAt]) i

theorem fold_high (zs : List Int) : ∀ f, keysOK zs = true → (∀ i, 65536 < i → f i = false) → ∀ i, 65536 < i → zs.foldl opM f i = false := by
  induction zs with
  | nil => intro f _ h; exact h
  | cons z zs ih =>
    intro f h3 h4
    simp only [keysOK, List.all_cons, Bool.and_eq_true, decide_eq_true_eq] at h3
    refine ih _ h3.2 ?_
    intro i hi
    unfold opM
    split
    · have : ¬ i = z.toNat := by omega
      simp [this, h4 i hi]
    · simp [h4 i hi]
theorem model_high (zs : List Int) (h : keysOK zs = true) (i : Nat) (hi : 65536 < i) : runM zs i = false := fold_high zs _ h (fun _ _ => rfl) i hi

/-! ### The bound on total length, laid by program: six functions of one text -/
theorem zz10_yes (ao : Option Addr) (len cap : Nat) (w : World) (h : len ≤ 1048576) : Calls Try.prog 10 #[.slice ao len cap] w fun e w' => e = .returned (.bool true) ∧ w' = w := by
  go_enter Try.func10, Try.ntmps10
  go_wp2
  go_ret
  exact ⟨rfl, rfl⟩
theorem zz10_no (ao : Option Addr) (len cap : Nat) (w : World) (h : 1048576 < len) : Calls Try.prog 10 #[.slice ao len cap] w fun e w' => e = .returned (.bool false) ∧ w' = w := by
  go_enter Try.func10, Try.ntmps10
  go_wp2
  go_ret
  exact ⟨rfl, rfl⟩

/-- What the shells tell of the script that came in, in this file's words. -/
theorem ints_of_row {w : World} {a : Option Addr} {len cap : Nat} {zs : List Int}
    (h : (a = none ∧ len = 0 ∧ cap = 0 ∧ zs = []) ∨
      ∃ x, a = some x ∧ len ≤ cap ∧ cap ≤ maxLen ∧ zs.length = cap ∧ (∀ i, i < zs.length → w.cell? (x.add i) = some (.int .i64 (zs.getD i 0))) ∧ ∀ n ∈ zs, (Lit.int .i64 n).wf = true) :
    ∃ ys : List Int, ys.length = len ∧ Ints w (.slice a len cap) ys ∧ InRange ys := by
  rcases h with ⟨rfl, rfl, rfl, rfl⟩ | ⟨x, rfl, h1, h2, h3, h4, h5⟩
  · exact ⟨[], rfl, ⟨none, 0, rfl, .inl rfl⟩, by intro z hz; simp at hz⟩
  · have hlen : (zs.take len).length = len := by simp; omega
    have hrange : InRange (zs.take len) := by
      intro z hz
      have := h5 z (List.mem_of_mem_take hz)
      simp [Lit.wf, IntKind.min, IntKind.max, IntKind.bits, IntKind.signed] at this
      omega
    by_cases h0 : 0 < len
    · obtain ⟨b, off, rfl, hc⟩ := ints_at h4 (by omega)
      refine ⟨zs.take len, hlen, ⟨_, cap, by rw [hlen], .inr ⟨b, off, rfl, ?_, fun j hj => ?_⟩⟩, hrange⟩
      · have := hc 0 (by omega)
        exact World.block_lt_of_cell? w ⟨b, off + 0, none⟩ this
      · rw [hlen] at hj
        rw [hc j (by omega)]
        simp [List.getD_eq_getElem?_getD, hj]
    · have e : zs.take len = [] := List.eq_nil_of_length_eq_zero (by omega)
      exact ⟨zs.take len, hlen, ⟨_, cap, by rw [hlen], .inl e⟩, hrange⟩

end Go.Proofs.Qxb6000573a
