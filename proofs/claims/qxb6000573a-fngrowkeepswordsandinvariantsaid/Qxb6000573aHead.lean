/-
  THE LAWS' COMMON HEAD: the bound on total length (six functions of one text), the copy, the empty set.
-/
import Derived.Test.Qxb6000573aModel
import Derived.Test.Qxb6000573aHold
namespace Go.Proofs.Qxb6000573a
open Go.RowKit
set_option linter.unusedSimpArgs false
set_option linter.unusedVariables false
open Pl

/-- The empty set, in a new variable. -/
theorem set_new' (w : World) : SetIs (fun b => w.heap.size ≤ b) (w.alloc (.cells #[.slice none 0 0] 28)) w.heap.size (levels []) := by
  refine ⟨Nat.le_refl _, .slice none 0 0, by simpa using heap_alloc_new w (.cells #[.slice none 0 0] 28), fun _ => 0, fun _ => 0, ?_⟩
  rw [levels_zero rfl]
  exact ⟨World.ownsRow_nil _ _ _ _, by intro b e; simp [Value.ownBlock] at e, by intro k hk; simp at hk, by intro i j hi; simp at hi⟩

theorem clone_form (ao : Option Addr) (len cap : Nat) (zs : List Int) (w : World) (hlen : zs.length = len) (hv : Ints w (.slice ao len cap) zs) (hl : len ≤ 131072) :
    Calls Try.prog 12 #[.slice ao len cap] w fun e w' => ∃ ao' cap', e = .returned (.slice ao' len cap') ∧ Hid (Ints w' (.slice ao' len cap') zs) ∧ Below w.heap.size w w' := by
  refine (clone_any _ zs w hv (by omega)).mono ?_
  rintro e w' ⟨v', rfl, ⟨ao', cap', rfl, h⟩, hB⟩
  rw [hlen]
  exact ⟨ao', cap', rfl, ⟨ao', cap', by rw [hlen], h⟩, hB⟩

theorem keys_form (ao : Option Addr) (len cap : Nat) (zs : List Int) (w : World) (hlen : zs.length = len) (hv : Ints w (.slice ao len cap) zs) (hl : len ≤ 131072) {b : Bool} (hb : keysOK zs = b) :
    Calls Try.prog 11 #[.slice ao len cap] w fun e w' => e = .returned (.bool b) ∧ w' = w := by
  have := keys_any _ zs w hv (by omega)
  rw [hb] at this
  exact this

/-- The script, run on a new empty set, in a world 'wr' in which the script's copy lies. -/
theorem run_form (ao : Option Addr) (len cap : Nat) (zs : List Int) (wr : World) (hlen : zs.length = len) (hv : Ints wr (.slice ao len cap) zs) (hl : len ≤ 131072) (hr : InRange zs) (hok : keysOK zs = true) :
    Calls Try.prog 13 #[.pointer (some ⟨wr.heap.size, 0, none⟩), .slice ao len cap] (wr.alloc (.cells #[.slice none 0 0] 28)) fun e w' => e = .returned (.tuple #[]) ∧ Hid (SetIs (fun b => wr.heap.size ≤ b) w' wr.heap.size (levels (runW zs))) ∧ Below wr.heap.size wr w' := by
  refine (run_any (fun b => wr.heap.size ≤ b) wr.heap.size (.slice ao len cap) zs wr (wr.alloc (.cells #[.slice none 0 0] 28)) hv (by omega) hr hok ((Below.refl _ _).alloc (Nat.le_refl _) _) (fun b hb => by show ¬ wr.heap.size ≤ b; omega) (fun b hb => Nat.le_trans (by simp) hb) (set_new' wr)).mono ?_
  rintro e w' ⟨rfl, h1, h2⟩
  exact ⟨rfl, h1, ((Below.refl _ _).alloc (Nat.le_refl _) _).trans (h2.below (by simp) (fun b hb => by show ¬ wr.heap.size ≤ b; omega))⟩

theorem zz16_yes (ao : Option Addr) (len cap : Nat) (w : World) (h : len ≤ 1048576) : Calls Try.prog 16 #[.slice ao len cap] w fun e w' => e = .returned (.bool true) ∧ w' = w := by
  go_enter Try.func16, Try.ntmps16
  go_wp2
  go_ret
  exact ⟨rfl, rfl⟩
theorem zz16_no (ao : Option Addr) (len cap : Nat) (w : World) (h : 1048576 < len) : Calls Try.prog 16 #[.slice ao len cap] w fun e w' => e = .returned (.bool false) ∧ w' = w := by
  go_enter Try.func16, Try.ntmps16
  go_wp2
  go_ret
  exact ⟨rfl, rfl⟩
theorem zz19_yes (ao : Option Addr) (len cap : Nat) (i : Int) (w : World) (h : len ≤ 1048576) : Calls Try.prog 19 #[.slice ao len cap, .int .i64 i] w fun e w' => e = .returned (.bool true) ∧ w' = w := by
  go_enter Try.func19, Try.ntmps19
  go_wp2
  go_ret
  exact ⟨rfl, rfl⟩
theorem zz19_no (ao : Option Addr) (len cap : Nat) (i : Int) (w : World) (h : 1048576 < len) : Calls Try.prog 19 #[.slice ao len cap, .int .i64 i] w fun e w' => e = .returned (.bool false) ∧ w' = w := by
  go_enter Try.func19, Try.ntmps19
  go_wp2
  go_ret
  exact ⟨rfl, rfl⟩
theorem zz23_yes (ao : Option Addr) (len cap : Nat) (i : Int) (w : World) (h : len ≤ 1048576) : Calls Try.prog 23 #[.slice ao len cap, .int .i64 i] w fun e w' => e = .returned (.bool true) ∧ w' = w := by
  go_enter Try.func23, Try.ntmps23
  go_wp2
  go_ret
  exact ⟨rfl, rfl⟩
theorem zz23_no (ao : Option Addr) (len cap : Nat) (i : Int) (w : World) (h : 1048576 < len) : Calls Try.prog 23 #[.slice ao len cap, .int .i64 i] w fun e w' => e = .returned (.bool false) ∧ w' = w := by
  go_enter Try.func23, Try.ntmps23
  go_wp2
  go_ret
  exact ⟨rfl, rfl⟩
theorem zz26_yes (ao : Option Addr) (len cap : Nat) (i : Int) (w : World) (h : len ≤ 1048576) : Calls Try.prog 26 #[.slice ao len cap, .int .i64 i] w fun e w' => e = .returned (.bool true) ∧ w' = w := by
  go_enter Try.func26, Try.ntmps26
  go_wp2
  go_ret
  exact ⟨rfl, rfl⟩
theorem zz26_no (ao : Option Addr) (len cap : Nat) (i : Int) (w : World) (h : 1048576 < len) : Calls Try.prog 26 #[.slice ao len cap, .int .i64 i] w fun e w' => e = .returned (.bool false) ∧ w' = w := by
  go_enter Try.func26, Try.ntmps26
  go_wp2
  go_ret
  exact ⟨rfl, rfl⟩
theorem zz28_yes (ao : Option Addr) (len cap : Nat) (i : Int) (w : World) (h : len ≤ 1048576) : Calls Try.prog 28 #[.slice ao len cap, .int .i64 i] w fun e w' => e = .returned (.bool true) ∧ w' = w := by
  go_enter Try.func28, Try.ntmps28
  go_wp2
  go_ret
  exact ⟨rfl, rfl⟩
theorem zz28_no (ao : Option Addr) (len cap : Nat) (i : Int) (w : World) (h : 1048576 < len) : Calls Try.prog 28 #[.slice ao len cap, .int .i64 i] w fun e w' => e = .returned (.bool false) ∧ w' = w := by
  go_enter Try.func28, Try.ntmps28
  go_wp2
  go_ret
  exact ⟨rfl, rfl⟩

end Go.Proofs.Qxb6000573a
