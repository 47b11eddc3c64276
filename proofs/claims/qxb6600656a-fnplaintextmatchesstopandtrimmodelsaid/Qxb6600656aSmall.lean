/-
  THE SMALL CALLEES of FnPlainTextMatchesStopAndTrimModel: the byte tests, ByteAt, EndsPlainAt, at.
-/
import Derived.Test.Qxb6600656aRows
import Derived.WalkKit
import Derived.ProofKit
import Derived.WalkLawsBesides
import Derived.WalkSpells
import Derived.Deep.QuietTactic
import Derived.BigQuiet
import Derived.Deep.LoopGhost
namespace Go.Proofs.Qxb6600656a
open Go.RowKit
set_option linter.unusedSimpArgs false
set_option linter.unusedVariables false

def blankB (c : Int) : Bool := c == 32 || c == 9
def spaceB (c : Int) : Bool := c == 32 || c == 9 || c == 10 || c == 0
def flowB (c : Int) : Bool := c == 44 || c == 91 || c == 93 || c == 123 || c == 125
def lineB (c : Int) : Bool := c == 10 || c == 0
def hashB (zs : List Int) (start k : Nat) : Bool := decide (start < k) && blankB (zs.getD (k - 1) 0)
/-- The byte at k ends a plain scalar that began at start. -/
def endsB (zs : List Int) (start k : Nat) (fl : Bool) : Bool :=
  lineB (zs.getD k 0) || (zs.getD k 0 == 58 && (spaceB (zs.getD (k + 1) 0) || (fl && flowB (zs.getD (k + 1) 0)))) || (zs.getD k 0 == 35 && hashB zs start k) || (fl && flowB (zs.getD k 0))

theorem space_any (c : Int) (w : World) : Calls Try.prog 31 #[.int .u8 c] w fun e w' => e = .returned (.bool (spaceB c)) ∧ w' = w := by
  have H : Hid (spaceB c = (c == 32 || c == 9 || c == 10 || c == 0)) := rfl
  go_enter Try.func31, Try.ntmps31
  go_wp2
  all_goals go_ret
  all_goals exact ⟨by rw [H.out]; simp_all, rfl⟩
theorem flow_any (c : Int) (w : World) : Calls Try.prog 32 #[.int .u8 c] w fun e w' => e = .returned (.bool (flowB c)) ∧ w' = w := by
  have H : Hid (flowB c = (c == 44 || c == 91 || c == 93 || c == 123 || c == 125)) := rfl
  go_enter Try.func32, Try.ntmps32
  go_wp2
  all_goals go_ret
  all_goals exact ⟨by rw [H.out]; simp_all, rfl⟩
theorem blank_any (c : Int) (w : World) : Calls Try.prog 33 #[.int .u8 c] w fun e w' => e = .returned (.bool (blankB c)) ∧ w' = w := by
  have H : Hid (blankB c = (c == 32 || c == 9)) := rfl
  go_enter Try.func33, Try.ntmps33
  go_wp2
  all_goals go_ret
  all_goals exact ⟨by rw [H.out]; simp_all, rfl⟩
theorem flowM_any (c : Int) (w : World) : Calls Try.prog 27 #[.int .u8 c] w fun e w' => e = .returned (.bool (flowB c)) ∧ w' = w := by
  have H : Hid (flowB c = (c == 44 || c == 91 || c == 93 || c == 123 || c == 125)) := rfl
  go_enter Try.func27, Try.ntmps27
  go_wp2
  all_goals go_ret
  all_goals exact ⟨by rw [H.out]; simp_all, rfl⟩
theorem blankM_any (c : Int) (w : World) : Calls Try.prog 19 #[.int .u8 c] w fun e w' => e = .returned (.bool (blankB c)) ∧ w' = w := by
  have H : Hid (blankB c = (c == 32 || c == 9)) := rfl
  go_enter Try.func19, Try.ntmps19
  go_wp2
  all_goals go_ret
  all_goals exact ⟨by rw [H.out]; simp_all, rfl⟩
theorem zz15_yes (ao : Option Addr) (len cap : Nat) (i : Int) (b : Bool) (w : World) (h : len ≤ 1048576) : Calls Try.prog 15 #[.slice ao len cap, .int .i64 i, .bool b] w fun e w' => e = .returned (.bool true) ∧ w' = w := by
  go_enter Try.func15, Try.ntmps15
  go_wp2
  go_ret
  exact ⟨rfl, rfl⟩
theorem zz15_no (ao : Option Addr) (len cap : Nat) (i : Int) (b : Bool) (w : World) (h : 1048576 < len) : Calls Try.prog 15 #[.slice ao len cap, .int .i64 i, .bool b] w fun e w' => e = .returned (.bool false) ∧ w' = w := by
  go_enter Try.func15, Try.ntmps15
  go_wp2
  go_ret
  exact ⟨rfl, rfl⟩

/-- The slice value v holds the bytes zs, in a block below B. -/
def Bytes (B : Nat) (w : World) (v : Value) (zs : List Int) : Prop :=
  ∃ ao cap, v = .slice ao zs.length cap ∧ zs.length ≤ cap ∧ (zs = [] ∨ ∃ b off, ao = some ⟨b, off, none⟩ ∧ b < B ∧ ∀ j, j < zs.length → w.cell? ⟨b, off + j, none⟩ = some (.int .u8 (zs.getD j 0)))

theorem Bytes.below {B B' : Nat} {w w' : World} {v : Value} {zs : List Int} (h : Bytes B w v zs) (hb : Below B w w') (hB : B ≤ B') : Bytes B' w' v zs := by
  obtain ⟨ao, cap, rfl, hc, h⟩ := h
  refine ⟨ao, cap, rfl, hc, ?_⟩
  rcases h with h | ⟨b, off, h1, h2, h3⟩
  · exact .inl h
  · exact .inr ⟨b, off, h1, by omega, fun j hj => (hb.cell (p := ⟨b, off + j, none⟩) h2).trans (h3 j hj)⟩

theorem Bytes.at {B : Nat} {w : World} {ao : Option Addr} {n cap : Nat} {zs : List Int} (h : Bytes B w (.slice ao n cap) zs) {k : Nat} (hk : k < n) :
    ∃ b off, ao = some ⟨b, off, none⟩ ∧ b < B ∧ ∀ j, j < n → w.cell? ⟨b, off + j, none⟩ = some (.int .u8 (zs.getD j 0)) := by
  obtain ⟨ao', cap', h1, hc, h⟩ := h
  simp at h1
  obtain ⟨rfl, rfl, rfl⟩ := h1
  rcases h with rfl | h
  · simp at hk
  · exact h

/-- ByteAt. -/
theorem byteM_any (B : Nat) (ao : Option Addr) (n cap : Nat) (zs : List Int) (x : Int) (w : World) (hb : Bytes B w (.slice ao n cap) zs) (hn : zs.length = n) (h0 : 0 ≤ x) (h1 : x ≤ 2000000) (hnn : n ≤ 1048576) :
    Calls Try.prog 26 #[.slice ao n cap, .int .i64 x] w fun e w' => e = .returned (.int .u8 (zs.getD x.toNat 0)) ∧ w' = w := by
  obtain ⟨k, rfl⟩ := Int.eq_ofNat_of_zero_le h0
  rw [Int.toNat_natCast]
  by_cases hk : k < n
  · obtain ⟨b, off, rfl, _, hc⟩ := hb.at hk
    have hcell := hc k hk
    clear hc hb hn
    generalize zs.getD k 0 = c at *
    go_enter Try.func26, Try.ntmps26
    go_wp2
    go_ret
    exact ⟨rfl, rfl⟩
  · have e : zs.getD k 0 = 0 := by rw [List.getD_eq_getElem?_getD, List.getElem?_eq_none (by omega)]; rfl
    rw [e]
    clear hb hn e
    go_enter Try.func26, Try.ntmps26
    go_wp2
    go_ret
    exact ⟨rfl, rfl⟩

end Go.Proofs.Qxb6600656a
