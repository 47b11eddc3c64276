/-
  isIdentifier and its model: their contracts.
-/
import Derived.Test.Qxb6601179aRows
import Derived.WalkKit
import Derived.ProofKit
import Derived.WalkLawsBesides
import Derived.WalkSpells
import Derived.Laws.IdiomStrings
import Derived.Laws.BitsAllLaws
import Derived.Deep.LoopGhost
namespace Go.Proofs.Qxb6601179a
open Go.RowKit
set_option linter.unusedSimpArgs false
set_option linter.unusedVariables false

def byteN (s : ByteArray) (k : Nat) : Nat := (s.data.toList.getD k 0).toNat
theorem byteN_lt (s : ByteArray) (k : Nat) : byteN s k < 256 := UInt8.toNat_lt _
theorem byteN_at (s : ByteArray) (k : Nat) (h : k < s.size) : (s[k]'h).toNat = byteN s k := by
  unfold byteN
  have h' : k < s.data.toList.length := by simpa using h
  rw [List.getD_eq_getElem?_getD, List.getElem?_eq_getElem h']
  simp
  rfl

def digB (n : Nat) : Bool := decide (48 ≤ n) && decide (n ≤ 57)
def lowB (n : Nat) : Bool := decide (97 ≤ n) && decide (n ≤ 122)
def capB (n : Nat) : Bool := decide (65 ≤ n) && decide (n ≤ 90)
def letB (n : Nat) : Bool := (n == 95) || lowB n || capB n
def wordB (n : Nat) : Bool := letB n || digB n

def okAt (s : ByteArray) (k : Nat) : Bool := letB (byteN s k) || (decide (k ≠ 0) && digB (byteN s k))
def allTo (s : ByteArray) : Nat → Bool
  | 0 => true
  | k + 1 => allTo s k && okAt s k
def identB (s : ByteArray) : Bool := decide (s.size ≠ 0) && allTo s s.size

theorem allTo_false (s : ByteArray) (k : Nat) (h : okAt s k = false) : ∀ m, k < m → allTo s m = false := by
  intro m
  induction m with
  | zero => intro h; omega
  | succ m ih =>
    intro hm
    unfold allTo
    by_cases e : k = m
    · subst e; rw [h]; simp
    · rw [ih (by omega)]; rfl

theorem ident_false (s : ByteArray) (k : Nat) (hk : k < s.size) (h : okAt s k = false) : identB s = false := by
  unfold identB; rw [allTo_false s k h s.size hk]; simp
theorem ident_zero (s : ByteArray) (h : s.size = 0) : identB s = false := by unfold identB; simp [h]
theorem ident_all (s : ByteArray) (h : s.size ≠ 0) (h2 : allTo s s.size = true) : identB s = true := by unfold identB; rw [h2]; simp [h]

theorem dig_sub : ∀ n : Nat, n < 256 → (decide ((n + 208) % 256 < 10) = digB n) := by
  intro n h
  unfold digB
  rw [Bool.eq_iff_iff]; simp; omega
set_option maxRecDepth 100000 in
theorem low_or : ∀ n : Fin 256, (decide (((n.val ||| 32) + 159) % 256 < 26) = (lowB n.val || capB n.val)) := by decide
theorem or_lt (n : Nat) (h : n < 256) : n ||| 32 < 256 := Nat.or_lt_two_pow (n := 8) h (by omega)

theorem wrap_sub (n c d : Nat) (h : c + d = 256) : IntKind.u8.wrap ((n : Int) - (c : Int)) = (((n + d) % 256 : Nat) : Int) := by
  rw [IntKind.wrap_u8]; omega

set_option maxHeartbeats 400000 in
theorem word_any (n : Nat) (h : n < 256) (w : World) : Calls Try.prog 13 #[.int .u8 (n : Int)] w fun e w' => e = .returned (.bool (wordB n)) ∧ w' = w := by
  have s1 : IntKind.u8.wrap ((n : Int) - 48) = (((n + 208) % 256 : Nat) : Int) := wrap_sub n 48 208 rfl
  have s2 : bits .or .u8 (n : Int) 32 = ((n ||| 32 : Nat) : Int) := u8_or_nat n 32 h (by omega)
  have s3 : IntKind.u8.wrap (((n ||| 32 : Nat) : Int) - 97) = ((((n ||| 32) + 159) % 256 : Nat) : Int) := wrap_sub (n ||| 32) 97 159 rfl
  have f1 := dig_sub n h
  have f2 := low_or ⟨n, h⟩
  simp only at f2
  obtain ⟨l, hl⟩ : ∃ l, n ||| 32 = l := ⟨_, rfl⟩
  rw [hl] at s2 s3 f2
  obtain ⟨d1, hd1⟩ : ∃ d, (n + 208) % 256 = d := ⟨_, rfl⟩
  obtain ⟨d2, hd2⟩ : ∃ d, (l + 159) % 256 = d := ⟨_, rfl⟩
  rw [hd1] at s1 f1
  rw [hd2] at s3 f2
  have HF : Hid (decide (d1 < 10) = digB n ∧ decide (d2 < 26) = (lowB n || capB n)) := ⟨f1, f2⟩
  clear f1 f2 hd1 hd2 hl
  by_cases h95 : ((n : Int) == 95) = true
  · have HE : Hid (wordB n = true) := by
      have e : n = 95 := by have : (n : Int) = 95 := by simpa using h95
                            omega
      rw [e]; rfl
    go_enter Try.func13, Try.ntmps13
    go_wp2
    go_ret
    rw [HE.out]
    exact ⟨rfl, rfl⟩
  have h95' : ((n : Int) == 95) = false := by simpa using h95
  have hne : n ≠ 95 := by intro e; apply h95; rw [e]; rfl
  have HNE : Hid (n ≠ 95) := hne
  clear h95 hne
  by_cases hd : d1 < 10
  · have HE : Hid (wordB n = true) := by
      show wordB n = true
      unfold wordB
      rw [← HF.out.1]; simp [hd]
    go_enter Try.func13, Try.ntmps13
    go_wp2
    go_ret
    rw [HE.out]
    exact ⟨rfl, rfl⟩
  · have HE : Hid (wordB n = decide ((d2 : Int) < 26)) := by
      show wordB n = decide ((d2 : Int) < 26)
      have e95 : (n == 95) = false := by rw [beq_eq_false_iff_ne]; exact HNE.out
      have e2 : decide ((d2 : Int) < 26) = decide (d2 < 26) := by rw [Bool.eq_iff_iff]; simp; omega
      unfold wordB letB
      rw [← HF.out.1, e2, HF.out.2, e95]
      simp [hd]
    go_enter Try.func13, Try.ntmps13
    go_wp2
    go_ret
    rw [HE.out]
    exact ⟨rfl, rfl⟩

/-! ### The model -/
theorem okAt_word (s : ByteArray) (k : Nat) (h0 : digB (byteN s 0) = false) : okAt s k = wordB (byteN s k) := by
  unfold okAt wordB
  by_cases e : k = 0
  · subst e; rw [h0]; simp
  · simp [e]
theorem okAt_first (s : ByteArray) (h0 : digB (byteN s 0) = true) : okAt s 0 = false := by
  have hn : letB (byteN s 0) = false := by
    unfold digB at h0
    simp at h0
    generalize byteN s 0 = n at *
    unfold letB lowB capB
    have e : (n == 95) = false := by rw [beq_eq_false_iff_ne]; omega
    rw [e]
    simp; omega
  unfold okAt
  rw [hn]; simp

set_option maxHeartbeats 400000 in
theorem model_any (s : ByteArray) (hs : s.size ≤ 1048576) (w : World) : Calls Try.prog 8 #[.string s] w fun e w' => e = .returned (.bool (identB s)) ∧ w' = w := by
  by_cases hz : s.size = 0
  · have HE : Hid (identB s = false) := ident_zero s hz
    have t1 : ((s.size : Int) == 0) = true := by simp [hz]
    clear hz
    go_enter Try.func8, Try.ntmps8
    go_wp2
    go_ret
    rw [HE.out]
    exact ⟨rfl, rfl⟩
  have hp : 0 < s.size := by omega
  have t1 : ((s.size : Int) == 0) = false := by rw [beq_eq_false_iff_ne]; omega
  have e0 := byteN_at s 0 hp
  have hlt0 := byteN_lt s 0
  obtain ⟨n0, hn0⟩ : ∃ n, byteN s 0 = n := ⟨_, rfl⟩
  rw [hn0] at e0 hlt0
  have s1 : IntKind.u8.wrap ((n0 : Int) - 48) = (((n0 + 208) % 256 : Nat) : Int) := wrap_sub n0 48 208 rfl
  have f1 := dig_sub n0 hlt0
  obtain ⟨d1, hd1⟩ : ∃ d, (n0 + 208) % 256 = d := ⟨_, rfl⟩
  rw [hd1] at s1 f1
  have HF : Hid (decide (d1 < 10) = digB n0 ∧ byteN s 0 = n0) := ⟨f1, hn0⟩
  clear hd1 f1 hn0 hz
  by_cases hd : d1 < 10
  · have HE : Hid (identB s = false) := ident_false s 0 hp (okAt_first s (by rw [HF.out.2, ← HF.out.1]; simp [hd]))
    go_enter Try.func8, Try.ntmps8
    go_wp2
    go_ret
    rw [HE.out]
    exact ⟨rfl, rfl⟩
  · have H0 : Hid (digB (byteN s 0) = false) := by
      show digB (byteN s 0) = false
      rw [HF.out.2, ← HF.out.1]; simp [hd]
    go_enter Try.func8, Try.ntmps8
    go_wp2
    go_loopg [3] s.size (fun gk ii wr => ∃ k : Nat, k ≤ s.size ∧ ii = .int .i64 k ∧ gk = s.size - k ∧ allTo s k = true ∧ w = wr)
    case atStart => exact ⟨0, Nat.zero_le _, rfl, rfl, rfl, rfl⟩
    case round =>
      obtain ⟨k, hk, rfl, rfl, hall, rfl⟩ := hrel
      have HA : Hid (allTo s k = true) := hall
      clear hall
      by_cases hlt : k < s.size
      · have ek := byteN_at s k hlt
        have hltk := byteN_lt s k
        obtain ⟨n, hn⟩ : ∃ n, byteN s k = n := ⟨_, rfl⟩
        rw [hn] at ek hltk
        have hok := okAt_word s k H0.out
        rw [hn] at hok
        obtain ⟨b, hb⟩ : ∃ b, wordB n = b := ⟨_, rfl⟩
        have HW : Hid (Calls Try.prog 13 #[.int .u8 (n : Int)] w fun e w' => e = .returned (.bool b) ∧ w' = w) := by rw [← hb]; exact word_any n hltk w
        have HO : Hid (okAt s k = b) := hok.trans hb
        clear hn hok hb
        cases b with
        | true =>
          go_wp2_with fail
          refine HW.out.mono ?_
          rintro e w1 ⟨rfl, hw⟩
          obtain rfl := hw.symm
          go_wp2
          go_roundg (s.size - (k + 1))
          case measure => omega
          case rel => exact ⟨k + 1, by omega, by go_num, rfl, by unfold allTo; rw [HA.out, HO.out]; rfl, rfl⟩
        | false =>
          go_wp2_with fail
          refine HW.out.mono ?_
          rintro e w1 ⟨rfl, hw⟩
          obtain rfl := hw.symm
          go_wp2
          go_ret
          rw [ident_false s k hlt HO.out]
          exact ⟨rfl, rfl⟩
      · have hke : k = s.size := by omega
        go_wp2
        go_ret
        have := HA.out
        rw [hke] at this
        rw [ident_all s (by omega) this]
        exact ⟨rfl, rfl⟩

end Go.Proofs.Qxb6601179a
