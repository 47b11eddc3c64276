/-
  TWO LAWS ON append AT A ROW OF THE CALL's OWN: (1) one element more, telling where the new row lies; (2) 'append(s, make([]T, m)...)', which the translation lays as ONE builtin with a NUMBER for its second operand.
-/
import Derived.Test.Qxb6000573aBits
import Derived.WalkKit
import Derived.Deep.RegionLaw
namespace Go.Proofs.Qxb6000573a
open Go.RowKit
set_option linter.unusedSimpArgs false
set_option linter.unusedVariables false

theorem ownsRow_base {w : World} {base : Nat} {e : TypeId} {size : Nat} {v : Value} {n : Nat} {xs : List Value} (h : w.ownsRow base e size v n xs) : w.ownsRow 0 e size v n xs := by
  refine ⟨h.1, ?_⟩
  rcases h.2 with h | ⟨g, cap, cur, a, b, c⟩
  · exact .inl h
  · exact .inr ⟨g, cap, cur, a, Nat.zero_le _, c⟩

section
variable {P : Program} (w : World)

/-- append of something: the value behind it is written out; it lies in the old row's block or in a new one. -/
theorem run_append_told (t ty e : TypeId) (i : TypeInfo) (z : Value) (bytes : Nat) (ht : P.underlying t = some (.slice e)) (hi : P.info? e = some i) (hz : i.zero = some z)
    (hsize : i.size = 1) (hby : i.bytes = bytes) (hzs : z.cells.size = 1)
    (v : Value) (n : Nat) (xs : List Value) (hown : w.ownsRow 0 e 1 v n xs)
    (a : Addr) (m c : Nat) (news : List Value) (hm0 : 0 < m) (hl : news.length = m) (hnews : ∀ j u, news[j]? = some u → w.cell? (a.add j) = some u) (h1 : ∀ u ∈ news, u.oneCell' = true)
    (h63 : n + m ≤ maxLen) (hbytes : (n + m) * bytes ≤ 140737488355328) :
    ∃ O cap w', (Builtin.append_ #[t, t] ty #[v, .slice (some a) m c]).run P w = .ok (.slice (some ⟨O, 0, none⟩) (n + m) cap) w' ∧
      w'.ownsRow 0 e 1 (.slice (some ⟨O, 0, none⟩) (n + m) cap) (n + m) (xs ++ news) ∧ w.grownBy w' v.ownBlock ∧ (v.ownBlock = some O ∨ w.heap.size ≤ O) := by
  rcases hown.2 with ⟨rfl, rfl⟩ | ⟨g, cap, cur, rfl, hbg, hg, hnc, hcm, hcs, htake⟩
  · obtain ⟨v', w', hr, h2, h3, h4⟩ := run_append_own (P := P) w w.heap.size t ty e i z 1 bytes ht hi hz hsize hby hzs (by omega) (.slice none 0 0) 0 [] (World.ownsRow_nil w _ e 1) a m c news (by omega) hnews h1 h63 hbytes (Nat.le_refl _)
    have hx : xs = [] := List.eq_nil_of_length_eq_zero (by simpa using hown.1)
    subst hx
    rcases h2.2 with ⟨e1, e2⟩ | ⟨g, cap, cur, rfl, hb, rest⟩
    · exfalso; have := (h4.1 e1).2; omega
    · exact ⟨g, cap, w', hr, ownsRow_base h2, h3, .inr hb⟩
  · by_cases hroom : n + m ≤ cap
    · obtain ⟨w', hr, h2, h3⟩ := run_append_fits (P := P) w 0 t ty e i 1 ht hi hsize g n cap xs hown a m c news (by omega) hnews h1 hroom
      exact ⟨g, cap, w', hr, h2, h3, .inl rfl⟩
    · have holds : ∀ j u, xs[j]? = some u → w.cell? ((⟨g, 0, none⟩ : Addr).add j) = some u := hown.cells (g := g) rfl
      obtain ⟨v', w', hr, h2, h3⟩ := run_append_arg_grows (P := P) w t ty e i z 1 bytes ht hi hz hsize hby hzs (by omega) ⟨g, 0, none⟩ n cap xs hown.1 holds a m c news (by omega) hnews (by omega) h63 hbytes
      rcases h2.2 with ⟨e1, e2⟩ | ⟨g', cap', cur', rfl, hb, rest⟩
      · exfalso; omega
      · exact ⟨g', cap', w', hr, ownsRow_base h2, ⟨h3.os, h3.tape, h3.output, h3.size, fun k hk _ => h3.block k hk (by simp)⟩, .inr hb⟩

theorem zeroCells_one (z : Value) (hz : z.cells = #[z]) (m : Nat) : Builtin.zeroCells z.cells m = (List.replicate m z).toArray := by
  rw [hz]
  apply Array.ext'
  simp only [Builtin.zeroCells, List.size_toArray, List.length_cons, List.length_nil, Nat.zero_add, Nat.mul_one, Array.toList_map, Array.toList_range]
  apply List.ext_getElem?
  intro j
  by_cases hj : j < m
  · simp [hj, Nat.mod_one]
  · simp [hj]

/-- 'append(s, make([]T, m)...)' as ONE builtin: m zero elements more. -/
theorem run_append_zeros (t ti ty e : TypeId) (i : TypeInfo) (z : Value) (bytes : Nat) (ht : P.underlying t = some (.slice e)) (hti : P.underlying ti = some (.int .i64)) (hi : P.info? e = some i) (hz : i.zero = some z)
    (hsize : i.size = 1) (hby : i.bytes = bytes) (hzs : z.cells = #[z]) (hone : z.oneCell' = true)
    (g n cap : Nat) (xs : List Value) (hown : w.ownsRow 0 e 1 (.slice (some ⟨g, 0, none⟩) n cap) n xs)
    (m : Nat) (hm0 : 0 < m) (h63 : n + m ≤ maxLen) (hbytes : (n + m) * bytes ≤ 140737488355328) :
    ∃ O cap' w', (Builtin.append_ #[t, ti] ty #[.slice (some ⟨g, 0, none⟩) n cap, .int .i64 (m : Int)]).run P w = .ok (.slice (some ⟨O, 0, none⟩) (n + m) cap') w' ∧
      w'.ownsRow 0 e 1 (.slice (some ⟨O, 0, none⟩) (n + m) cap') (n + m) (xs ++ List.replicate m z) ∧ w.grownBy w' (some g) ∧ (O = g ∨ w.heap.size ≤ O) := by
  rcases hown.2 with ⟨h', _⟩ | ⟨g', cap', cur, h', hbg, hg, hnc, hcm, hcs, htake⟩
  · simp at h'
  · simp only [Value.slice.injEq, Option.some.injEq, Addr.mk.injEq, and_true, true_and] at h'
    obtain ⟨rfl, rfl⟩ := h'
    have hsm : n + m ≤ 9223372036854775807 := by simp only [maxLen] at h63; omega
    have hwrap : IntKind.i64.wrap (m : Int) = (m : Int) := by rw [IntKind.wrap_i64]; omega
    have hneg : ¬ ((m : Int) < 0) := by omega
    have hb2 : m * bytes ≤ 140737488355328 := Nat.le_trans (Nat.mul_le_mul_right _ (by omega)) hbytes
    have h48 : ¬ (281474976710656 < (m : Int) * (bytes : Int)) := by
      have : ((m * bytes : Nat) : Int) ≤ 140737488355328 := by omega
      rw [Int.natCast_mul] at this
      omega
    have hmz : ¬ (m = 0) := by omega
    have hzc := zeroCells_one z hzs m
    have hxl : xs.length = n := by have := hown.1; omega
    by_cases hroom : n + m ≤ cap
    · have hst := run_storeCells_at P g n e (List.replicate m z) 0 cur w hg (by simp; omega) (by intro u hu; rw [(List.mem_replicate.1 hu).2]; exact hone)
      simp only [Nat.add_zero] at hst
      have hr : (Builtin.append_ #[t, ti] ty #[.slice (some ⟨g, 0, none⟩) n cap, .int .i64 (m : Int)]).run P w = .ok (.slice (some ⟨g, 0, none⟩) (n + m) cap) (w.setRow g (cur.toList.take n ++ List.replicate m z ++ cur.toList.drop (n + (List.replicate m z).length)).toArray) := by
        simp [Builtin.append_, run_underlying ht, run_underlying hti, sizeOf, typeInfo, zeroValue, hi, hz, asInt, asIntOf, hwrap, hneg, hby, h48, hroom, hsize, hmz, hzc, Addr.add_lit, hst]
      refine ⟨g, cap, _, hr, ⟨by simp [hxl], .inr ⟨g, cap, _, rfl, Nat.zero_le _, setRow_heap w g cur _ e _ hg, hroom, hcm, ?_, ?_⟩⟩, ⟨rfl, rfl, rfl, by simp, fun k _ hk => setRow_other w g k _ (fun e => hk (by simp [e]))⟩, .inl rfl⟩
      · simp only [List.size_toArray, List.length_append, List.length_take, List.length_drop, Array.length_toList, List.length_replicate]
        omega
      · rw [show List.take n cur.toList = xs from by rw [← htake, Nat.mul_one]]
        have hlen : (n + m) * 1 = (xs ++ List.replicate m z).length := by simp [hxl]
        rw [hlen]
        exact List.take_left
    · have hge := grownCap_ge w (n + m) cap e
      have hcm' : grownCap w (n + m) cap e ≤ maxLen := grownCap_le_maxLen w (n + m) cap e h63
      have h63' : ¬ (9223372036854775807 < ((n : Int) + (m : Int))) := by omega
      have h48' : ¬ (281474976710656 < Builtin.nextslicecap (n + m) cap * bytes) := by have := growslice_fits (bytes := bytes) (show cap < n + m by omega) hbytes; omega
      have holds : ∀ j u, xs[j]? = some u → w.drew.cell? ((⟨g, 0, none⟩ : Addr).add j) = some u := by simpa using hown.cells (g := g) rfl
      have hf := run_firstCells_some (P := P) w.drew 1 n ⟨g, 0, none⟩ n cap xs (by omega) holds
      have hr : (Builtin.append_ #[t, ti] ty #[.slice (some ⟨g, 0, none⟩) n cap, .int .i64 (m : Int)]).run P w =
          .ok (.slice (some ⟨w.heap.size, 0, none⟩) (n + m) (grownCap w (n + m) cap e)) (w.drew.alloc (.cells (xs.toArray ++ (List.replicate m z).toArray ++ Builtin.zeroCells z.cells (grownCap w (n + m) cap e - (n + m))) e)) := by
        simp [Builtin.append_, run_underlying ht, run_underlying hti, sizeOf, typeInfo, zeroValue, hi, hz, asInt, asIntOf, hwrap, hneg, hby, h48, hroom, hsize, hmz, hzc, h63', h48', Question.forced, hf, newRow, grownCap]
      refine ⟨w.heap.size, grownCap w (n + m) cap e, _, hr, ⟨by simp [hxl], .inr ⟨w.heap.size, _, _, rfl, Nat.zero_le _, heap_alloc_new w.drew _, hge, hcm', ?_, ?_⟩⟩, ⟨rfl, rfl, rfl, by simp, fun k hk _ => Below.heap_alloc w.drew _ k hk⟩, .inr (Nat.le_refl _)⟩
      · simp only [Array.size_append, List.size_toArray, size_zeroCells, hzs, hxl, List.length_replicate]
        simp; omega
      · simp only [Array.toList_append, List.append_assoc]
        have hlen : (n + m) * 1 = (xs ++ List.replicate m z).length := by simp [hxl]
        rw [← List.append_assoc, hlen]
        exact List.take_left

end
end Go.Proofs.Qxb6000573a
