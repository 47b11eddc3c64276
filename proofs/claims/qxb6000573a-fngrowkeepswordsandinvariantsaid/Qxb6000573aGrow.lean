/-
  (*Set).grow: its contract.
-/
import Derived.Test.Qxb6000573aGrowMid
import Derived.Test.Qxb6000573aRemove
namespace Go.Proofs.Qxb6000573a
open Go.RowKit
set_option linter.unusedSimpArgs false
set_option linter.unusedVariables false
open Pl

set_option maxRecDepth 20000 in
set_option maxHeartbeats 2000000 in
theorem grow_walk (own : Nat → Prop) (S i : Nat) (T : List (List Nat)) (w : World) (v0 : Value) (G0 C0 : Nat → Nat) (L0 : List (List Nat))
    (hi : i ≤ 6000000) (hnew : ∀ b, w.heap.size ≤ b → own b) (hoS : own S) (hTl : T.length ≤ 100001)
    (hst : GrowAt own w S T 0 (i / 64 + 1) w v0 G0 C0 L0 []) :
    Calls Try.prog 30 #[.pointer (some ⟨S, 0, none⟩), .int .i64 i] w fun e w' => e = .returned (.tuple #[]) ∧ SetIs own w' S T ∧ Kept own w w' := by
  have HS : Hid (GrowAt own w S T 0 (i / 64 + 1) w v0 G0 C0 L0 []) := hst
  have HN : Hid (∀ b, w.heap.size ≤ b → own b) := hnew
  clear hst hnew
  go_enter Try.func30, Try.ntmps30
  go_wp2
  go_loopg [4, 5] T.length (fun gk nd kk wr => ∃ (k need : Nat) (v : Value) (G C : Nat → Nat) (L done : List (List Nat)), nd = .int .i64 need ∧ kk = .int .i64 k ∧ gk = T.length - k ∧ GrowAt own w S T k need wr v G C L done)
  case atStart => exact ⟨0, i / 64 + 1, v0, G0, C0, L0, [], by go_num, rfl, rfl, HS.out⟩
  case round =>
    obtain ⟨k, need, v, G, C, L, done, rfl, rfl, rfl, hdl, hkept, hn1, hn2, hkT, hS, hL, hcase⟩ := hrel
    have hcS := cell_of_one hS
    have hfS := free_of_one hS
    rcases hcase with ⟨c, rfl, hT, hc1, hc2, hfc⟩ | ⟨rfl, c', hT, hcl, hor⟩
    · -- the level is there
      obtain ⟨tc, htc⟩ := build_cons c
      have hlen : k < (done ++ build c).length := by rw [htc, ← hdl]; simp
      have hgd : (done ++ build c).getD k [] = c := by rw [htc, ← hdl]; exact getD_done _ _ _
      rcases hL.shape with ⟨rfl, h⟩ | ⟨O, cap, rfl, hoO, hcap, hcap2⟩
      · exfalso; rw [h] at hlen; simp at hlen
      · have hO := hL.outer_cell hlen
        rw [hgd] at hO
        obtain ⟨n, hn⟩ : ∃ n, (done ++ build c).length = n := ⟨_, rfl⟩
        have hbl := build_length c
        have hnb : n = k + (build c).length := by rw [← hn, List.length_append, hdl]
        rw [hn] at hL hS hcS hcap hlen
        have hnk : n ≤ 200002 := by omega
        have t1 : ((k : Int) == (n : Int)) = false := by rw [beq_eq_false_iff_ne]; omega
        have HP : Hid (wr.heap[S]? = some (.cells #[.slice (some ⟨O, 0, none⟩) n cap] 28 (0, 0)) ∧ Lev own wr (.slice (some ⟨O, 0, none⟩) n cap) (done ++ build c) G C ∧ Kept own w wr ∧ done.length = k ∧ done ++ build (pad c need) = T) := ⟨hS, hL, hkept, hdl, hT⟩
        have hset : (done ++ build c).set k (pad c need) = done ++ pad c need :: tc := by rw [htc, ← hdl]; exact set_done _ _ _ _
        have HQ : Hid (build c = c :: tc ∧ (done ++ build c).getD k [] = c ∧ (done ++ build c).length = n ∧ (done ++ build c).set k (pad c need) = done ++ pad c need :: tc) := ⟨htc, hgd, hn, hset⟩
        have hpl := length_pad c need
        obtain ⟨M, hM⟩ : ∃ M, M = (pad c need).length := ⟨_, rfl⟩
        have hM1 : (M = c.length ∧ need ≤ c.length) ∨ (M = need ∧ c.length < need) := by rw [hM, hpl]; omega
        have HM : Hid (M = (pad c need).length) := hM
        have hGk : ∃ g, G k = g := ⟨_, rfl⟩
        obtain ⟨g, hg⟩ := hGk
        have hCk : ∃ cc, C k = cc := ⟨_, rfl⟩
        obtain ⟨cc, hcc⟩ := hCk
        rw [hg, hcc] at hO
        have HG : Hid (G k = g ∧ C k = cc) := ⟨hg, hcc⟩
        clear hg hcc hpl hM hset hn hS hL hkept hdl hT htc hgd hfS hnb
        rcases hM1 with ⟨hM1, hlt⟩ | ⟨hM1, hlt⟩
        · -- it is long enough
          have HM1 : Hid (M = c.length) := hM1
          have hpc : pad c need = c := pad_le c need hlt
          clear hM1
          by_cases hone : c.length = 1
          · have tb : ((c.length : Int) == 1) = true := by simp [hone]
            have hn1' : n = k + 1 := by
              have h1 := HQ.out.2.2.1
              rw [build_one c (by omega), List.length_append, HP.out.2.2.2.1] at h1
              simpa using h1.symm
            have t2 : ((k : Int) == (n : Int) - 1) = true := by simp [hn1']
            have HF : Hid (c.length = 1 ∧ n = k + 1 ∧ pad c need = c) := ⟨hone, hn1', hpc⟩
            clear hone hn1' hpc
            go_wp2
            refine bodyPost_ret (results_none rfl _ _ _) rfl ?_
            obtain ⟨p1, p2, p3, p4, p5⟩ := HP.out
            have e : done ++ build c = T := by rw [← p5, HF.out.2.2]
            rw [← e]
            exact ⟨rfl, ⟨hoS, _, p1, G, C, p2⟩, p3⟩
          · have hn1' : k + 2 ≤ n := by
              have h1 := HQ.out.2.2.1
              have h2 := (build_length (summ c)).1
              rw [build_more c (by omega), List.length_append, HP.out.2.2.2.1] at h1
              simp at h1
              omega
            have t2 : ((k : Int) == (n : Int) - 1) = false := by rw [beq_eq_false_iff_ne]; omega
            have HF : Hid (pad c need = c) := hpc
            clear hpc
            go_wp2
            obtain ⟨p1, p2, p3, p4, p5⟩ := HP.out
            have hLL : Lev own wr (.slice (some ⟨O, 0, none⟩) n cap) (done ++ pad c need :: build (summ c)) G C := by
              rw [HF.out, ← build_more c (by omega)]; exact p2
            obtain ⟨q1, q2⟩ := grow_up p4 p5 (by omega) hc2 hn2 p1 hLL p3
            rw [HF.out] at q1
            go_roundg (T.length - (k + 1))
            case measure => omega
            case rel => exact ⟨k + 1, up c.length, _, G, C, _, _, by unfold up; go_num, by go_num, rfl, q1⟩
        · -- it must grow
          subst hM1
          have hset2 := HQ.out.2.1
          have hgk : G k = g := HG.out.1
          have hck : C k = cc := HG.out.2
          have hlenA : k < (done ++ build c).length := by rw [HQ.out.2.2.1]; exact hlen
          have HLd : Hid (Lev own wr.drew (.slice (some ⟨O, 0, none⟩) n cap) (done ++ build c) G C ∧ (done ++ build c).getD k [] = c ∧ k < (done ++ build c).length ∧ (∀ b, wr.drew.heap.size ≤ b → own b) ∧ G k = g ∧ C k = cc) :=
            ⟨HP.out.2.1.drew, hset2, hlenA, fun b hb => HN.out b (Nat.le_trans HP.out.2.2.1.size hb), hgk, hck⟩
          have tl : (c.length : Int) < (M : Int) := by omega
          clear hset2 hgk hck hlenA
          go_wp2
          go_cut [5] (fun kk wc => kk = .int .i64 k ∧ ∃ G' C', wc.heap[S]? = some (.cells #[.slice (some ⟨O, 0, none⟩) n cap] 28 (0, 0)) ∧ Lev own wc (.slice (some ⟨O, 0, none⟩) n cap) (done ++ pad c M :: tc) G' C' ∧ Kept own w wc)
          case first =>
            go_region_law (refine step_zeros rfl (.tmp 89) (.tmp 92) rfl own O n cap (done ++ build c) G C k M c (IntKind.i64.wrap ((M : Int) - (c.length : Int))) (by exact HLd.out.1) (by exact HLd.out.2.2.1) (by exact HLd.out.2.1) (by rw [HLd.out.2.2.2.2.1, HLd.out.2.2.2.2.2]; simp [Act.eval, Act.put]) (by simp [Act.eval, Act.put]) (by rw [IntKind.wrap_i64]; omega) hlt (by omega) (by exact HLd.out.2.2.2.1) S (.slice (some ⟨O, 0, none⟩) n cap) (by exact HP.out.1) ?_; intro g' cc' w' hs' hc' hf' HH; rw [HLd.out.2.2.2.2.1, HLd.out.2.2.2.2.2] at hc')
            all_goals (try go_wp2_with fail)
            all_goals go_meet
            all_goals
              obtain ⟨y1, y2⟩ := HH.out
              obtain ⟨p1, p2, p3, p4, p5⟩ := HP.out
              rw [HQ.out.2.2.2] at y2
              have hap := set_apart p2 p1
              have hown := (p2.row k HLd.out.2.2.1).1
              refine ⟨rfl, _, _, ?_, y2, ((p3.drew).grown y1 (fun b e => by cases e; exact hown)).setCell (p := ⟨O, k, none⟩) hoO _⟩
              rw [Below.heap_setCell _ _ _ _ (fun e => hap.2 (by simp [Value.ownBlock]; exact e.symm))]
              rw [y1.block S (by exact lt_of_block p1) (fun e => hap.1 k HLd.out.2.2.1 (by cases e; rfl))]
              exact p1
          case rest =>
            obtain ⟨rfl, G', C', pS, pL, pK⟩ := hcut
            clear hcS hO
            have hcS := cell_of_one pS
            have hlen2 : k < (done ++ pad c M :: tc).length := by rw [← HQ.out.2.2.2, List.length_set, HQ.out.2.2.1]; exact hlen
            have hO := pL.outer_cell hlen2
            have hgd2 : (done ++ pad c M :: tc).getD k [] = pad c M := by rw [← HP.out.2.2.2.1]; exact getD_done _ _ _
            rw [hgd2, ← HM.out] at hO
            have HPP : Hid (wc.heap[S]? = some (.cells #[.slice (some ⟨O, 0, none⟩) n cap] 28 (0, 0)) ∧ Lev own wc (.slice (some ⟨O, 0, none⟩) n cap) (done ++ pad c M :: tc) G' C') := ⟨pS, pL⟩
            generalize G' k = g' at hO
            generalize C' k = cc' at hO
            clear pS pL hlen2 hgd2
            by_cases hone : c.length = 1
            · have tb : ((M : Int) == 1) = false := by rw [beq_eq_false_iff_ne]; omega
              have hn1' : n = k + 1 := by
                have h1 := HQ.out.2.2.1
                rw [build_one c (by omega), List.length_append, HP.out.2.2.2.1] at h1
                simpa using h1.symm
              have t2 : ((k : Int) == (n : Int) - 1) = true := by simp [hn1']
              have HF : Hid (c.length = 1 ∧ n = k + 1) := ⟨hone, hn1'⟩
              have htl : tc = [] := by
                have h1 := HQ.out.1
                rw [build_one c (by omega)] at h1
                simpa using h1.symm
              have HTL : Hid (tc = []) := htl
              clear hone hn1' htl
              go_wp2
              have hLL : Lev own wc (.slice (some ⟨O, 0, none⟩) n cap) (done ++ [pad c M]) G' C' := by
                have := HPP.out.2; rw [HTL.out] at this; exact this
              obtain ⟨q1, q2⟩ := grow_next HP.out.2.2.2.1 HP.out.2.2.2.2 HM.out.symm (by omega) hn2 (fit_pad hfc M) HPP.out.1 hLL pK
              go_roundg (T.length - (k + 1))
              case measure => omega
              case rel => exact ⟨k + 1, up M, _, G', C', _, _, by unfold up; go_num, by go_num, rfl, q1⟩
            · have hn1' : k + 2 ≤ n := by
                have h1 := HQ.out.2.2.1
                have h2 := (build_length (summ c)).1
                rw [build_more c (by omega), List.length_append, HP.out.2.2.2.1] at h1
                simp at h1
                omega
              have t2 : ((k : Int) == (n : Int) - 1) = false := by rw [beq_eq_false_iff_ne]; omega
              have htl : tc = build (summ c) := by
                have h1 := HQ.out.1
                rw [build_more c (by omega)] at h1
                simpa using h1.symm
              have HTL : Hid (tc = build (summ c)) := htl
              clear htl
              go_wp2
              have hLL : Lev own wc (.slice (some ⟨O, 0, none⟩) n cap) (done ++ pad c M :: build (summ c)) G' C' := by
                have := HPP.out.2; rw [HTL.out] at this; exact this
              obtain ⟨q1, q2⟩ := grow_up HP.out.2.2.2.1 HP.out.2.2.2.2 (by omega) hc2 hn2 HPP.out.1 hLL pK
              rw [← HM.out] at q1
              go_roundg (T.length - (k + 1))
              case measure => omega
              case rel => exact ⟨k + 1, up M, _, G', C', _, _, by unfold up; go_num, by go_num, rfl, q1⟩
    · -- a new level
      have hmk := run_make_row' (P := Try.prog) 32 40 (.int .u64 0) 8 Try.underlying32 Try.info40 rfl .i64 .i64 need (by omega) (by omega)
      obtain ⟨ao, cap, rfl⟩ := hL.form hdl
      have hown := hL.outer
      obtain ⟨xs, hxs⟩ : ∃ xs, xs = (List.range L.length).map (rowVal G C L) := ⟨_, rfl⟩
      rw [← hxs, hdl] at hown
      have HX : Hid (xs = (List.range L.length).map (rowVal G C L) ∧ L.length = k ∧ Lev own wr (.slice ao k cap) L G C) := ⟨hxs, hdl, hL⟩
      have HA : Hid ((madeW wr need).ownsRow 0 32 1 (.slice ao k cap) k xs ∧ (madeW wr need).cell? ⟨wr.heap.size + 1, 0, none⟩ = some (.slice (some ⟨wr.heap.size, 0, none⟩) need need) ∧ (madeW wr need).heap[S]? = some (.cells #[.slice ao k cap] 28 (0, 0))) := push_before hS hown
      have hkk : k ≤ 100001 := by omega
      have hcS1 : ∀ o, (wr.alloc o).cell? ⟨S, 0, none⟩ = some (.slice ao k cap) := by
        intro o
        rw [← hcS]
        exact World.cell?_of_block (Below.heap_alloc _ _ _ (lt_of_block hS))
      have hcS2 : ∀ o o', ((wr.alloc o).alloc o').cell? ⟨S, 0, none⟩ = some (.slice ao k cap) := by
        intro o o'
        rw [← hcS1 o]
        exact World.cell?_of_block (Below.heap_alloc _ _ _ (by have := lt_of_block hS; simp; omega))
      have HC : Hid (L ++ build c' = T ∧ c'.length = need ∧ ((k = 0 ∧ c' = List.replicate need 0) ∨ (1 ≤ k ∧ ∃ d, L.getD (k - 1) [] = d ∧ c' = summ d ∧ 2 ≤ d.length ∧ d.length ≤ 100000 ∧ Fit d))) := ⟨hT, hcl, hor⟩
      clear hT hcl hor hL hS hxs hown hdl
      go_wp2
      go_cut [5] (fun kk wc => kk = .int .i64 k ∧ ∃ O' cap' G' C', wc.heap[S]? = some (.cells #[.slice (some ⟨O', 0, none⟩) (k + 1) cap'] 28 (0, 0)) ∧ Lev own wc (.slice (some ⟨O', 0, none⟩) (k + 1) cap') (L ++ [List.replicate need 0]) G' C' ∧ Kept own w wc)
      case first =>
        go_region_law (refine step_push rfl (.tmp 25) (.tmp 28) rfl S (.slice ao k cap) (.slice ao k cap) k xs (by simp [Act.eval, Act.put]) (by exact HA.out.1) (wr.heap.size + 1) (.slice (some ⟨wr.heap.size, 0, none⟩) need need) (by simp [Act.eval, Act.put]) (by exact HA.out.2.1) rfl (by omega) (by exact HA.out.2.2) ?_; intro O' cap' w' hc' hf' HH)
        all_goals (try go_wp2_with fail)
        all_goals go_meet
        all_goals
          obtain ⟨x1, x2, x3⟩ := HX.out
          obtain ⟨y1, y2, y3, y4⟩ := HH.out
          rw [x1] at y2
          obtain ⟨G', C', p1, p2, p3⟩ := push_done (need := need) x3 x2 hkept hoS HN.out hn2 y1 y2 y3 y4
          exact ⟨rfl, O', cap', G', C', p1, p2, p3⟩
      case rest =>
        obtain ⟨rfl, O', cap', G', C', pS, pL, pK⟩ := hcut
        clear hcS hfS hcS1 hcS2 HA hkept
        have hcS := cell_of_one pS
        obtain ⟨hT, hcl, hor⟩ := HC.out
        rcases hor with ⟨rfl, rfl⟩ | ⟨hk1, d, hd, rfl, hd2, hd3, hfd⟩
        · have hgd : (L ++ [List.replicate need 0]).getD 0 [] = List.replicate need 0 := by
            rw [show L = [] from List.eq_nil_of_length_eq_zero HX.out.2.1]; rfl
          have hO := pL.outer_cell (k := 0) (by simp)
          rw [hgd, List.length_replicate] at hO
          generalize G' 0 = g at hO
          generalize C' 0 = cc at hO
          have HT : Hid (L ++ build (List.replicate need 0) = T) := hT
          have HP : Hid (wc.heap[S]? = some (.cells #[.slice (some ⟨O', 0, none⟩) (0 + 1) cap'] 28 (0, 0)) ∧ Lev own wc (.slice (some ⟨O', 0, none⟩) (0 + 1) cap') (L ++ [List.replicate need 0]) G' C') := ⟨pS, pL⟩
          clear hT hcl pS pL hgd HC
          by_cases hne : need = 1
          · have tb : ((need : Int) == 1) = true := by simp [hne]
            have HN1 : Hid (need = 1) := hne
            clear hne
            go_wp2
            refine bodyPost_ret (results_none rfl _ _ _) rfl ?_
            have e := grow_ret HT.out (by simp [HN1.out])
            rw [← e]
            exact ⟨rfl, ⟨hoS, _, HP.out.1, G', C', HP.out.2⟩, pK⟩
          · have tb : ((need : Int) == 1) = false := by rw [beq_eq_false_iff_ne]; omega
            go_wp2
            have hfr : Fit (List.replicate need 0) := by rw [← sumN_zero]; exact fit_sumN _ _
            obtain ⟨q1, q2⟩ := grow_next HX.out.2.1 HT.out (by simp) (by omega) hn2 hfr HP.out.1 HP.out.2 pK
            go_roundg (T.length - (0 + 1))
            case measure => omega
            case rel => exact ⟨0 + 1, up need, _, G', C', _, _, by unfold up; go_num, by go_num, rfl, q1⟩
        · have hlenL : L.length = k := HX.out.2.1
          have hlen1 : k - 1 < (L ++ [List.replicate need 0]).length := by simp; omega
          have hgd1 : (L ++ [List.replicate need 0]).getD (k - 1) [] = d := by
            rw [← hd]; simp only [List.getD_eq_getElem?_getD]; rw [List.getElem?_append_left (by omega)]
          have hO1 := pL.outer_cell hlen1
          rw [hgd1] at hO1
          obtain ⟨gd, hgdd⟩ : ∃ gd, G' (k - 1) = gd := ⟨_, rfl⟩
          obtain ⟨cd, hcdd⟩ : ∃ cd, C' (k - 1) = cd := ⟨_, rfl⟩
          obtain ⟨gn, hgnn⟩ : ∃ gn, G' k = gn := ⟨_, rfl⟩
          obtain ⟨cn, hcnn⟩ : ∃ cn, C' k = cn := ⟨_, rfl⟩
          rw [hgdd, hcdd] at hO1
          have hneed : need = up d.length := by rw [← hcl, length_summ]
          have hnd : ∀ j, j < d.length → j / 64 < need := fun j hj => by rw [hneed]; exact up_lt hj
          have HD : Hid (L ++ build (summ d) = T ∧ (summ d).length = need ∧ L.getD (k - 1) [] = d ∧ G' (k - 1) = gd ∧ C' (k - 1) = cd ∧ G' k = gn ∧ C' k = cn ∧ L.length = k ∧ need = up d.length ∧ (∀ j, j < d.length → j / 64 < need)) := ⟨hT, hcl, hd, hgdd, hcdd, hgnn, hcnn, hlenL, hneed, hnd⟩
          have HP : Hid (wc.heap[S]? = some (.cells #[.slice (some ⟨O', 0, none⟩) (k + 1) cap'] 28 (0, 0)) ∧ Lev own wc (.slice (some ⟨O', 0, none⟩) (k + 1) cap') (L ++ [List.replicate need 0]) G' C') := ⟨pS, pL⟩
          have hk1o : ((k : Int) - 1).toNat = k - 1 := by omega
          clear hT hcl hd pS pL hgdd hcdd hgnn hcnn hlenL hneed hnd hgd1 hlen1 HC HX hk1o
          go_wp2
          go_loopg [43] d.length (fun gj idx wx => ∃ j : Nat, idx = .int .i64 j ∧ gj = d.length - j ∧ j ≤ d.length ∧ wx.heap[S]? = some (.cells #[.slice (some ⟨O', 0, none⟩) (k + 1) cap'] 28 (0, 0)) ∧ Lev own wx (.slice (some ⟨O', 0, none⟩) (k + 1) cap') (L ++ [sumN need (d.take j)]) G' C' ∧ Kept own w wx)
          case atStart => exact ⟨0, rfl, rfl, Nat.zero_le _, HP.out.1, by rw [List.take_zero, sumN_zero]; exact HP.out.2, pK⟩
          case round =>
            obtain ⟨j, rfl, rfl, hj, xS, xL, xK⟩ := hrel
            obtain ⟨d1, d2, d3, d4, d5, d6, d7, d8, d9, d10⟩ := HD.out
            clear hcS hO1
            have hcS := cell_of_one xS
            have hlenk : k < (L ++ [sumN need (d.take j)]).length := by simp; omega
            have hgk : (L ++ [sumN need (d.take j)]).getD k [] = sumN need (d.take j) := by rw [← d8]; exact getD_done _ _ _
            have hO2 := xL.outer_cell hlenk
            rw [hgk, d6, d7, length_sumN] at hO2
            by_cases hlt : j < d.length
            · have hlen1 : k - 1 < (L ++ [sumN need (d.take j)]).length := by simp; omega
              have hgd1 : (L ++ [sumN need (d.take j)]).getD (k - 1) [] = d := by
                rw [← d3]; simp only [List.getD_eq_getElem?_getD]; rw [List.getElem?_append_left (by omega)]
              have hrd := (xL.row (k - 1) hlen1).2
              rw [hgd1, d4, d5] at hrd
              have hcd := hrd.cell hlt
              have hrn := (xL.row k hlenk).2
              rw [hgk, d6, d7] at hrn
              have hj64 := d10 j hlt
              have hcn := hrn.cell (j := j / 64) (by rw [length_sumN]; exact hj64)
              have hfn := hrn.frozen (j / 64)
              have hbits := bits_or ((sumN need (d.take j)).getD (j / 64) 0) j (fit_sumN _ _ _)
              have hownn := (xL.row k hlenk).1
              have hstep := sumN_take need d j hlt hj64
              obtain ⟨x, hx⟩ : ∃ x, x = d.getD j 0 := ⟨_, rfl⟩
              obtain ⟨y, hy⟩ : ∃ y, y = (sumN need (d.take j)).getD (j / 64) 0 := ⟨_, rfl⟩
              obtain ⟨z, hz⟩ : ∃ z, z = y ||| 2 ^ (j % 64) := ⟨_, rfl⟩
              rw [← hy] at hbits hcn
              rw [← hz] at hbits
              rw [← hx] at hcd hstep
              have hLs := xL.store hlenk (j / 64) z
              have hse : (L ++ [sumN need (d.take j)]).set k ((sumN need (d.take j)).set (j / 64) z) = L ++ [orAt (sumN need (d.take j)) j] := by
                rw [← d8, set_done]; unfold orAt; rw [← hy, ← hz]
              rw [hgk, hse, d6] at hLs
              have hap := set_block_kept own xL hlenk xS (j / 64) (word z)
              rw [d6] at hap hownn
              have HJ : Hid (Lev own (wr.setCell ⟨gn, j / 64, none⟩ (word z)) (.slice (some ⟨O', 0, none⟩) (k + 1) cap') (L ++ [orAt (sumN need (d.take j)) j]) G' C' ∧ (wr.setCell ⟨gn, j / 64, none⟩ (word z)).heap[S]? = some (.cells #[.slice (some ⟨O', 0, none⟩) (k + 1) cap'] 28 (0, 0)) ∧ own gn ∧
                sumN need (d.take (j + 1)) = (if x = 0 then sumN need (d.take j) else orAt (sumN need (d.take j)) j) ∧ wr.heap[S]? = some (.cells #[.slice (some ⟨O', 0, none⟩) (k + 1) cap'] 28 (0, 0)) ∧ Lev own wr (.slice (some ⟨O', 0, none⟩) (k + 1) cap') (L ++ [sumN need (d.take j)]) G' C') := ⟨hLs, hap, hownn, hstep, xS, xL⟩
              clear d1 d2 d3 d4 d5 d6 d7 d8 d9 d10 hlenk hgk hlen1 hgd1 hrd hrn hownn hstep hx hy hz hLs hse hap xS xL hfd HP
              by_cases hx0 : x = 0
              · have tb : ((x : Int) != 0) = false := by simp [hx0]
                have HX0 : Hid (x = 0) := hx0
                clear hx0
                go_wp2
                obtain ⟨r1, r2, r3, r4, r5, r6⟩ := HJ.out
                go_roundg (d.length - (j + 1))
                case measure => omega
                case rel => exact ⟨j + 1, by go_num, rfl, by omega, r5, by rw [r4, if_pos HX0.out]; exact r6, xK⟩
              · have tb : ((x : Int) != 0) = true := by simp [hx0]
                have HX0 : Hid (¬ x = 0) := hx0
                clear hx0
                go_wp2
                go_region
                all_goals go_wp2
                all_goals
                  obtain ⟨r1, r2, r3, r4, r5, r6⟩ := HJ.out
                  go_roundg (d.length - (j + 1))
                  case measure => omega
                  case rel => exact ⟨j + 1, by go_num, rfl, by omega, r2, by rw [r4, if_neg HX0.out]; exact r1.drew, (xK.setCell (p := ⟨gn, j / 64, none⟩) r3 (word z)).drew⟩
            · have hje : j = d.length := by omega
              have hsum : sumN need (d.take j) = summ d := by rw [hje, d9, sumN_all]
              rw [hsum] at xL
              have HJ : Hid (wr.heap[S]? = some (.cells #[.slice (some ⟨O', 0, none⟩) (k + 1) cap'] 28 (0, 0)) ∧ Lev own wr (.slice (some ⟨O', 0, none⟩) (k + 1) cap') (L ++ [summ d]) G' C') := ⟨xS, xL⟩
              clear d1 d2 d3 d4 d5 d6 d7 d8 d9 d10 hlenk hgk hje hsum xS xL HP
              by_cases hne : need = 1
              · have tb : ((need : Int) == 1) = true := by simp [hne]
                have HN1 : Hid (need = 1) := hne
                clear hne
                go_wp2
                refine bodyPost_ret (results_none rfl _ _ _) rfl ?_
                have e := grow_ret HD.out.1 (by rw [HD.out.2.1]; exact HN1.out)
                rw [← e]
                exact ⟨rfl, ⟨hoS, _, HJ.out.1, G', C', HJ.out.2⟩, xK⟩
              · have tb : ((need : Int) == 1) = false := by rw [beq_eq_false_iff_ne]; omega
                go_wp2
                obtain ⟨q1, q2⟩ := grow_next HD.out.2.2.2.2.2.2.2.1 HD.out.1 HD.out.2.1 (by omega) hn2 (fit_sumN _ _) HJ.out.1 HJ.out.2 xK
                go_roundg (T.length - (k + 1))
                case measure => omega
                case rel => exact ⟨k + 1, up need, _, G', C', _, _, by unfold up; go_num, by go_num, rfl, q1⟩

/-- ████ (*Set).grow: the lowest row is as long as it must be; the tower above it is right. -/
theorem grow_any (own : Nat → Prop) (S : Nat) (x : Int) (ws : List Nat) (w : World) (hwl : ws.length ≤ 90000) (hfit : Fit ws) (h0 : 0 ≤ x) (h1 : x ≤ 65536) (hnew : ∀ b, w.heap.size ≤ b → own b)
    (hs : SetIs own w S (levels ws)) :
    Calls Try.prog 30 #[.pointer (some ⟨S, 0, none⟩), .int .i64 x] w fun e w' => e = .returned (.tuple #[]) ∧ SetIs own w' S (levels (pad ws (x.toNat / 64 + 1))) ∧ Kept own w w' := by
  obtain ⟨i, rfl⟩ := Int.eq_ofNat_of_zero_le h0
  rw [Int.toNat_natCast]
  obtain ⟨hoS, v, hv, G, C, hL⟩ := hs
  have hpl := length_pad ws (i / 64 + 1)
  have hbl := build_length (pad ws (i / 64 + 1))
  rw [levels_pos (ws := pad ws (i / 64 + 1)) (by omega)]
  refine grow_walk own S i (build (pad ws (i / 64 + 1))) w v G C (levels ws) (by omega) hnew hoS (by omega) ⟨rfl, Kept.refl _ _, by omega, by omega, by omega, hv, hL, ?_⟩
  by_cases hz : ws.length = 0
  · right
    refine ⟨levels_zero hz, List.replicate (i / 64 + 1) 0, ?_, by simp, .inl ⟨rfl, rfl⟩⟩
    have e : pad ws (i / 64 + 1) = List.replicate (i / 64 + 1) 0 := by
      rw [List.eq_nil_of_length_eq_zero hz]; simp [pad]
    rw [e]; rfl
  · left
    exact ⟨ws, by rw [levels_pos (by omega)]; rfl, rfl, by omega, by omega, hfit⟩

end Go.Proofs.Qxb6000573a
