/-
  CopyBytes, ZZPlainText.
-/
import Derived.Test.Qxb6600656aText
import Derived.Deep.OwnRows
import Derived.Laws.CopyOwn
namespace Go.Proofs.Qxb6600656a
open Go.RowKit
set_option linter.unusedSimpArgs false
set_option linter.unusedVariables false

theorem Try.info5 : (Try.prog.info? 5).map (fun i => (i.zero, i.size, i.bytes)) = some (some (.int .u8 0), 1, 1) := by kernel_rfl
theorem Try.size5 : (Try.prog.info? 5).map (·.size) = some 1 := by kernel_rfl

/-- What the copy is: nil of nil; else a new row that holds the bytes. -/
def Copied (w' : World) (v' : Value) (zs : List Int) : Prop :=
  (v' = .slice none 0 0 ∧ zs = []) ∨ ∃ g, v' = .slice (some ⟨g, 0, none⟩) zs.length zs.length ∧ g < w'.heap.size ∧ ∀ j, j < zs.length → w'.cell? ⟨g, j, none⟩ = some (.int .u8 (zs.getD j 0))

theorem made_list (n : Nat) : madeCells #[Value.int .u8 0] n = (List.replicate n (Value.int .u8 0)).toArray := by
  apply Array.ext'
  rw [toList_madeCells_one]

theorem u8_oneCell (zs : List Int) : ∀ v ∈ zs.map (Value.int .u8), v.oneCell' = true := by
  intro u hu
  obtain ⟨_, _, rfl⟩ := List.mem_map.1 hu
  rfl

set_option maxHeartbeats 400000 in
theorem copy_any (ao : Option Addr) (n cap : Nat) (zs : List Int) (w : World) (hn : zs.length = n) (hnn : n ≤ 1048576) (hsrc : 0 < n → ∃ ad, ao = some ad ∧ ∀ j, j < n → w.cell? (ad.add j) = some (.int .u8 (zs.getD j 0))) :
    Calls Try.prog 16 #[.slice ao n cap] w fun e w' => ∃ v', e = .returned v' ∧ Copied w' v' zs ∧ Below w.heap.size w w' := by
  have hnil := fun wx a n c => Lib.run_eql_slice_nil (P := Try.prog) wx 27 5 a n c 0 0 Try.underlying27
  cases ao with
  | none =>
    have hz : zs = [] := by
      rcases Nat.eq_zero_or_pos n with h | h
      · exact List.eq_nil_of_length_eq_zero (by omega)
      · obtain ⟨ad, h1, _⟩ := hsrc h; simp at h1
    have HZ : Hid (zs = []) := hz
    clear hz hsrc hn
    go_enter Try.func16, Try.ntmps16
    go_wp2
    go_ret
    exact ⟨_, rfl, .inl ⟨rfl, HZ.out⟩, Below.refl _ _⟩
  | some a =>
    have hmk := run_make_row' (P := Try.prog) 27 5 (.int .u8 0) 1 Try.underlying27 Try.info5 rfl .i64 .i64 n (by omega) (by omega)
    obtain ⟨cs, hcs⟩ : ∃ cs, cs = zs.map (Value.int .u8) := ⟨_, rfl⟩
    have hcl : cs.length = n := by rw [hcs]; simp [hn]
    have HS : Hid ((w.alloc (.cells (madeCells #[.int .u8 0] n) 5)).heap[w.heap.size]? = some (.cells (List.replicate n (Value.int .u8 0)).toArray 5 (0, 0)) ∧ cs.length = Nat.min n n ∧
        (0 < cs.length → (some (⟨w.heap.size, 0, none⟩ : Addr)) = some ⟨w.heap.size, 0, none⟩ ∧ ∃ ad, some a = some ad ∧ ∀ j v, cs[j]? = some v → (w.alloc (.cells (madeCells #[.int .u8 0] n) 5)).cell? (ad.add j) = some v) ∧
        0 + cs.length ≤ (List.replicate n (Value.int .u8 0)).length ∧ (∀ v ∈ cs, v.oneCell' = true) ∧ Below w.heap.size w (w.alloc (.cells (madeCells #[.int .u8 0] n) 5))) := by
      refine ⟨by rw [← made_list]; exact heap_alloc_new w _, by rw [hcl]; simp, fun h0 => ⟨rfl, ?_⟩, by simp [hcl], by rw [hcs]; exact u8_oneCell zs, (Below.refl _ _).alloc (Nat.le_refl _) _⟩
      obtain ⟨ad, h1, h2⟩ := hsrc (by omega)
      refine ⟨ad, h1, fun j v hv => ?_⟩
      have hj : j < n := by
        have := (List.getElem?_eq_some_iff.1 hv).1
        omega
      have hcell := h2 j hj
      rw [hcs] at hv
      simp [show j < zs.length by omega] at hv
      rw [← hv]
      have hlt := World.block_lt_of_cell? w (ad.add j) hcell
      rw [World.cell?_of_block (w := w) (Below.heap_alloc w _ _ hlt), hcell]
      simp [show j < zs.length by omega]
    have HC : Hid (cs = zs.map (Value.int .u8) ∧ zs.length = n) := ⟨hcs, hn⟩
    clear hcs hcl hn hsrc
    go_enter Try.func16, Try.ntmps16
    go_wp2_with (refine wpList_copy_splice rfl (.tmp 9) (.tmp 10) 27 27 rfl 5 Try.underlying27 Try.size5 (some ⟨w.heap.size, 0, none⟩) (some a) n n n cap rfl rfl w.heap.size 0 (List.replicate n (Value.int .u8 0)) 5 (by exact HS.out.1) cs (by exact HS.out.2.1) (by exact HS.out.2.2.1) (by exact HS.out.2.2.2.1) (by exact HS.out.2.2.2.2.1) w.heap.size w (by exact HS.out.2.2.2.2.2) (Nat.le_refl _) ?_; intro w2 hg2 hb2)
    go_ret
    refine ⟨_, rfl, .inr ⟨w.heap.size, by rw [HC.out.2]; rfl, ?_, fun j hj => ?_⟩, hb2⟩
    · exact lt_of_block hg2.out
    · have hsp : splice (List.replicate n (Value.int .u8 0)) 0 cs = cs := by
        have := HC.out.2
        rw [HC.out.1]
        simp [splice, this]
      have h := hg2.out
      rw [hsp, HC.out.1] at h
      simp [World.cell?, h, hj]

set_option maxRecDepth 20000 in
set_option maxHeartbeats 1000000 in
/-- plainText over a nil stream. -/
theorem text_nil (w0 : World) (Pb : Nat) (fl : Bool) (w : World) (hp : PS w0 w Pb (.slice none 0 0) 0) :
    Calls Try.prog 25 #[.pointer (some ⟨Pb, 0, none⟩), .bool fl] w fun e w' => ∃ stop en, Found [] 0 fl stop en ∧ e = .returned (.string (strOfNums (cut [] 0 en))) ∧ PS w0 w' Pb (.slice none 0 0) en := by
  have HP : Hid (PS w0 w Pb (.slice none 0 0) 0) := hp
  have HB : Hid (Bytes Pb w0 (.slice none 0 0) []) := ⟨none, 0, rfl, Nat.le_refl _, .inl rfl⟩
  have c0 := hp.c0
  have c1 := hp.c1
  have f1 := hp.f1
  have H0 : Hid (∀ m, Calls Try.prog 30 #[.pointer (some ⟨Pb, 0, none⟩), .int .i64 0] (w.drewN m) fun e w' => e = .returned (.int .u8 0) ∧ ∃ m', w' = w.drewN m') := by
    intro m
    refine (at_any w0 Pb none 0 0 [] 0 0 (w.drewN m) (hp.drewN m) HB.out rfl (by omega) (Nat.le_refl _) (by omega)).mono ?_
    rintro e w' ⟨rfl, m', rfl⟩
    exact ⟨rfl, _, World.drewN_drewN _ _ _⟩
  have hcv : ∀ m ao, (convert 27 9 (.slice ao 0 0)).run Try.prog ((w.drewN m).setCell ⟨Pb, 1, none⟩ (.int .i64 0)) = .ok (.string (strOfNums (cut [] 0 0))) ((w.drewN m).setCell ⟨Pb, 1, none⟩ (.int .i64 0)) := fun m ao => conv_none ao 0 _ [] 0
  obtain ⟨S, hS⟩ : ∃ S, strOfNums (cut [] 0 0) = S := ⟨_, rfl⟩
  rw [hS] at hcv
  have HSS : Hid (strOfNums (cut [] 0 0) = S) := hS
  have HF : Hid (Found [] 0 fl 0 0) := ⟨Nat.le_refl _, Nat.le_refl _, Nat.le_refl _, fun k h1 h2 => by omega, ends_past (Nat.le_refl _), fun k h1 h2 => by omega, .inl rfl⟩
  have HPut : Hid (∀ m, PS w0 ((w.drewN m).setCell ⟨Pb, 1, none⟩ (.int .i64 0)) Pb (.slice none 0 0) 0) := fun m => (hp.drewN m).put 0
  clear hp hS
  go_enter Try.func25, Try.ntmps25
  go_wp2
  go_quiet (fail)
  go_wp2
  go_loopg [6] 0 (fun gk ee wr => gk = 0 ∧ ee = .int .i64 0 ∧ ∃ m, w.drewN m = wr)
  case atStart => exact ⟨rfl, rfl, _, rfl⟩
  case round =>
    obtain ⟨rfl, rfl, m, rfl⟩ := hrel
    go_wp2_with fail
    refine (H0.out _).mono ?_
    rintro e w1 ⟨rfl, m1, rfl⟩
    go_wp2
    go_ret
    exact ⟨0, 0, HF.out, by rw [HSS.out]; rfl, HPut.out _⟩

set_option maxRecDepth 20000 in
set_option maxHeartbeats 1000000 in
theorem zztext_any (v : Value) (zs : List Int) (st : Nat) (fl : Bool) (w : World) (hv : Copied w v zs) (hnn : zs.length ≤ 1048576) (hst : st ≤ zs.length) :
    Calls Try.prog 17 #[v, .int .i64 (st : Int), .bool fl] w fun e w' => ∃ stop en, Found zs st fl stop en ∧ e = .returned (.tuple #[.string (strOfNums (cut zs st en)), .int .i64 (en : Int)]) ∧ Below w.heap.size w w' := by
  have HT : Hid (∀ wx, PS w wx w.heap.size v st → Calls Try.prog 25 #[.pointer (some ⟨w.heap.size, 0, none⟩), .bool fl] wx fun e w' => ∃ stop en, Found zs st fl stop en ∧ e = .returned (.string (strOfNums (cut zs st en))) ∧ PS w w' w.heap.size v en) := by
    intro wx hps
    rcases hv with ⟨rfl, rfl⟩ | ⟨g, rfl, hg, hc⟩
    · have : st = 0 := by simpa using hst
      subst this
      exact text_nil w w.heap.size fl wx hps
    · have hc' : ∀ j, j < zs.length → w.cell? ⟨g, 0 + j, none⟩ = some (.int .u8 (zs.getD j 0)) := fun j hj => by rw [Nat.zero_add]; exact hc j hj
      exact text_walk w w.heap.size g 0 zs.length zs.length zs st fl wx hps ⟨_, _, rfl, Nat.le_refl _, .inr ⟨g, 0, rfl, hg, hc'⟩⟩ hg hc' rfl hnn (Nat.le_refl _) hst
  obtain ⟨ao, n, cap, rfl⟩ : ∃ ao n cap, v = .slice ao n cap := by
    rcases hv with ⟨rfl, _⟩ | ⟨g, rfl, _⟩
    · exact ⟨_, _, _, rfl⟩
    · exact ⟨_, _, _, rfl⟩
  clear hv
  go_enter Try.func17, Try.ntmps17
  go_wp2_with fail
  refine (HT.out _ ⟨by go_simp, by go_simp, by go_simp, (Below.refl _ _).alloc (Nat.le_refl _) _⟩).mono ?_
  rintro e w2 ⟨stop, en, hF, rfl, hps⟩
  have HF : Hid (Found zs st fl stop en ∧ PS w w2 w.heap.size (.slice ao n cap) en) := ⟨hF, hps⟩
  have c1 := hps.c1
  clear hF hps HT
  obtain ⟨S, hS⟩ : ∃ S, strOfNums (cut zs st en) = S := ⟨_, rfl⟩
  have HSS : Hid (strOfNums (cut zs st en) = S) := hS
  rw [hS]
  clear hS
  go_wp2
  go_quiet (fail)
  go_wp2
  go_ret2
  exact ⟨stop, en, HF.out.1, by rw [HSS.out]; rfl, (HF.out.2.drewN _).below⟩

end Go.Proofs.Qxb6600656a
