/- A value of numbers of four bytes is got by the binary protocol. -/
import Derived.Test.YteadkokfepjgbaaGreatDoorG3
namespace Go.Proofs.YteadkokfepjgbaaGreatDoor
open Go.RowKit Go.Deep
set_option linter.unusedVariables false
set_option linter.unusedSimpArgs false

/-- A row of seven cells is written whole. -/
theorem set7 {W : World} {B : Nat} {a0 a1 a2 a3 a4 a5 a6 : Value} {ty : TypeId} (h : W.heap[B]? = some (.cells #[a0, a1, a2, a3, a4, a5, a6] ty (0, 0))) (v0 v1 v2 v3 v4 v5 v6 : Value) :
    ∃ W2, ((((((W.setCell ⟨B, 0, none⟩ v0).setCell ⟨B, 1, none⟩ v1).setCell ⟨B, 2, none⟩ v2).setCell ⟨B, 3, none⟩ v3).setCell ⟨B, 4, none⟩ v4).setCell ⟨B, 5, none⟩ v5).setCell ⟨B, 6, none⟩ v6 = W2 ∧
      W2.heap[B]? = some (.cells #[v0, v1, v2, v3, v4, v5, v6] ty (0, 0)) ∧ Step [B] [B] W W2 := by
  have e0 : (W.setCell ⟨B, 0, none⟩ v0).heap[B]? = some (.cells #[v0, a1, a2, a3, a4, a5, a6] ty (0, 0)) := by rw [heap_set_same h]; rfl
  have s0 : Step [B] [B] W (W.setCell ⟨B, 0, none⟩ v0) := (Step.refl _ W).setCell (.inl (by simp)) _
  have e1 : ((W.setCell ⟨B, 0, none⟩ v0).setCell ⟨B, 1, none⟩ v1).heap[B]? = some (.cells #[v0, v1, a2, a3, a4, a5, a6] ty (0, 0)) := by rw [heap_set_same e0]; rfl
  have s1 : Step [B] [B] W ((W.setCell ⟨B, 0, none⟩ v0).setCell ⟨B, 1, none⟩ v1) := s0.setCell (.inl (by simp)) _
  have e2 : (((W.setCell ⟨B, 0, none⟩ v0).setCell ⟨B, 1, none⟩ v1).setCell ⟨B, 2, none⟩ v2).heap[B]? = some (.cells #[v0, v1, v2, a3, a4, a5, a6] ty (0, 0)) := by rw [heap_set_same e1]; rfl
  have s2 : Step [B] [B] W (((W.setCell ⟨B, 0, none⟩ v0).setCell ⟨B, 1, none⟩ v1).setCell ⟨B, 2, none⟩ v2) := s1.setCell (.inl (by simp)) _
  have e3 : ((((W.setCell ⟨B, 0, none⟩ v0).setCell ⟨B, 1, none⟩ v1).setCell ⟨B, 2, none⟩ v2).setCell ⟨B, 3, none⟩ v3).heap[B]? = some (.cells #[v0, v1, v2, v3, a4, a5, a6] ty (0, 0)) := by rw [heap_set_same e2]; rfl
  have s3 : Step [B] [B] W ((((W.setCell ⟨B, 0, none⟩ v0).setCell ⟨B, 1, none⟩ v1).setCell ⟨B, 2, none⟩ v2).setCell ⟨B, 3, none⟩ v3) := s2.setCell (.inl (by simp)) _
  have e4 : (((((W.setCell ⟨B, 0, none⟩ v0).setCell ⟨B, 1, none⟩ v1).setCell ⟨B, 2, none⟩ v2).setCell ⟨B, 3, none⟩ v3).setCell ⟨B, 4, none⟩ v4).heap[B]? = some (.cells #[v0, v1, v2, v3, v4, a5, a6] ty (0, 0)) := by rw [heap_set_same e3]; rfl
  have s4 : Step [B] [B] W (((((W.setCell ⟨B, 0, none⟩ v0).setCell ⟨B, 1, none⟩ v1).setCell ⟨B, 2, none⟩ v2).setCell ⟨B, 3, none⟩ v3).setCell ⟨B, 4, none⟩ v4) := s3.setCell (.inl (by simp)) _
  have e5 : ((((((W.setCell ⟨B, 0, none⟩ v0).setCell ⟨B, 1, none⟩ v1).setCell ⟨B, 2, none⟩ v2).setCell ⟨B, 3, none⟩ v3).setCell ⟨B, 4, none⟩ v4).setCell ⟨B, 5, none⟩ v5).heap[B]? = some (.cells #[v0, v1, v2, v3, v4, v5, a6] ty (0, 0)) := by rw [heap_set_same e4]; rfl
  have s5 : Step [B] [B] W ((((((W.setCell ⟨B, 0, none⟩ v0).setCell ⟨B, 1, none⟩ v1).setCell ⟨B, 2, none⟩ v2).setCell ⟨B, 3, none⟩ v3).setCell ⟨B, 4, none⟩ v4).setCell ⟨B, 5, none⟩ v5) := s4.setCell (.inl (by simp)) _
  have e6 : (((((((W.setCell ⟨B, 0, none⟩ v0).setCell ⟨B, 1, none⟩ v1).setCell ⟨B, 2, none⟩ v2).setCell ⟨B, 3, none⟩ v3).setCell ⟨B, 4, none⟩ v4).setCell ⟨B, 5, none⟩ v5).setCell ⟨B, 6, none⟩ v6).heap[B]? = some (.cells #[v0, v1, v2, v3, v4, v5, v6] ty (0, 0)) := by rw [heap_set_same e5]; rfl
  have s6 : Step [B] [B] W (((((((W.setCell ⟨B, 0, none⟩ v0).setCell ⟨B, 1, none⟩ v1).setCell ⟨B, 2, none⟩ v2).setCell ⟨B, 3, none⟩ v3).setCell ⟨B, 4, none⟩ v4).setCell ⟨B, 5, none⟩ v5).setCell ⟨B, 6, none⟩ v6) := s5.setCell (.inl (by simp)) _
  exact ⟨_, rfl, e6, s6⟩

set_option maxRecDepth 100000 in
set_option maxHeartbeats 4000000 in
theorem get_bin_i32 (p m b g off : Nat) (og cf : Value) (sc : List Value) (b0 b1 b2 b3 : UInt8) (l : List UInt8) (w : World) (hp : Bin p (memV m) og cf sc w) (h : Mem m b g off (Lib.byteCells (b0 :: b1 :: b2 :: b3 :: l)) w) (hpm : p ≠ m) (hpb : p ≠ b) (hpg : p ≠ g) :
    Calls Tryz.prog 71 #[binV p, .int .u8 8, .int .i64 1] w fun e w' => e = .returned (.tuple #[i32V (wrap32 (Lib.beNat [b0, b1, b2, b3])), .nilIface]) ∧
      ∃ sc1, Bin p (memV m) og cf sc1 w' ∧ Mem m b g (off + 4) (Lib.byteCells l) w' ∧ Step [b, p] [b, p] w w' := by
  have hpl := hp.lt
  have hbl := h.2.2.2.lt.1
  have HML := Lib.hid h.lt
  have HGL := Lib.hid h.2.2.2.lt.2
  have ha : ∀ c d f, Bin p (memV m) og cf sc (((w.alloc c).alloc d).alloc f) := fun c d f => ((hp.alloc c).alloc d).alloc f
  have hb : ∀ c d f, Mem m b g off (Lib.byteCells (b0 :: b1 :: b2 :: b3 :: l)) (((w.alloc c).alloc d).alloc f) := fun c d f => ((h.alloc c).alloc d).alloc f
  have hs : ∀ c d f, Step [b, p] [b, p] w (((w.alloc c).alloc d).alloc f) := fun c d f => (((Step.refl _ _).alloc c).alloc d).alloc f
  have HA := Lib.hid ha
  have HM := Lib.hid hb
  have HS := Lib.hid hs
  clear ha hb hs
  go_enter Tryz.func71, Tryz.ntmps71
  go_wp2_with (go_at_call 89; refine (read_bin_i32 p m b g off og cf sc b0 b1 b2 b3 l _ ?_ ?_ hpm hpb hpg).mono ?_; exact HA.out _ _ _; exact HM.out _ _ _)
  rintro e W1 ⟨rfl, sc1, hP, hM, hs⟩
  have h0 := (hs.block w.heap.size (by simp <;> omega) (by simp; omega)).trans (heap_alloc_old (heap_alloc_old (heap_alloc_new _ _) _) _)
  have h1 := (hs.block (w.heap.size + 1) (by simp <;> omega) (by simp; omega)).trans (heap_alloc_old (heap_alloc_at (by simp) _) _)
  have h2 := (hs.block (w.heap.size + 1 + 1) (by simp <;> omega) (by simp; omega)).trans (heap_alloc_at (by simp) _)
  have k20 : W1.cell? ⟨w.heap.size + 1 + 1, 0, none⟩ = some (.int .i64 0) := (cell_heap h2 _).trans rfl
  have k21 : W1.cell? ⟨w.heap.size + 1 + 1, 1, none⟩ = some (.int .i64 0) := (cell_heap h2 _).trans rfl
  have k22 : W1.cell? ⟨w.heap.size + 1 + 1, 2, none⟩ = some (.int .i64 0) := (cell_heap h2 _).trans rfl
  have k23 : W1.cell? ⟨w.heap.size + 1 + 1, 3, none⟩ = some (.int .i64 0) := (cell_heap h2 _).trans rfl
  have k24 : W1.cell? ⟨w.heap.size + 1 + 1, 4, none⟩ = some (.int .i64 0) := (cell_heap h2 _).trans rfl
  have k25 : W1.cell? ⟨w.heap.size + 1 + 1, 5, none⟩ = some (.int .i64 0) := (cell_heap h2 _).trans rfl
  have k26 : W1.cell? ⟨w.heap.size + 1 + 1, 6, none⟩ = some (.slice none 0 0) := (cell_heap h2 _).trans rfl
  have f2 := frozen_heap h2
  have HP1 := Lib.hid hP
  have HM1 := Lib.hid hM
  have HS1 := Lib.hid ((HS.out _ _ _).trans hs)
  have H0 := Lib.hid h0
  have H1 := Lib.hid h1
  have H2 := Lib.hid h2
  have hsz1 : w.heap.size + 1 + 1 < W1.heap.size := lt_heap h2
  clear hP hM hs h0 h1 h2
  go_wp2
  obtain ⟨W2, e2, h2, hs2⟩ := set7 H2.out (.int .i64 0) (.int .i64 0) (.int .i64 0) (.int .i64 0) (.int .i64 0) (.int .i64 (wrap32 (Lib.beNat [b0, b1, b2, b3]))) (.slice none 0 0)
  rw [e2]
  clear k20 k21 k22 k23 k24 k25 k26 f2 e2
  have h1 := (hs2.block (w.heap.size + 1) (by omega) (by simp)).trans H1.out
  have h0 := (hs2.block w.heap.size (by omega) (by simp; omega)).trans H0.out
  have k00 : W2.cell? ⟨w.heap.size, 0, none⟩ = some (.int .i64 0) := (cell_heap h0 _).trans rfl
  have k01 : W2.cell? ⟨w.heap.size, 1, none⟩ = some (.int .i64 0) := (cell_heap h0 _).trans rfl
  have k02 : W2.cell? ⟨w.heap.size, 2, none⟩ = some (.slice none 0 0) := (cell_heap h0 _).trans rfl
  have k03 : W2.cell? ⟨w.heap.size, 3, none⟩ = some (.int .i64 0) := (cell_heap h0 _).trans rfl
  have k04 : W2.cell? ⟨w.heap.size, 4, none⟩ = some (.int .i64 0) := (cell_heap h0 _).trans rfl
  have k05 : W2.cell? ⟨w.heap.size, 5, none⟩ = some (.slice none 0 0) := (cell_heap h0 _).trans rfl
  have k06 : W2.cell? ⟨w.heap.size, 6, none⟩ = some (.slice none 0 0) := (cell_heap h0 _).trans rfl
  have f0 := frozen_heap h0
  have k10 : W2.cell? ⟨w.heap.size + 1, 0, none⟩ = some (.int .i64 8) := (cell_heap h1 _).trans rfl
  have k11 : W2.cell? ⟨w.heap.size + 1, 1, none⟩ = some (.int .i64 0) := (cell_heap h1 _).trans rfl
  have k12 : W2.cell? ⟨w.heap.size + 1, 2, none⟩ = some (.slice none 0 0) := (cell_heap h1 _).trans rfl
  have k13 : W2.cell? ⟨w.heap.size + 1, 3, none⟩ = some (.int .i64 0) := (cell_heap h1 _).trans rfl
  have k14 : W2.cell? ⟨w.heap.size + 1, 4, none⟩ = some (.int .i64 0) := (cell_heap h1 _).trans rfl
  have k15 : W2.cell? ⟨w.heap.size + 1, 5, none⟩ = some (.slice none 0 0) := (cell_heap h1 _).trans rfl
  have k16 : W2.cell? ⟨w.heap.size + 1, 6, none⟩ = some (.slice none 0 0) := (cell_heap h1 _).trans rfl
  have f1 := frozen_heap h1
  have k25 : W2.cell? ⟨w.heap.size + 1 + 1, 5, none⟩ = some (.int .i64 (wrap32 (Lib.beNat [b0, b1, b2, b3]))) := (cell_heap h2 _).trans rfl
  have k26 : W2.cell? ⟨w.heap.size + 1 + 1, 6, none⟩ = some (.slice none 0 0) := (cell_heap h2 _).trans rfl
  have HS2 := Lib.hid hs2
  clear hs2 h0 h1 h2
  go_region_held3 (fun W' => W'.cell? ⟨w.heap.size + 1 + 1, 5, none⟩ = some (.int .i64 (wrap32 (Lib.beNat [b0, b1, b2, b3]))) ∧ W'.cell? ⟨w.heap.size + 1 + 1, 6, none⟩ = some (.slice none 0 0)) (simp [go_sem, *]) (first | fail)
  all_goals go_wp2
  all_goals (
    have hml := HML.out
    have hgl := HGL.out
    refine bodyPost_ret (v := .tuple #[i32V (wrap32 (Lib.beNat [b0, b1, b2, b3])), .nilIface]) (by simp [results, Tryz.results71, go_sem, *]) rfl ?_
    have hs3 := HS2.out.more (S1 := [w.heap.size, w.heap.size + 1, w.heap.size + 1 + 1]) (T1 := [w.heap.size, w.heap.size + 1, w.heap.size + 1 + 1]) (by simp) (by simp)
    refine ⟨rfl, sc1, HP1.out.step (S := [w.heap.size, w.heap.size + 1, w.heap.size + 1 + 1]) (T := [w.heap.size, w.heap.size + 1, w.heap.size + 1 + 1]) ?_ (by simp; omega), HM1.out.step (S := [w.heap.size, w.heap.size + 1, w.heap.size + 1 + 1]) (T := [w.heap.size, w.heap.size + 1, w.heap.size + 1 + 1]) ?_ (by simp; omega) (by simp; omega) (by simp; omega), ?_⟩
    · repeat (first | (with_reducible exact hs3) | (with_reducible refine Step.drew ?_) | (with_reducible refine Step.setCell ?_ (.inl (by simp)) _))
    · repeat (first | (with_reducible exact hs3) | (with_reducible refine Step.drew ?_) | (with_reducible refine Step.setCell ?_ (.inl (by simp)) _))
    · refine (Step.trans (HS1.out.more (S1 := [b, p]) (T1 := [b, p, w.heap.size, w.heap.size + 1, w.heap.size + 1 + 1]) (by simp) ?_) (Step.more (S := [w.heap.size, w.heap.size + 1, w.heap.size + 1 + 1]) (T := [w.heap.size, w.heap.size + 1, w.heap.size + 1 + 1]) (T1 := [b, p]) ?_ (by simp) (by simp)))
      · intro k hk
        simp only [List.mem_cons, List.not_mem_nil, or_false] at hk ⊢
        omega
      · repeat (first | (with_reducible exact hs3) | (with_reducible refine Step.drew ?_) | (with_reducible refine Step.setCell ?_ (.inl (by simp)) _)))

end Go.Proofs.YteadkokfepjgbaaGreatDoor
