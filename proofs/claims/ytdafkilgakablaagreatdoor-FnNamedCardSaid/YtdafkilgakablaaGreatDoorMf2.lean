/- Put of lists, sets and maps. No condition. -/
import Derived.Test.YtdafkilgakablaaGreatDoorMf1
import Derived.Test.YtdafkilgakablaaGreatDoorMc
/-! A value of a type that holds others is put. Printed by a program (wip/tools/putmany.py). -/
namespace Go.Proofs.YtdafkilgakablaaGreatDoor
open Go.RowKit Go.Deep Go.Proofs.YtdafkilgakablaaGreatDoorW.PrintWords
set_option linter.unusedVariables false
set_option linter.unusedSimpArgs false

set_option maxRecDepth 100000 in
set_option maxHeartbeats 4000000 in
theorem put_struct (P : PW) (w0 : World) (l : List Val) (ids : List Int) (hl : ∀ v, v ∈ l → Puts P w0 v) (A B : Option Addr) (c d : Nat) (t : Int) (v1 v2 v3 v4 : Value) (ht : t % 256 = 12) {S : List Nat} {s : P.σ} {w : World} (h : P.Is S s w) (hS : ∀ k, k ∈ S → w0.heap.size ≤ k) (hB : Below w0.heap.size w0 w)
    (hC : kVal.C w0 A l.length l) (hD : (Kd.int .i64).C w0 B ids.length ids) (hr : P.room s + costs (.strB :: (opsF l ids ++ [.stop, .strE])) ≤ 140737488355328) :
    Calls Tryz.prog 39 #[.iface P.ty P.ptr, .agg #[.int .i64 t, v1, v2, v3, v4, .slice B ids.length d, .slice A l.length c]] w (Did P.Is S w (runs P.run (.strB :: (opsF l ids ++ [.stop, .strE])) s)) := by
  have hP := fun o => putStruct_any P w0 l ids hl A B c d (.int .i64 t) v1 v2 v3 v4 (P.step h ((Step.refl [] w).alloc o) (by simp)) hS (hB.alloc hB.size o) hC hD hr
  obtain ⟨r, hrr⟩ : ∃ r, runs P.run (.strB :: (opsF l ids ++ [.stop, .strE])) s = r := ⟨_, rfl⟩
  rw [hrr] at hP ⊢
  have HP := Lib.hid hP
  clear hP hrr hC hD hr
  go_enter Tryz.func39, Tryz.ntmps39
  go_wp2_with (first | (go_at_call 42; go_in) | (go_at_call 53; refine (HP.out _).mono ?_; rintro e W1 ⟨ev, S1, rfl, he, hI, hs⟩))
  go_ret
  exact ⟨_, _, rfl, he, hI, ((Step.refl _ _).alloc _).trans hs⟩
set_option maxRecDepth 100000 in
set_option maxHeartbeats 4000000 in
theorem put_set (P : PW) (w0 : World) (l : List Val) (hl : ∀ v, v ∈ l → Puts P w0 v) (A : Option Addr) (c : Nat) (t k e : Int) (v1 v2 v5 : Value) (ht : t % 256 = 14) (hlc : l.length ≤ c) {S : List Nat} {s : P.σ} {w : World} (h : P.Is S s w) (hS : ∀ k, k ∈ S → w0.heap.size ≤ k) (hB : Below w0.heap.size w0 w)
    (hC : kVal.C w0 A l.length l) (hr : P.room s + costs (.setB (e % 256) (l.length : Nat) :: (opsL l l.length ++ [.setE])) ≤ 140737488355328) :
    Calls Tryz.prog 39 #[.iface P.ty P.ptr, .agg #[.int .i64 t, v1, v2, .int .i64 k, .int .i64 e, v5, .slice A l.length c]] w (Did P.Is S w (runs P.run (.setB (e % 256) (l.length : Nat) :: (opsL l l.length ++ [.setE])) s)) := by
  have hc := ctx_any
  obtain ⟨m1, n1, e1⟩ := P.m_setB
  obtain ⟨m2, n2, e2⟩ := P.m_setE
  have hmx := hC.2.1
  have HC := Lib.hid hC
  have HL := Lib.hid hl
  have HR0 := Lib.hid hr
  clear hC hl hr
  obtain ⟨r, hrr⟩ : ∃ r, runs P.run (.setB (e % 256) (l.length : Nat) :: (opsL l l.length ++ [.setE])) s = r := ⟨_, rfl⟩
  rw [hrr]
  have HRR0 := Lib.hid hrr
  clear hrr
  obtain ⟨W0, hW0⟩ : ∃ W0, W0 = w.alloc (.cells #[.int .i64 t, v1, v2, .int .i64 k, .int .i64 e, v5, .slice A l.length c] 43) := ⟨_, rfl⟩
  have hz0 : w.heap.size < W0.heap.size := by rw [hW0]; simp
  have hI0 : P.Is S s W0 := by rw [hW0]; exact P.step h ((Step.refl [] w).alloc _) (by simp)
  have hs0 : Step S S w W0 := by rw [hW0]; exact (Step.refl _ _).alloc _
  have hB0 : Below w0.heap.size w0 W0 := by rw [hW0]; exact hB.alloc hB.size _
  have hnb := P.fresh h
  have b0 : W0.cell? ⟨w.heap.size, 0, none⟩ = some (.int .i64 t) := by rw [hW0]; exact cell_heap (heap_alloc_new _ _) 0
  have b3 : W0.cell? ⟨w.heap.size, 3, none⟩ = some (.int .i64 k) := by rw [hW0]; exact cell_heap (heap_alloc_new _ _) 3
  have b4 : W0.cell? ⟨w.heap.size, 4, none⟩ = some (.int .i64 e) := by rw [hW0]; exact cell_heap (heap_alloc_new _ _) 4
  have b6 : W0.cell? ⟨w.heap.size, 6, none⟩ = some (.slice A l.length c) := by rw [hW0]; exact cell_heap (heap_alloc_new _ _) 6
  have hbx : ∀ S1 W, Step S S1 W0 W → W.cell? ⟨w.heap.size, 3, none⟩ = some (.int .i64 k) ∧ W.cell? ⟨w.heap.size, 4, none⟩ = some (.int .i64 e) ∧ W.cell? ⟨w.heap.size, 6, none⟩ = some (.slice A l.length c) := fun S1 W hs => ⟨(hs.cell (p := ⟨w.heap.size, 3, none⟩) hz0 hnb).trans b3, (hs.cell (p := ⟨w.heap.size, 4, none⟩) hz0 hnb).trans b4, (hs.cell (p := ⟨w.heap.size, 6, none⟩) hz0 hnb).trans b6⟩
  have HBX := Lib.hid hbx
  have HB0 := Lib.hid hB0
  have HI0 := Lib.hid hI0
  have HO1 := Lib.hid (P.at_ hI0 (.setB (e % 256) (l.length : Nat)) rfl ⟨⟨by omega, by omega⟩, by omega, by omega⟩ (Nat.le_trans (by rw [costs_cons]; omega) HR0.out))
  clear h hB hbx hB0 hI0
  go_enter Tryz.func39, Tryz.ntmps39
  go_upto_region 29 with (first | (go_at_call 42; refine (typ_of _ _).mono ?_; rintro e w' ⟨rfl, rfl⟩))
  rw [← hW0]
  clear hW0
  go_cut [7] (fun u wx => Aft P S W0 (P.run s (.setB (e % 256) (l.length : Nat))) u wx)
  case first =>
   go_region_held3 (fun W' => W'.cell? ⟨w.heap.size, 3, none⟩ = some (.int .i64 k) ∧ W'.cell? ⟨w.heap.size, 4, none⟩ = some (.int .i64 e) ∧ W'.cell? ⟨w.heap.size, 6, none⟩ = some (.slice A l.length c)) (first | exact HBX.out _ _ (Step.refl _ _) | exact HBX.out _ _ (Step.refl _ _).drew | exact HBX.out _ _ hs1)
     (first
       | (go_at_call 35; refine (hc _).mono ?_; rintro e w' ⟨rfl, rfl⟩)
       | (go_at_call 42; refine (typ_of _ _).mono ?_; rintro e w' ⟨rfl, rfl⟩)
       | (refine (HO1.out _ ?_).mono ?_; exact (Step.refl _ _).drew; rintro e W1 ⟨ev, S1, rfl, he, hI1, hs1⟩; replace hs1 := (Step.refl S W0).drew.trans hs1))
   all_goals (go_wp2_with (fail); go_meet; exact ⟨_, he, hI1, hs1⟩)
  case rest =>
  clear b0 b3 b4 b6
  obtain ⟨S1, he, hI1, hs1⟩ := hcut
  by_cases hz : (P.run s (.setB (e % 256) (l.length : Nat))).2 ≠ 0
  · have hb := runs_bad P.run _ _ s HRR0.out hz
    rcases he with ⟨h0, _⟩ | he
    · exact absurd h0 hz
    have HE := Lib.hid he
    obtain ⟨bb, tt, er, ms, q1, q2, rfl, q3⟩ := he
    have HH := Lib.hid hb
    clear q1 q2 q3 hb hz
    go_wp2
    go_ret
    rw [← HH.out]
    exact ⟨_, _, rfl, .inr HE.out, (by assumption), hs0.trans hs1⟩
  replace hz := Decidable.not_not.1 hz
  have HRR1 := Lib.hid (runs_ok P.run _ _ s HRR0.out hz)
  have HR1 := Lib.hid (room_ok P _ _ s HR0.out)
  rw [hz] at he
  obtain rfl := he.zero
  clear he hz
  obtain ⟨s1, hs1e⟩ : ∃ s1, (P.run s (.setB (e % 256) (l.length : Nat))).1 = s1 := ⟨_, rfl⟩
  rw [hs1e] at HRR1 HR1 hI1
  clear hs1e HO1
  have hS1 : ∀ j, j ∈ S1 → w0.heap.size ≤ j := fun j hj => by
    rcases hs1.own j hj with hh | hh
    · exact hS j hh
    · have := HB0.out.size; omega
  have hB1 := HB0.out.trans (hs1.below _ HB0.out.size hS)
  have hP := fun W (hW : Step [] [] _ W) => putAll_any P w0 l HL.out A c (P.step hI1 hW (by simp)) hS1 (hB1.trans ((hW.below _ hB1.size (by simp)))) HC.out (Nat.le_trans (by rw [costs_append]; omega) HR1.out)
  have HP := Lib.hid hP
  obtain ⟨b3, b4, b6⟩ := HBX.out _ _ hs1
  clear hP
  go_wp2_with (fail)
  refine (HP.out _ (Step.refl _ _)).mono ?_
  rintro e W2 ⟨ev, S2, rfl, he, hI2, hs2⟩
  clear b3 b4 b6
  by_cases hz : (runs P.run (opsL l l.length) s1).2 ≠ 0
  · have hb := runs_bad_app P.run _ _ s1 HRR1.out hz
    rcases he with ⟨h0, _⟩ | he
    · exact absurd h0 hz
    have HE := Lib.hid he
    obtain ⟨bb, tt, er, ms, q1, q2, rfl, q3⟩ := he
    have HH := Lib.hid hb
    clear q1 q2 q3 hb hz
    go_wp2
    go_ret
    rw [← HH.out]
    exact ⟨_, _, rfl, .inr HE.out, (by assumption), hs0.trans (hs1.trans hs2)⟩
  replace hz := Decidable.not_not.1 hz
  have HRR2 := Lib.hid (runs_ok_app P.run _ _ s1 HRR1.out hz)
  have HR2 := Lib.hid (room_app P _ _ s1 HR1.out)
  rw [hz] at he
  obtain rfl := he.zero
  clear he hz
  obtain ⟨s2, hs2e⟩ : ∃ s2, (runs P.run (opsL l l.length) s1).1 = s2 := ⟨_, rfl⟩
  rw [hs2e] at HRR2 HR2 hI2
  clear hs2e HP
  have hr5 := HRR2.out
  rw [runs_one] at hr5
  have hO6 := P.at_ hI2 .setE rfl trivial (Nat.le_trans (by rw [costs_cons]; omega) HR2.out)
  rw [hr5] at hO6
  have HO6 := Lib.hid hO6
  clear hr5 hO6
  go_wp2_with (fail)
  go_region_held3 (fun W' => True) (trivial)
    (first
      | (go_at_call 35; refine (hc _).mono ?_; rintro e w' ⟨rfl, rfl⟩)
      | (refine (HO6.out _ ?_).mono ?_; exact (Step.refl _ _).drew; rintro e W7 ⟨ev, S7, rfl, he, hI7, hs7⟩; replace hs7 := (Step.refl S2 _).drew.trans hs7))
  all_goals go_wp2
  all_goals go_ret
  all_goals exact ⟨_, _, rfl, he, hI7, hs0.trans (hs1.trans (hs2.trans hs7))⟩

set_option maxRecDepth 100000 in
set_option maxHeartbeats 4000000 in
theorem put_lst (P : PW) (w0 : World) (l : List Val) (hl : ∀ v, v ∈ l → Puts P w0 v) (A : Option Addr) (c : Nat) (t k e : Int) (v1 v2 v5 : Value) (ht : t % 256 = 15) (hlc : l.length ≤ c) {S : List Nat} {s : P.σ} {w : World} (h : P.Is S s w) (hS : ∀ k, k ∈ S → w0.heap.size ≤ k) (hB : Below w0.heap.size w0 w)
    (hC : kVal.C w0 A l.length l) (hr : P.room s + costs (.lstB (e % 256) (l.length : Nat) :: (opsL l l.length ++ [.lstE])) ≤ 140737488355328) :
    Calls Tryz.prog 39 #[.iface P.ty P.ptr, .agg #[.int .i64 t, v1, v2, .int .i64 k, .int .i64 e, v5, .slice A l.length c]] w (Did P.Is S w (runs P.run (.lstB (e % 256) (l.length : Nat) :: (opsL l l.length ++ [.lstE])) s)) := by
  have hc := ctx_any
  obtain ⟨m1, n1, e1⟩ := P.m_lstB
  obtain ⟨m2, n2, e2⟩ := P.m_lstE
  have hmx := hC.2.1
  have HC := Lib.hid hC
  have HL := Lib.hid hl
  have HR0 := Lib.hid hr
  clear hC hl hr
  obtain ⟨r, hrr⟩ : ∃ r, runs P.run (.lstB (e % 256) (l.length : Nat) :: (opsL l l.length ++ [.lstE])) s = r := ⟨_, rfl⟩
  rw [hrr]
  have HRR0 := Lib.hid hrr
  clear hrr
  obtain ⟨W0, hW0⟩ : ∃ W0, W0 = w.alloc (.cells #[.int .i64 t, v1, v2, .int .i64 k, .int .i64 e, v5, .slice A l.length c] 43) := ⟨_, rfl⟩
  have hz0 : w.heap.size < W0.heap.size := by rw [hW0]; simp
  have hI0 : P.Is S s W0 := by rw [hW0]; exact P.step h ((Step.refl [] w).alloc _) (by simp)
  have hs0 : Step S S w W0 := by rw [hW0]; exact (Step.refl _ _).alloc _
  have hB0 : Below w0.heap.size w0 W0 := by rw [hW0]; exact hB.alloc hB.size _
  have hnb := P.fresh h
  have b0 : W0.cell? ⟨w.heap.size, 0, none⟩ = some (.int .i64 t) := by rw [hW0]; exact cell_heap (heap_alloc_new _ _) 0
  have b3 : W0.cell? ⟨w.heap.size, 3, none⟩ = some (.int .i64 k) := by rw [hW0]; exact cell_heap (heap_alloc_new _ _) 3
  have b4 : W0.cell? ⟨w.heap.size, 4, none⟩ = some (.int .i64 e) := by rw [hW0]; exact cell_heap (heap_alloc_new _ _) 4
  have b6 : W0.cell? ⟨w.heap.size, 6, none⟩ = some (.slice A l.length c) := by rw [hW0]; exact cell_heap (heap_alloc_new _ _) 6
  have hbx : ∀ S1 W, Step S S1 W0 W → W.cell? ⟨w.heap.size, 3, none⟩ = some (.int .i64 k) ∧ W.cell? ⟨w.heap.size, 4, none⟩ = some (.int .i64 e) ∧ W.cell? ⟨w.heap.size, 6, none⟩ = some (.slice A l.length c) := fun S1 W hs => ⟨(hs.cell (p := ⟨w.heap.size, 3, none⟩) hz0 hnb).trans b3, (hs.cell (p := ⟨w.heap.size, 4, none⟩) hz0 hnb).trans b4, (hs.cell (p := ⟨w.heap.size, 6, none⟩) hz0 hnb).trans b6⟩
  have HBX := Lib.hid hbx
  have HB0 := Lib.hid hB0
  have HI0 := Lib.hid hI0
  have HO1 := Lib.hid (P.at_ hI0 (.lstB (e % 256) (l.length : Nat)) rfl ⟨⟨by omega, by omega⟩, by omega, by omega⟩ (Nat.le_trans (by rw [costs_cons]; omega) HR0.out))
  clear h hB hbx hB0 hI0
  go_enter Tryz.func39, Tryz.ntmps39
  go_upto_region 37 with (first | (go_at_call 42; refine (typ_of _ _).mono ?_; rintro e w' ⟨rfl, rfl⟩))
  rw [← hW0]
  clear hW0
  go_cut [9] (fun u wx => Aft P S W0 (P.run s (.lstB (e % 256) (l.length : Nat))) u wx)
  case first =>
   go_region_held3 (fun W' => W'.cell? ⟨w.heap.size, 3, none⟩ = some (.int .i64 k) ∧ W'.cell? ⟨w.heap.size, 4, none⟩ = some (.int .i64 e) ∧ W'.cell? ⟨w.heap.size, 6, none⟩ = some (.slice A l.length c)) (first | exact HBX.out _ _ (Step.refl _ _) | exact HBX.out _ _ (Step.refl _ _).drew | exact HBX.out _ _ hs1)
     (first
       | (go_at_call 35; refine (hc _).mono ?_; rintro e w' ⟨rfl, rfl⟩)
       | (go_at_call 42; refine (typ_of _ _).mono ?_; rintro e w' ⟨rfl, rfl⟩)
       | (refine (HO1.out _ ?_).mono ?_; exact (Step.refl _ _).drew; rintro e W1 ⟨ev, S1, rfl, he, hI1, hs1⟩; replace hs1 := (Step.refl S W0).drew.trans hs1))
   all_goals (go_wp2_with (fail); go_meet; exact ⟨_, he, hI1, hs1⟩)
  case rest =>
  clear b0 b3 b4 b6
  obtain ⟨S1, he, hI1, hs1⟩ := hcut
  by_cases hz : (P.run s (.lstB (e % 256) (l.length : Nat))).2 ≠ 0
  · have hb := runs_bad P.run _ _ s HRR0.out hz
    rcases he with ⟨h0, _⟩ | he
    · exact absurd h0 hz
    have HE := Lib.hid he
    obtain ⟨bb, tt, er, ms, q1, q2, rfl, q3⟩ := he
    have HH := Lib.hid hb
    clear q1 q2 q3 hb hz
    go_wp2
    go_ret
    rw [← HH.out]
    exact ⟨_, _, rfl, .inr HE.out, (by assumption), hs0.trans hs1⟩
  replace hz := Decidable.not_not.1 hz
  have HRR1 := Lib.hid (runs_ok P.run _ _ s HRR0.out hz)
  have HR1 := Lib.hid (room_ok P _ _ s HR0.out)
  rw [hz] at he
  obtain rfl := he.zero
  clear he hz
  obtain ⟨s1, hs1e⟩ : ∃ s1, (P.run s (.lstB (e % 256) (l.length : Nat))).1 = s1 := ⟨_, rfl⟩
  rw [hs1e] at HRR1 HR1 hI1
  clear hs1e HO1
  have hS1 : ∀ j, j ∈ S1 → w0.heap.size ≤ j := fun j hj => by
    rcases hs1.own j hj with hh | hh
    · exact hS j hh
    · have := HB0.out.size; omega
  have hB1 := HB0.out.trans (hs1.below _ HB0.out.size hS)
  have hP := fun W (hW : Step [] [] _ W) => putAll_any P w0 l HL.out A c (P.step hI1 hW (by simp)) hS1 (hB1.trans ((hW.below _ hB1.size (by simp)))) HC.out (Nat.le_trans (by rw [costs_append]; omega) HR1.out)
  have HP := Lib.hid hP
  obtain ⟨b3, b4, b6⟩ := HBX.out _ _ hs1
  clear hP
  go_wp2_with (fail)
  refine (HP.out _ (Step.refl _ _)).mono ?_
  rintro e W2 ⟨ev, S2, rfl, he, hI2, hs2⟩
  clear b3 b4 b6
  by_cases hz : (runs P.run (opsL l l.length) s1).2 ≠ 0
  · have hb := runs_bad_app P.run _ _ s1 HRR1.out hz
    rcases he with ⟨h0, _⟩ | he
    · exact absurd h0 hz
    have HE := Lib.hid he
    obtain ⟨bb, tt, er, ms, q1, q2, rfl, q3⟩ := he
    have HH := Lib.hid hb
    clear q1 q2 q3 hb hz
    go_wp2
    go_ret
    rw [← HH.out]
    exact ⟨_, _, rfl, .inr HE.out, (by assumption), hs0.trans (hs1.trans hs2)⟩
  replace hz := Decidable.not_not.1 hz
  have HRR2 := Lib.hid (runs_ok_app P.run _ _ s1 HRR1.out hz)
  have HR2 := Lib.hid (room_app P _ _ s1 HR1.out)
  rw [hz] at he
  obtain rfl := he.zero
  clear he hz
  obtain ⟨s2, hs2e⟩ : ∃ s2, (runs P.run (opsL l l.length) s1).1 = s2 := ⟨_, rfl⟩
  rw [hs2e] at HRR2 HR2 hI2
  clear hs2e HP
  have hr5 := HRR2.out
  rw [runs_one] at hr5
  have hO6 := P.at_ hI2 .lstE rfl trivial (Nat.le_trans (by rw [costs_cons]; omega) HR2.out)
  rw [hr5] at hO6
  have HO6 := Lib.hid hO6
  clear hr5 hO6
  go_wp2_with (fail)
  go_region_held3 (fun W' => True) (trivial)
    (first
      | (go_at_call 35; refine (hc _).mono ?_; rintro e w' ⟨rfl, rfl⟩)
      | (refine (HO6.out _ ?_).mono ?_; exact (Step.refl _ _).drew; rintro e W7 ⟨ev, S7, rfl, he, hI7, hs7⟩; replace hs7 := (Step.refl S2 _).drew.trans hs7))
  all_goals go_wp2
  all_goals go_ret
  all_goals exact ⟨_, _, rfl, he, hI7, hs0.trans (hs1.trans (hs2.trans hs7))⟩

theorem kVal_take {w : World} {A : Option Addr} {l : List Val} (h : kVal.C w A l.length l) (n : Nat) (hn : n ≤ l.length) : kVal.C w A (l.take n).length (l.take n) := by
  refine ⟨rfl, by have := h.2.1; rw [List.length_take_of_le hn]; omega, fun h0 => ?_⟩
  rw [List.length_take_of_le hn] at h0
  obtain ⟨ad, e, hc⟩ := h.2.2 (by omega)
  refine ⟨ad, e, fun j p hj => hc j p ?_⟩
  rw [List.getElem?_take] at hj
  split at hj
  · exact hj
  · cases hj

set_option maxRecDepth 100000 in
set_option maxHeartbeats 4000000 in
theorem put_map (P : PW) (w0 : World) (l : List Val) (hl : ∀ v, v ∈ l → Puts P w0 v) (A : Option Addr) (c : Nat) (t k e : Int) (v1 v2 v5 : Value) (ht : t % 256 = 13) (hlc : l.length ≤ c) {S : List Nat} {s : P.σ} {w : World} (h : P.Is S s w) (hS : ∀ k, k ∈ S → w0.heap.size ≤ k) (hB : Below w0.heap.size w0 w)
    (hC : kVal.C w0 A l.length l) (hr : P.room s + costs (.mapB (k % 256) (e % 256) ((l.length : Int) / 2) :: (opsL l (l.length / 2 * 2) ++ [.mapE])) ≤ 140737488355328) :
    Calls Tryz.prog 39 #[.iface P.ty P.ptr, .agg #[.int .i64 t, v1, v2, .int .i64 k, .int .i64 e, v5, .slice A l.length c]] w (Did P.Is S w (runs P.run (.mapB (k % 256) (e % 256) ((l.length : Int) / 2) :: (opsL l (l.length / 2 * 2) ++ [.mapE])) s)) := by
  have hc := ctx_any
  obtain ⟨m1, n1, e1⟩ := P.m_mapB
  obtain ⟨m2, n2, e2⟩ := P.m_mapE
  have hmx := hC.2.1
  have HC := Lib.hid hC
  have HL := Lib.hid hl
  have HR0 := Lib.hid hr
  clear hC hl hr
  obtain ⟨r, hrr⟩ : ∃ r, runs P.run (.mapB (k % 256) (e % 256) ((l.length : Int) / 2) :: (opsL l (l.length / 2 * 2) ++ [.mapE])) s = r := ⟨_, rfl⟩
  rw [hrr]
  have HRR0 := Lib.hid hrr
  clear hrr
  obtain ⟨W0, hW0⟩ : ∃ W0, W0 = w.alloc (.cells #[.int .i64 t, v1, v2, .int .i64 k, .int .i64 e, v5, .slice A l.length c] 43) := ⟨_, rfl⟩
  have hz0 : w.heap.size < W0.heap.size := by rw [hW0]; simp
  have hI0 : P.Is S s W0 := by rw [hW0]; exact P.step h ((Step.refl [] w).alloc _) (by simp)
  have hs0 : Step S S w W0 := by rw [hW0]; exact (Step.refl _ _).alloc _
  have hB0 : Below w0.heap.size w0 W0 := by rw [hW0]; exact hB.alloc hB.size _
  have hnb := P.fresh h
  have b0 : W0.cell? ⟨w.heap.size, 0, none⟩ = some (.int .i64 t) := by rw [hW0]; exact cell_heap (heap_alloc_new _ _) 0
  have b3 : W0.cell? ⟨w.heap.size, 3, none⟩ = some (.int .i64 k) := by rw [hW0]; exact cell_heap (heap_alloc_new _ _) 3
  have b4 : W0.cell? ⟨w.heap.size, 4, none⟩ = some (.int .i64 e) := by rw [hW0]; exact cell_heap (heap_alloc_new _ _) 4
  have b6 : W0.cell? ⟨w.heap.size, 6, none⟩ = some (.slice A l.length c) := by rw [hW0]; exact cell_heap (heap_alloc_new _ _) 6
  have hbx : ∀ S1 W, Step S S1 W0 W → W.cell? ⟨w.heap.size, 3, none⟩ = some (.int .i64 k) ∧ W.cell? ⟨w.heap.size, 4, none⟩ = some (.int .i64 e) ∧ W.cell? ⟨w.heap.size, 6, none⟩ = some (.slice A l.length c) := fun S1 W hs => ⟨(hs.cell (p := ⟨w.heap.size, 3, none⟩) hz0 hnb).trans b3, (hs.cell (p := ⟨w.heap.size, 4, none⟩) hz0 hnb).trans b4, (hs.cell (p := ⟨w.heap.size, 6, none⟩) hz0 hnb).trans b6⟩
  have HBX := Lib.hid hbx
  have HB0 := Lib.hid hB0
  have HI0 := Lib.hid hI0
  have HO1 := Lib.hid (P.at_ hI0 (.mapB (k % 256) (e % 256) ((l.length : Int) / 2)) rfl ⟨⟨by omega, by omega⟩, ⟨by omega, by omega⟩, by omega, by omega⟩ (Nat.le_trans (by rw [costs_cons]; omega) HR0.out))
  clear h hB hbx hB0 hI0
  have hwd : IntKind.i64.wrap ((l.length : Int) / 2) = (l.length : Int) / 2 := by rw [IntKind.wrap_i64]; omega
  go_enter Tryz.func39, Tryz.ntmps39
  go_upto_region 21 with (first | (go_at_call 42; refine (typ_of _ _).mono ?_; rintro e w' ⟨rfl, rfl⟩))
  rw [← hW0]
  clear hW0
  go_cut [5] (fun u wx => Aft P S W0 (P.run s (.mapB (k % 256) (e % 256) ((l.length : Int) / 2))) u wx)
  case first =>
   go_region_held3 (fun W' => W'.cell? ⟨w.heap.size, 3, none⟩ = some (.int .i64 k) ∧ W'.cell? ⟨w.heap.size, 4, none⟩ = some (.int .i64 e) ∧ W'.cell? ⟨w.heap.size, 6, none⟩ = some (.slice A l.length c)) (first | exact HBX.out _ _ (Step.refl _ _) | exact HBX.out _ _ (Step.refl _ _).drew | exact HBX.out _ _ hs1)
     (first
       | (go_at_call 35; refine (hc _).mono ?_; rintro e w' ⟨rfl, rfl⟩)
       | (go_at_call 42; refine (typ_of _ _).mono ?_; rintro e w' ⟨rfl, rfl⟩)
       | (refine (HO1.out _ ?_).mono ?_; exact (Step.refl _ _).drew; rintro e W1 ⟨ev, S1, rfl, he, hI1, hs1⟩; replace hs1 := (Step.refl S W0).drew.trans hs1))
   all_goals (go_wp2_with (fail); go_meet; exact ⟨_, he, hI1, hs1⟩)
  case rest =>
  clear hwd
  clear b0 b3 b4 b6
  obtain ⟨S1, he, hI1, hs1⟩ := hcut
  by_cases hz : (P.run s (.mapB (k % 256) (e % 256) ((l.length : Int) / 2))).2 ≠ 0
  · have hb := runs_bad P.run _ _ s HRR0.out hz
    rcases he with ⟨h0, _⟩ | he
    · exact absurd h0 hz
    have HE := Lib.hid he
    obtain ⟨bb, tt, er, ms, q1, q2, rfl, q3⟩ := he
    have HH := Lib.hid hb
    clear q1 q2 q3 hb hz
    go_wp2
    go_ret
    rw [← HH.out]
    exact ⟨_, _, rfl, .inr HE.out, (by assumption), hs0.trans hs1⟩
  replace hz := Decidable.not_not.1 hz
  have HRR1 := Lib.hid (runs_ok P.run _ _ s HRR0.out hz)
  have HR1 := Lib.hid (room_ok P _ _ s HR0.out)
  rw [hz] at he
  obtain rfl := he.zero
  clear he hz
  obtain ⟨s1, hs1e⟩ : ∃ s1, (P.run s (.mapB (k % 256) (e % 256) ((l.length : Int) / 2))).1 = s1 := ⟨_, rfl⟩
  rw [hs1e] at HRR1 HR1 hI1
  clear hs1e HO1
  have hS1 : ∀ j, j ∈ S1 → w0.heap.size ≤ j := fun j hj => by
    rcases hs1.own j hj with hh | hh
    · exact hS j hh
    · have := HB0.out.size; omega
  have hB1 := HB0.out.trans (hs1.below _ HB0.out.size hS)
  have hP := fun W (hW : Step [] [] _ W) => putAll_any P w0 (l.take (l.length / 2 * 2)) (fun v hv => HL.out v (List.mem_of_mem_take hv)) A c (P.step hI1 hW (by simp)) hS1 (hB1.trans ((hW.below _ hB1.size (by simp)))) (kVal_take HC.out _ (by omega)) (by rw [opsL_take]; exact Nat.le_trans (by rw [costs_append]; omega) HR1.out)
  rw [opsL_take, List.length_take_of_le (by omega)] at hP
  have HP := Lib.hid hP
  obtain ⟨b3, b4, b6⟩ := HBX.out _ _ hs1
  have hq1 : (0 : Int) ≤ (l.length : Int) / 2 * 2 := by omega
  have hq2 : (l.length : Int) / 2 * 2 ≤ c := by omega
  have hq3 : ((l.length : Int) / 2 * 2).toNat = l.length / 2 * 2 := by omega
  clear hP
  go_wp2_with (fail)
  refine (HP.out _ (Step.refl _ _)).mono ?_
  rintro e W2 ⟨ev, S2, rfl, he, hI2, hs2⟩
  clear b3 b4 b6
  by_cases hz : (runs P.run (opsL l (l.length / 2 * 2)) s1).2 ≠ 0
  · have hb := runs_bad_app P.run _ _ s1 HRR1.out hz
    rcases he with ⟨h0, _⟩ | he
    · exact absurd h0 hz
    have HE := Lib.hid he
    obtain ⟨bb, tt, er, ms, q1, q2, rfl, q3⟩ := he
    have HH := Lib.hid hb
    clear q1 q2 q3 hb hz
    go_wp2
    go_ret
    rw [← HH.out]
    exact ⟨_, _, rfl, .inr HE.out, (by assumption), hs0.trans (hs1.trans hs2)⟩
  replace hz := Decidable.not_not.1 hz
  have HRR2 := Lib.hid (runs_ok_app P.run _ _ s1 HRR1.out hz)
  have HR2 := Lib.hid (room_app P _ _ s1 HR1.out)
  rw [hz] at he
  obtain rfl := he.zero
  clear he hz
  obtain ⟨s2, hs2e⟩ : ∃ s2, (runs P.run (opsL l (l.length / 2 * 2)) s1).1 = s2 := ⟨_, rfl⟩
  rw [hs2e] at HRR2 HR2 hI2
  clear hs2e HP
  have hr5 := HRR2.out
  rw [runs_one] at hr5
  have hO6 := P.at_ hI2 .mapE rfl trivial (Nat.le_trans (by rw [costs_cons]; omega) HR2.out)
  rw [hr5] at hO6
  have HO6 := Lib.hid hO6
  clear hr5 hO6
  go_wp2_with (fail)
  go_region_held3 (fun W' => True) (trivial)
    (first
      | (go_at_call 35; refine (hc _).mono ?_; rintro e w' ⟨rfl, rfl⟩)
      | (refine (HO6.out _ ?_).mono ?_; exact (Step.refl _ _).drew; rintro e W7 ⟨ev, S7, rfl, he, hI7, hs7⟩; replace hs7 := (Step.refl S2 _).drew.trans hs7))
  all_goals go_wp2
  all_goals go_ret
  all_goals exact ⟨_, _, rfl, he, hI7, hs0.trans (hs1.trans (hs2.trans hs7))⟩


end Go.Proofs.YtdafkilgakablaaGreatDoor

/-! A value is put by whatever protocol: what it keeps, what it tells. -/
namespace Go.Proofs.YtdafkilgakablaaGreatDoor
open Go.RowKit Go.Deep Go.Proofs.YtdafkilgakablaaGreatDoorW.PrintWords
set_option linter.unusedVariables false
set_option linter.unusedSimpArgs false

set_option maxRecDepth 100000 in
set_option maxHeartbeats 4000000 in
theorem put_other (P : PW) (t : Int) (v1 v2 v3 v4 v5 v6 : Value) (hne : ¬ t % 256 = 2 ∧ ¬ t % 256 = 3 ∧ ¬ t % 256 = 4 ∧ ¬ t % 256 = 6 ∧ ¬ t % 256 = 8 ∧ ¬ t % 256 = 10 ∧ ¬ t % 256 = 11 ∧ ¬ t % 256 = 16 ∧ ¬ t % 256 = 12 ∧ ¬ t % 256 = 13 ∧ ¬ t % 256 = 14 ∧ ¬ t % 256 = 15) {S : List Nat} {s : P.σ} {w : World} (h : P.Is S s w) :
    Calls Tryz.prog 39 #[.iface P.ty P.ptr, .agg #[.int .i64 t, v1, v2, v3, v4, v5, v6]] w (Did P.Is S w (s, 0)) := by
  obtain ⟨h2, h3, h4, h6, h8, h10, h11, h16, h12, h13, h14, h15⟩ := hne
  have b2 : (t % 256 == 2) = false := by simpa using h2
  have b3 : (t % 256 == 3) = false := by simpa using h3
  have b4 : (t % 256 == 4) = false := by simpa using h4
  have b6 : (t % 256 == 6) = false := by simpa using h6
  have b8 : (t % 256 == 8) = false := by simpa using h8
  have b10 : (t % 256 == 10) = false := by simpa using h10
  have b11 : (t % 256 == 11) = false := by simpa using h11
  have b16 : (t % 256 == 16) = false := by simpa using h16
  have b12 : (t % 256 == 12) = false := by simpa using h12
  have b13 : (t % 256 == 13) = false := by simpa using h13
  have b14 : (t % 256 == 14) = false := by simpa using h14
  have b15 : (t % 256 == 15) = false := by simpa using h15
  clear h2 h3 h4 h6 h8 h10 h11 h16 h12 h13 h14 h15
  go_enter Tryz.func39, Tryz.ntmps39
  go_wp2_with (first | (go_at_call 42; refine (typ_of _ _).mono ?_; rintro e w' ⟨rfl, rfl⟩))
  go_ret
  exact ⟨_, S, rfl, IsErr.nil _, P.step h ((Step.refl [] w).alloc _) (by simp), (Step.refl _ _).alloc _⟩

theorem wfL_mem : ∀ (l : List Val), wfL l → ∀ v, v ∈ l → wfV v
  | [], _, v, h => by simp at h
  | x :: l, hw, v, h => by
    unfold wfL at hw
    rcases List.mem_cons.1 h with rfl | h
    · exact hw.1
    · exact wfL_mem l hw.2 v h

theorem put_upto (P : PW) (w0 : World) : ∀ (z : Nat) (V : Val), SizeOf.sizeOf V ≤ z → wfV V → Puts P w0 V := by
  intro z
  induction z with
  | zero =>
    intro V hz
    cases V
    simp at hz
  | succ z ih =>
    intro V hz hw
    obtain ⟨t, n, s, k, e, ids, l⟩ := V
    have hL : ∀ v, v ∈ l → Puts P w0 v := fun v hv => ih v (by
      have h1 := List.sizeOf_lt_of_mem hv
      simp only [Val.mk.sizeOf_spec] at hz
      omega) (wfL_mem l (by unfold wfV at hw; exact hw.2.2.2.2.2.2.2) v hv)
    unfold wfV at hw
    obtain ⟨ht, hn, h8, hk, he, hids, hlen, hl⟩ := hw
    intro S st w cs hI hS hB hK hr
    obtain ⟨A2, c2, A5, c5, A6, c6, rfl, l2, g2, l5, g5, l6, g6⟩ := kVal_open hK
    dsimp only at *
    by_cases h2 : t % 256 = 2
    · have ho : ops ⟨t, n, s, k, e, ids, l⟩ = [.bool (n != 0)] := by simp only [ops, h2, if_true]
      rw [ho] at hr ⊢
      rw [runs_one]
      exact put_bool P t n _ _ _ _ _ h2 hI (by simpa [costs, WOp.cost] using hr)
    by_cases h3 : t % 256 = 3
    · have ho : ops ⟨t, n, s, k, e, ids, l⟩ = [.byte (w8 n)] := by simp [ops, h3]
      rw [ho] at hr ⊢
      rw [runs_one]
      exact put_byte P t n _ _ _ _ _ h3 hI (by simpa [costs, WOp.cost] using hr)
    by_cases h4 : t % 256 = 4
    · have ho : ops ⟨t, n, s, k, e, ids, l⟩ = [.dbl (IntKind.u64.wrap n).toNat] := by simp [ops, h4]
      rw [ho] at hr ⊢
      rw [runs_one]
      exact put_dbl P t n _ _ _ _ _ h4 hI (by simpa [costs, WOp.cost] using hr)
    by_cases h6 : t % 256 = 6
    · have ho : ops ⟨t, n, s, k, e, ids, l⟩ = [.i16 (w16 n)] := by simp [ops, h6]
      rw [ho] at hr ⊢
      rw [runs_one]
      exact put_i16 P t n _ _ _ _ _ h6 hI (by simpa [costs, WOp.cost] using hr)
    by_cases h88 : t % 256 = 8
    · have ho : ops ⟨t, n, s, k, e, ids, l⟩ = [.i32 (wrap32 n)] := by simp [ops, h88]
      rw [ho] at hr ⊢
      rw [runs_one]
      exact put_i32 P t n _ _ _ _ _ h88 hI (by simpa [costs, WOp.cost] using hr)
    by_cases h10 : t % 256 = 10
    · have ho : ops ⟨t, n, s, k, e, ids, l⟩ = [.i64 n] := by simp [ops, h10]
      rw [ho] at hr ⊢
      rw [runs_one]
      exact put_i64 P t n _ _ _ _ _ h10 hn.1 hn.2 hI (by simpa [costs, WOp.cost] using hr)
    by_cases h11 : t % 256 = 11
    · have ho : ops ⟨t, n, s, k, e, ids, l⟩ = [.str (toB s)] := by simp [ops, h11]
      rw [ho] at hr ⊢
      rw [runs_one]
      exact put_str P t _ _ _ _ _ A2 c2 s h11 hI g2 hB hS hlen (by simpa [costs] using hr)
    by_cases h16 : t % 256 = 16
    · have ho : ops ⟨t, n, s, k, e, ids, l⟩ = [.uuid (u16 (toB s))] := by simp [ops, h16]
      rw [ho] at hr ⊢
      rw [runs_one]
      exact put_uuid P t _ _ _ _ _ A2 c2 s h16 hI g2 hB hS h8 (by simpa [costs] using hr)
    by_cases h12 : t % 256 = 12
    · have ho : ops ⟨t, n, s, k, e, ids, l⟩ = .strB :: (opsF l ids ++ [.stop, .strE]) := by simp [ops, h12]
      rw [ho] at hr ⊢
      exact put_struct P w0 l ids hL A6 A5 c6 c5 t _ _ _ _ h12 hI hS hB g6 g5 hr
    by_cases h13 : t % 256 = 13
    · have ho : ops ⟨t, n, s, k, e, ids, l⟩ = .mapB (k % 256) (e % 256) ((l.length : Int) / 2) :: (opsL l (l.length / 2 * 2) ++ [.mapE]) := by simp [ops, h13]
      rw [ho] at hr ⊢
      exact put_map P w0 l hL A6 c6 t k e _ _ _ h13 l6 hI hS hB g6 hr
    by_cases h14 : t % 256 = 14
    · have ho : ops ⟨t, n, s, k, e, ids, l⟩ = .setB (e % 256) (l.length : Nat) :: (opsL l l.length ++ [.setE]) := by simp [ops, h14]
      rw [ho] at hr ⊢
      exact put_set P w0 l hL A6 c6 t k e _ _ _ h14 l6 hI hS hB g6 hr
    by_cases h15 : t % 256 = 15
    · have ho : ops ⟨t, n, s, k, e, ids, l⟩ = .lstB (e % 256) (l.length : Nat) :: (opsL l l.length ++ [.lstE]) := by simp [ops, h15]
      rw [ho] at hr ⊢
      exact put_lst P w0 l hL A6 c6 t k e _ _ _ h15 l6 hI hS hB g6 hr
    have ho : ops ⟨t, n, s, k, e, ids, l⟩ = [] := by simp [ops, h2, h3, h4, h6, h88, h10, h11, h16, h12, h13, h14, h15]
    rw [ho]
    exact put_other P t _ _ _ _ _ _ ⟨h2, h3, h4, h6, h88, h10, h11, h16, h12, h13, h14, h15⟩ hI
theorem put_any (P : PW) (w0 : World) (V : Val) (hw : wfV V) : Puts P w0 V := put_upto P w0 _ V (Nat.le_refl _) hw

end Go.Proofs.YtdafkilgakablaaGreatDoor
