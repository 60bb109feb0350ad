/- Put of structs. No condition. -/
import Derived.Test.YtdafkilgakablaaGreatDoorMe
import Derived.Test.YtdafkilgakablaaGreatDoorMc
import Derived.Outline
import Derived.Deep.LoopGhost
import Derived.Deep.DeepCutAuto
import Derived.Deep.CutBlock
/-! A struct is put. -/
namespace Go.Proofs.YtdafkilgakablaaGreatDoor
open Go.RowKit Go.Deep Go.Proofs.YtdafkilgakablaaGreatDoorW.PrintWords
set_option linter.unusedVariables false
set_option linter.unusedSimpArgs false

/-- Behind a call of a protocol that gave u. -/
def Aft (P : PW) (S : List Nat) (w : World) (r : P.σ × Nat) (u : Value) (wx : World) : Prop := ∃ S1, IsErr r.2 u wx ∧ P.Is S1 r.1 wx ∧ Step S S1 w wx

theorem typ_of (x : Int) (w : World) : Calls Tryz.prog 42 #[.int .i64 x] w fun e w' => e = .returned (.int .u8 (x % 256)) ∧ w = w' := by
  go_enter Tryz.func42, Tryz.ntmps42
  go_wp2
  go_ret
  exact ⟨rfl, rfl⟩

theorem ints_at {w : World} {A : Option Addr} {l : List Int} (h : (Kd.int .i64).C w A l.length l) (k : Nat) (hk : k < l.length) : ∃ ad, A = some ad ∧ w.cell? (ad.add k) = some (.int .i64 l[k]) := by
  obtain ⟨ad, cc, rfl, hcl, hK, hc⟩ := Kd.C_get h 0 (k : Int) (by omega) (by omega)
  obtain rfl : cc = [.int .i64 (l.getD ((k : Int)).toNat 0)] := hK
  refine ⟨ad, rfl, ?_⟩
  have := hc 0 _ rfl
  simpa [Kd.int, Kd.scalar, hk] using this

set_option maxRecDepth 100000 in
set_option maxHeartbeats 4000000 in
theorem putStruct_any (P : PW) (w0 : World) (l : List Val) (ids : List Int) (hl : ∀ v, v ∈ l → Puts P w0 v) (A B : Option Addr) (c d : Nat) (v0 v1 v2 v3 v4 : Value) {S : List Nat} {s : P.σ} {w : World} (h : P.Is S s w) (hS : ∀ k, k ∈ S → w0.heap.size ≤ k) (hB : Below w0.heap.size w0 w)
    (hC : kVal.C w0 A l.length l) (hD : (Kd.int .i64).C w0 B ids.length ids) (hr : P.room s + costs (.strB :: (opsF l ids ++ [.stop, .strE])) ≤ 140737488355328) :
    Calls Tryz.prog 53 #[.iface P.ty P.ptr, .agg #[v0, v1, v2, v3, v4, .slice B ids.length d, .slice A l.length c]] w (Did P.Is S w (runs P.run (.strB :: (opsF l ids ++ [.stop, .strE])) s)) := by
  have hc := ctx_any
  obtain ⟨m1, n1, e1⟩ := P.m_strB
  obtain ⟨m2, n2, e2⟩ := P.m_strE
  obtain ⟨m3, n3, e3⟩ := P.m_fldB
  obtain ⟨m4, n4, e4⟩ := P.m_fldE
  obtain ⟨m5, n5, e5⟩ := P.m_stop
  have hmx := hC.2.1
  have hmy := hD.2.1
  have HC := Lib.hid hC
  have HD := Lib.hid hD
  have HL := Lib.hid hl
  have HR := Lib.hid hr
  clear hC hD hl hr
  obtain ⟨r, hrr⟩ : ∃ r, runs P.run (.strB :: (opsF l ids ++ [.stop, .strE])) s = r := ⟨_, rfl⟩
  rw [hrr]
  have HRR := Lib.hid hrr
  clear hrr
  obtain ⟨W0, hW0⟩ : ∃ W0, W0 = w.alloc (.cells #[v0, v1, v2, v3, v4, .slice B ids.length d, .slice A l.length c] 43) := ⟨_, rfl⟩
  have hz0 : w.heap.size < W0.heap.size := by rw [hW0]; simp
  have hI0 : P.Is S s W0 := by rw [hW0]; exact P.step h ((Step.refl [] w).alloc _) (by simp)
  have hs0 : Step S S w W0 := by rw [hW0]; exact (Step.refl _ _).alloc _
  have hB0 : Below w0.heap.size w0 W0 := by rw [hW0]; exact hB.alloc hB.size _
  have hnb := P.fresh h
  have b5 : W0.cell? ⟨w.heap.size, 5, none⟩ = some (.slice B ids.length d) := by rw [hW0]; exact cell_heap (heap_alloc_new _ _) 5
  have b6 : W0.cell? ⟨w.heap.size, 6, none⟩ = some (.slice A l.length c) := by rw [hW0]; exact cell_heap (heap_alloc_new _ _) 6
  have hbx : ∀ S1 W, Step S S1 W0 W → W.cell? ⟨w.heap.size, 5, none⟩ = some (.slice B ids.length d) ∧ W.cell? ⟨w.heap.size, 6, none⟩ = some (.slice A l.length c) := fun S1 W hs => ⟨(hs.cell (p := ⟨w.heap.size, 5, none⟩) hz0 hnb).trans b5, (hs.cell (p := ⟨w.heap.size, 6, none⟩) hz0 hnb).trans b6⟩
  have HBX := Lib.hid hbx
  have HB0 := Lib.hid hB0
  have HI0 := Lib.hid hI0
  clear h hB hbx hB0 hI0
  have HRR0 := HRR
  have HR0 := HR
  clear HRR HR
  have HO1 := Lib.hid (P.at_ HI0.out .strB rfl trivial (Nat.le_trans (by rw [costs_cons]; omega) HR0.out))
  go_enter Tryz.func53, Tryz.ntmps53
  go_wp2_with (fail)
  rw [← hW0]
  clear hW0
  go_upto_region 1 with (fail)
  go_cut [5] (fun u5 wx => Aft P S W0 (P.run s .strB) u5 wx)
  case first =>
    go_region_held3 (fun W' => W'.cell? ⟨w.heap.size, 5, none⟩ = some (.slice B ids.length d)) (first | assumption | exact b5 | exact (HBX.out _ _ hs1).1)
      (first
        | (go_at_call 35; refine (hc _).mono ?_; rintro e w' ⟨rfl, rfl⟩)
        | (refine (HO1.out _ ?_).mono ?_; exact (Step.refl _ _).drew; rintro e W1 ⟨ev, S1, rfl, he, hI1, hs1⟩; replace hs1 := (Step.refl S W0).drew.trans hs1))
    all_goals (go_wp2_with (fail); go_meet; exact ⟨_, he, hI1, hs1⟩)
  case rest =>
  clear b5 b6
  obtain ⟨S1, he, hI1, hs1⟩ := hcut
  by_cases hz : (P.run s .strB).2 ≠ 0
  · have hb := runs_bad P.run _ _ s HRR0.out hz
    rcases he with ⟨h0, _⟩ | he
    · exact absurd h0 hz
    have HE := Lib.hid he
    obtain ⟨bb, tt, er, ms, q1, q2, rfl, q3⟩ := he
    have HH := Lib.hid hb
    clear q1 q2 q3 hb hz
    go_wp2
    go_ret
    rw [← HH.out]
    exact ⟨_, _, rfl, .inr HE.out, (by assumption), hs0.trans hs1⟩
  replace hz := Decidable.not_not.1 hz
  have HRR1 := Lib.hid (runs_ok P.run _ _ s HRR0.out hz)
  have HR1 := Lib.hid (room_ok P _ _ s HR0.out)
  rw [hz] at he
  obtain rfl := he.zero
  clear he hz
  obtain ⟨s1, hs1e⟩ : ∃ s1, (P.run s .strB).1 = s1 := ⟨_, rfl⟩
  rw [hs1e] at HRR1 HR1 hI1
  clear hs1e HO1
  go_wp2_with (fail)
  go_loopg [6] l.length (fun gk i wr => ∃ k S2 s2, gk = l.length - k ∧ k ≤ l.length ∧ k ≤ ids.length ∧ i = .int .i64 (k : Nat) ∧ Hid (runs P.run (opsF (l.drop k) (ids.drop k) ++ [.stop, .strE]) s2 = r) ∧ Hid (P.room s2 + costs (opsF (l.drop k) (ids.drop k) ++ [.stop, .strE]) ≤ 140737488355328) ∧ P.Is S2 s2 wr ∧ Step S S2 W0 wr)
  case atStart => exact ⟨0, S1, s1, by omega, by omega, by omega, rfl, HRR1, HR1, hI1, hs1⟩
  case round =>
    obtain ⟨k, S2, s2, rfl, hk1, hk2, rfl, HRR2, HR2, hI2, hs2⟩ := hrel
    have hb2 := HBX.out _ _ hs2
    obtain ⟨x5, x6⟩ := hb2
    have hS2 : ∀ j, j ∈ S2 → w0.heap.size ≤ j := fun j hj => by
      rcases hs2.own j hj with hh | hh
      · exact hS j hh
      · have := HB0.out.size; omega
    have hB2 : Below w0.heap.size w0 wr := HB0.out.trans (hs2.below _ HB0.out.size hS)
    by_cases h12 : k < l.length ∧ k < ids.length
    · obtain ⟨h1, h2⟩ := h12
      obtain ⟨ad, cc, rfl, hcl, hK, hc0⟩ := Kd.C_get HC.out zVal (k : Int) (by omega) (by omega)
      have hK2 := hK
      obtain ⟨A2, c2, A5, c5, A6, c6, rfl, -⟩ := kVal_open hK2
      obtain ⟨bd, rfl, hid⟩ := ints_at HD.out k h2
      have hv : l.getD ((k : Int)).toNat zVal = l[k] := by simp [h1]
      rw [hv] at hK hc0
      have hcell : ∀ W, Below w0.heap.size w0 W → (W.cell? (ad.add (k * 7)) = some (.int .i64 l[k].f0) ∧ W.cell? ⟨(ad.add (k * 7)).block, (ad.add (k * 7)).off + 1, none⟩ = some (.int .i64 l[k].f1) ∧ W.cell? ⟨(ad.add (k * 7)).block, (ad.add (k * 7)).off + 2, none⟩ = some (.slice A2 l[k].f2.length c2) ∧ W.cell? ⟨(ad.add (k * 7)).block, (ad.add (k * 7)).off + 3, none⟩ = some (.int .i64 l[k].f3) ∧ W.cell? ⟨(ad.add (k * 7)).block, (ad.add (k * 7)).off + 4, none⟩ = some (.int .i64 l[k].f4) ∧ W.cell? ⟨(ad.add (k * 7)).block, (ad.add (k * 7)).off + 5, none⟩ = some (.slice A5 l[k].f5.length c5) ∧ W.cell? ⟨(ad.add (k * 7)).block, (ad.add (k * 7)).off + 6, none⟩ = some (.slice A6 l[k].f6.length c6)) ∧ W.cell? (bd.add k) = some (.int .i64 ids[k]) := fun W hW => by
        have hc : ∀ j u, _ → W.cell? (ad.add (k * 7 + j)) = some u := fun j u hj => pw_cell_below hW (hc0 j u hj)
        refine ⟨⟨?_, ?_, ?_, ?_, ?_, ?_, ?_⟩, pw_cell_below hW hid⟩
        · exact hc 0 _ rfl
        · rw [← add_field _ _ 1 (by omega)]; exact hc 1 _ rfl
        · rw [← add_field _ _ 2 (by omega)]; exact hc 2 _ rfl
        · rw [← add_field _ _ 3 (by omega)]; exact hc 3 _ rfl
        · rw [← add_field _ _ 4 (by omega)]; exact hc 4 _ rfl
        · rw [← add_field _ _ 5 (by omega)]; exact hc 5 _ rfl
        · rw [← add_field _ _ 6 (by omega)]; exact hc 6 _ rfl
      have HCELL := Lib.hid hcell
      have HK := Lib.hid hK
      have HV := Lib.hid hv
      clear hK2 hc0 hcl hcell hid hK hv
      have hd := opsF_drop l ids k h1 h2
      have e3 : opsF (l.drop k) (ids.drop k) ++ [.stop, .strE] = .fldB (l[k].f0 % 256) (w16 ids[k]) :: (ops l[k] ++ (.fldE :: (opsF (l.drop (k + 1)) (ids.drop (k + 1)) ++ [.stop, .strE]))) := by rw [hd]; simp
      have r3 := HRR2.out
      have q3 := HR2.out
      rw [e3] at r3 q3
      clear HRR2 HR2 hd e3
      have HRR2 := Lib.hid r3
      have HR2 := Lib.hid q3
      clear r3 q3
      have HO2 := Lib.hid (P.at_ hI2 (.fldB (l[k].f0 % 256) (w16 ids[k])) rfl ⟨⟨by omega, by omega⟩, by unfold w16; omega, by unfold w16; omega⟩ (Nat.le_trans (by rw [costs_cons]; omega) HR2.out))
      have hw16 : IntKind.i16.wrap ids[k] = w16 ids[k] := by rw [wrap_i16]; rfl
      have hkeep : ∀ S3 W, Step S2 S3 wr W → ((W.cell? ⟨w.heap.size, 5, none⟩ = some (.slice (some bd) ids.length d) ∧ W.cell? ⟨w.heap.size, 6, none⟩ = some (.slice (some ad) l.length c)) ∧ ((W.cell? (ad.add (k * 7)) = some (.int .i64 l[k].f0) ∧ W.cell? ⟨(ad.add (k * 7)).block, (ad.add (k * 7)).off + 1, none⟩ = some (.int .i64 l[k].f1) ∧ W.cell? ⟨(ad.add (k * 7)).block, (ad.add (k * 7)).off + 2, none⟩ = some (.slice A2 l[k].f2.length c2) ∧ W.cell? ⟨(ad.add (k * 7)).block, (ad.add (k * 7)).off + 3, none⟩ = some (.int .i64 l[k].f3) ∧ W.cell? ⟨(ad.add (k * 7)).block, (ad.add (k * 7)).off + 4, none⟩ = some (.int .i64 l[k].f4) ∧ W.cell? ⟨(ad.add (k * 7)).block, (ad.add (k * 7)).off + 5, none⟩ = some (.slice A5 l[k].f5.length c5) ∧ W.cell? ⟨(ad.add (k * 7)).block, (ad.add (k * 7)).off + 6, none⟩ = some (.slice A6 l[k].f6.length c6)) ∧ W.cell? (bd.add k) = some (.int .i64 ids[k]))) ∧ Below w0.heap.size w0 W := fun S3 W hW => ⟨⟨HBX.out _ _ (hs2.trans hW), HCELL.out _ (hB2.trans (hW.below _ hB2.size hS2))⟩, hB2.trans (hW.below _ hB2.size hS2)⟩
      have HKEEP := Lib.hid hkeep
      have HS2 := Lib.hid hs2
      have HBB2 := Lib.hid hB2
      clear hkeep
      have hk0 : (0 : Int) ≤ (k : Int) := by omega
      have hkl : (k : Int) < l.length := by omega
      have hki : (k : Int) < ids.length := by omega
      go_upto_region 7 with (fail)
      go_cut [7] (fun u7 wx => Aft P S2 wr (P.run s2 (.fldB (l[k].f0 % 256) (w16 ids[k]))) u7 wx)
      case first =>
       go_region_held3 (fun W' => ((W'.cell? ⟨w.heap.size, 5, none⟩ = some (.slice (some bd) ids.length d) ∧ W'.cell? ⟨w.heap.size, 6, none⟩ = some (.slice (some ad) l.length c)) ∧ ((W'.cell? (ad.add (k * 7)) = some (.int .i64 l[k].f0) ∧ W'.cell? ⟨(ad.add (k * 7)).block, (ad.add (k * 7)).off + 1, none⟩ = some (.int .i64 l[k].f1) ∧ W'.cell? ⟨(ad.add (k * 7)).block, (ad.add (k * 7)).off + 2, none⟩ = some (.slice A2 l[k].f2.length c2) ∧ W'.cell? ⟨(ad.add (k * 7)).block, (ad.add (k * 7)).off + 3, none⟩ = some (.int .i64 l[k].f3) ∧ W'.cell? ⟨(ad.add (k * 7)).block, (ad.add (k * 7)).off + 4, none⟩ = some (.int .i64 l[k].f4) ∧ W'.cell? ⟨(ad.add (k * 7)).block, (ad.add (k * 7)).off + 5, none⟩ = some (.slice A5 l[k].f5.length c5) ∧ W'.cell? ⟨(ad.add (k * 7)).block, (ad.add (k * 7)).off + 6, none⟩ = some (.slice A6 l[k].f6.length c6)) ∧ W'.cell? (bd.add k) = some (.int .i64 ids[k])))) (first | exact (HKEEP.out _ _ (Step.refl _ _).drew).1 | exact (HKEEP.out _ _ hs3).1)
        (first
          | (go_at_call 35; refine (hc _).mono ?_; rintro e w' ⟨rfl, rfl⟩)
          | (go_at_call 42; refine (typ_of _ _).mono ?_; rintro e w' ⟨rfl, rfl⟩)
          | (refine (HO2.out _ ?_).mono ?_; exact (Step.refl _ _).drew; rintro e W3 ⟨ev, S3, rfl, he, hI3, hs3⟩; replace hs3 := (Step.refl S2 wr).drew.trans hs3))
       all_goals (go_wp2_with (fail); go_meet; exact ⟨_, he, hI3, hs3⟩)
      case rest =>
      obtain ⟨S3, he, hI3, hs3⟩ := hcut
      by_cases hz : (P.run s2 (.fldB (l[k].f0 % 256) (w16 ids[k]))).2 ≠ 0
      · have hb := runs_bad P.run _ _ s2 HRR2.out hz
        rcases he with ⟨h0, _⟩ | he
        · exact absurd h0 hz
        have HE := Lib.hid he
        obtain ⟨bb, tt, er, ms, q1, q2, rfl, q3⟩ := he
        have HH := Lib.hid hb
        clear q1 q2 q3 hb hz
        go_wp2
        go_ret
        rw [← HH.out]
        exact ⟨_, _, rfl, .inr HE.out, (by assumption), hs0.trans (HS2.out.trans hs3)⟩
      replace hz := Decidable.not_not.1 hz
      have HRR3 := Lib.hid (runs_ok P.run _ _ s2 HRR2.out hz)
      have HR3 := Lib.hid (room_ok P _ _ s2 HR2.out)
      rw [hz] at he
      obtain rfl := he.zero
      clear he hz
      obtain ⟨s3, hs3e⟩ : ∃ s3, (P.run s2 (.fldB (l[k].f0 % 256) (w16 ids[k]))).1 = s3 := ⟨_, rfl⟩
      rw [hs3e] at HRR3 HR3 hI3
      clear hs3e HO2
      obtain ⟨⟨⟨x5b, x6b⟩, ⟨g0, g1, g2, g3, g4, g5, g6⟩, g7⟩, hB3⟩ := HKEEP.out _ _ hs3
      have hS3 : ∀ j, j ∈ S3 → w0.heap.size ≤ j := fun j hj => by
        rcases hs3.own j hj with hh | hh
        · exact hS2 j hh
        · have := hB2.size; omega
      have HP := Lib.hid (HL.out l[k] (List.getElem_mem h1) S3 s3 _ _ hI3 hS3 hB3 HK.out (Nat.le_trans (by rw [costs_append]; omega) HR3.out))
      go_wp2_with (fail)
      refine HP.out.mono ?_
      rintro e W4 ⟨ev, S4, rfl, he, hI4, hs4⟩
      clear g0 g1 g2 g3 g4 g5 g6 g7 x5b x6b x5 x6
      by_cases hz : (runs P.run (ops l[k]) s3).2 ≠ 0
      · have hb := runs_bad_app P.run _ _ s3 HRR3.out hz
        rcases he with ⟨h0, _⟩ | he
        · exact absurd h0 hz
        have HE := Lib.hid he
        obtain ⟨bb, tt, er, ms, q1, q2, rfl, q3⟩ := he
        have HH := Lib.hid hb
        clear q1 q2 q3 hb hz
        go_wp2
        go_ret
        rw [← HH.out]
        exact ⟨_, _, rfl, .inr HE.out, (by assumption), hs0.trans (HS2.out.trans (hs3.trans hs4))⟩
      replace hz := Decidable.not_not.1 hz
      have HRR4 := Lib.hid (runs_ok_app P.run _ _ s3 HRR3.out hz)
      have HR4 := Lib.hid (room_app P _ _ s3 HR3.out)
      rw [hz] at he
      obtain rfl := he.zero
      clear he hz
      obtain ⟨s4, hs4e⟩ : ∃ s4, (runs P.run (ops l[k]) s3).1 = s4 := ⟨_, rfl⟩
      rw [hs4e] at HRR4 HR4 hI4
      clear hs4e HP
      have HO4 := Lib.hid (P.at_ hI4 .fldE rfl trivial (Nat.le_trans (by rw [costs_cons]; omega) HR4.out))
      go_upto_region 13 with (fail)
      go_cut [9] (fun u9 wx => Aft P S4 W4 (P.run s4 .fldE) u9 wx)
      case first =>
       go_region_held3 (fun W' => True) (trivial)
         (first
           | (go_at_call 35; refine (hc _).mono ?_; rintro e w' ⟨rfl, rfl⟩)
           | (refine (HO4.out _ ?_).mono ?_; exact (Step.refl _ _).drew; rintro e W5 ⟨ev, S5, rfl, he, hI5, hs5⟩; replace hs5 := (Step.refl S4 W4).drew.trans hs5))
       all_goals (go_wp2_with (fail); go_meet; exact ⟨_, he, hI5, hs5⟩)
      case rest =>
      obtain ⟨S5, he, hI5, hs5⟩ := hcut
      by_cases hz : (P.run s4 .fldE).2 ≠ 0
      · have hb := runs_bad P.run _ _ s4 HRR4.out hz
        rcases he with ⟨h0, _⟩ | he
        · exact absurd h0 hz
        have HE := Lib.hid he
        obtain ⟨bb, tt, er, ms, q1, q2, rfl, q3⟩ := he
        have HH := Lib.hid hb
        clear q1 q2 q3 hb hz
        go_wp2
        go_ret
        rw [← HH.out]
        exact ⟨_, _, rfl, .inr HE.out, (by assumption), hs0.trans (HS2.out.trans (hs3.trans (hs4.trans hs5)))⟩
      replace hz := Decidable.not_not.1 hz
      have HRR5 := Lib.hid (runs_ok P.run _ _ s4 HRR4.out hz)
      have HR5 := Lib.hid (room_ok P _ _ s4 HR4.out)
      rw [hz] at he
      obtain rfl := he.zero
      clear he hz
      have HS5 := Lib.hid (HS2.out.trans (hs3.trans (hs4.trans hs5)))
      clear HO4 hs3 hs4 hs5
      go_wp2
      go_roundg (l.length - (k + 1))
      case measure => omega
      case rel => exact ⟨k + 1, S5, _, rfl, by omega, by omega, by go_num, HRR5, HR5, hI5, HS5.out⟩
    · have he0 := opsF_end l ids k h12
      have r3 := HRR2.out
      have q3 := HR2.out
      rw [he0] at r3 q3
      simp only [List.nil_append] at r3 q3
      have HRR3 := Lib.hid r3
      have HR3 := Lib.hid q3
      clear r3 q3 HRR2 HR2 he0
      have HO5 := Lib.hid (P.at_ hI2 .stop rfl trivial (Nat.le_trans (by rw [costs_cons]; omega) HR3.out))
      by_cases h1 : k < l.length
      · have h2 : ¬ k < ids.length := fun h => h12 ⟨h1, h⟩
        go_upto_region 16 with (fail)
        clear x5 x6
        go_cut [10] (fun u10 wx => Aft P S2 wr (P.run s2 .stop) u10 wx)
        case first =>
         go_region_held3 (fun W' => True) (trivial)
           (first
             | (go_at_call 35; refine (hc _).mono ?_; rintro e w' ⟨rfl, rfl⟩)
             | (refine (HO5.out _ ?_).mono ?_; exact (Step.refl _ _).drew; rintro e W3 ⟨ev, S3, rfl, he, hI3, hs3⟩; replace hs3 := (Step.refl S2 wr).drew.trans hs3))
         all_goals (go_wp2_with (fail); go_meet; exact ⟨_, he, hI3, hs3⟩)
        case rest =>
        obtain ⟨S3, he, hI4, hs3⟩ := hcut
        by_cases hz : (P.run s2 .stop).2 ≠ 0
        · have hb := runs_bad P.run _ _ s2 HRR3.out hz
          rcases he with ⟨h0, _⟩ | he
          · exact absurd h0 hz
          have HE := Lib.hid he
          obtain ⟨bb, tt, er, ms, q1, q2, rfl, q3⟩ := he
          have HH := Lib.hid hb
          clear q1 q2 q3 hb hz
          go_wp2
          go_ret
          rw [← HH.out]
          exact ⟨_, _, rfl, .inr HE.out, (by assumption), hs0.trans (hs2.trans hs3)⟩
        replace hz := Decidable.not_not.1 hz
        have HRR4 := Lib.hid (runs_ok P.run _ _ s2 HRR3.out hz)
        have HR4 := Lib.hid (room_ok P _ _ s2 HR3.out)
        rw [hz] at he
        obtain rfl := he.zero
        clear he hz
        obtain ⟨s3, hs3e⟩ : ∃ s3, (P.run s2 .stop).1 = s3 := ⟨_, rfl⟩
        rw [hs3e] at HRR4 HR4 hI4
        clear hs3e HO5
        have hr5 := HRR4.out
        rw [runs_one] at hr5
        have hO6 := P.at_ hI4 .strE rfl trivial (Nat.le_trans (by rw [costs_cons]; omega) HR4.out)
        rw [hr5] at hO6
        have HO6 := Lib.hid hO6
        clear hr5 hO6
        go_wp2_with (fail)
        go_region_held3 (fun W' => True) (trivial)
          (first
            | (go_at_call 35; refine (hc _).mono ?_; rintro e w' ⟨rfl, rfl⟩)
            | (refine (HO6.out _ ?_).mono ?_; exact (Step.refl _ _).drew; rintro e W7 ⟨ev, S7, rfl, he, hI7, hs7⟩; replace hs7 := (Step.refl S3 _).drew.trans hs7))
        all_goals go_wp2
        all_goals go_ret
        all_goals exact ⟨_, _, rfl, he, hI7, hs0.trans (hs2.trans (hs3.trans hs7))⟩
      · skip
        go_upto_region 16 with (fail)
        clear x5 x6
        go_cut [10] (fun u10 wx => Aft P S2 wr (P.run s2 .stop) u10 wx)
        case first =>
         go_region_held3 (fun W' => True) (trivial)
           (first
             | (go_at_call 35; refine (hc _).mono ?_; rintro e w' ⟨rfl, rfl⟩)
             | (refine (HO5.out _ ?_).mono ?_; exact (Step.refl _ _).drew; rintro e W3 ⟨ev, S3, rfl, he, hI3, hs3⟩; replace hs3 := (Step.refl S2 wr).drew.trans hs3))
         all_goals (go_wp2_with (fail); go_meet; exact ⟨_, he, hI3, hs3⟩)
        case rest =>
        obtain ⟨S3, he, hI4, hs3⟩ := hcut
        by_cases hz : (P.run s2 .stop).2 ≠ 0
        · have hb := runs_bad P.run _ _ s2 HRR3.out hz
          rcases he with ⟨h0, _⟩ | he
          · exact absurd h0 hz
          have HE := Lib.hid he
          obtain ⟨bb, tt, er, ms, q1, q2, rfl, q3⟩ := he
          have HH := Lib.hid hb
          clear q1 q2 q3 hb hz
          go_wp2
          go_ret
          rw [← HH.out]
          exact ⟨_, _, rfl, .inr HE.out, (by assumption), hs0.trans (hs2.trans hs3)⟩
        replace hz := Decidable.not_not.1 hz
        have HRR4 := Lib.hid (runs_ok P.run _ _ s2 HRR3.out hz)
        have HR4 := Lib.hid (room_ok P _ _ s2 HR3.out)
        rw [hz] at he
        obtain rfl := he.zero
        clear he hz
        obtain ⟨s3, hs3e⟩ : ∃ s3, (P.run s2 .stop).1 = s3 := ⟨_, rfl⟩
        rw [hs3e] at HRR4 HR4 hI4
        clear hs3e HO5
        have hr5 := HRR4.out
        rw [runs_one] at hr5
        have hO6 := P.at_ hI4 .strE rfl trivial (Nat.le_trans (by rw [costs_cons]; omega) HR4.out)
        rw [hr5] at hO6
        have HO6 := Lib.hid hO6
        clear hr5 hO6
        go_wp2_with (fail)
        go_region_held3 (fun W' => True) (trivial)
          (first
            | (go_at_call 35; refine (hc _).mono ?_; rintro e w' ⟨rfl, rfl⟩)
            | (refine (HO6.out _ ?_).mono ?_; exact (Step.refl _ _).drew; rintro e W7 ⟨ev, S7, rfl, he, hI7, hs7⟩; replace hs7 := (Step.refl S3 _).drew.trans hs7))
        all_goals go_wp2
        all_goals go_ret
        all_goals exact ⟨_, _, rfl, he, hI7, hs0.trans (hs2.trans (hs3.trans hs7))⟩

end Go.Proofs.YtdafkilgakablaaGreatDoor
