/- Texts, begins and steps are read by whatever protocol. No condition. -/
import Derived.Test.YtmjcnomgpikncaaGreatDoorMv2
import Derived.Test.YtmjcnomgpikncaaGreatDoorMt3
import Derived.Test.YtmjcnomgpikncaaGreatDoorMn
import Derived.Deep.AppendLies
/-! Texts and identifiers are read by whatever protocol. -/
namespace Go.Proofs.YtmjcnomgpikncaaGreatDoor

open Go.RowKit Go.Deep

set_option linter.unusedVariables false

set_option linter.unusedSimpArgs false

/-- What a step that reads tells, in memory. -/
abbrev gotV (g : RGot) (v : Value) : Value := .agg #[.int .i64 0, .int .i64 g.t, .int .i64 g.k, .int .i64 g.size, .int .i64 g.id, .int .i64 g.n, v]

def TellsG (P : PR) (g : RGot) (k : Nat) (s1 : P.σ) (S : List Nat) (w : World) (e : Ending) (w' : World) : Prop :=
  ∃ ev v kb S', e = .returned (.tuple #[gotV g v, ev]) ∧ IsB (Lib.byteCells g.s) v kb w' ∧ w.heap.size ≤ kb ∧ kb ∉ S' ∧ IsErr k ev w' ∧ P.Is S' s1 w' ∧ Step S S' w w'

end Go.Proofs.YtmjcnomgpikncaaGreatDoor

/-! The begins of messages are read by whatever protocol. -/
namespace Go.Proofs.YtmjcnomgpikncaaGreatDoor

open Go.RowKit Go.Deep

set_option linter.unusedVariables false

set_option linter.unusedSimpArgs false

end Go.Proofs.YtmjcnomgpikncaaGreatDoor

/-! The begins of lists are read by whatever protocol. -/
namespace Go.Proofs.YtmjcnomgpikncaaGreatDoor

open Go.RowKit Go.Deep

set_option linter.unusedVariables false

set_option linter.unusedSimpArgs false

end Go.Proofs.YtmjcnomgpikncaaGreatDoor

/-! The begins of sets are read by whatever protocol. -/
namespace Go.Proofs.YtmjcnomgpikncaaGreatDoor

open Go.RowKit Go.Deep

set_option linter.unusedVariables false

set_option linter.unusedSimpArgs false

end Go.Proofs.YtmjcnomgpikncaaGreatDoor

/-! The begins of maps are read by whatever protocol. -/
namespace Go.Proofs.YtmjcnomgpikncaaGreatDoor

open Go.RowKit Go.Deep

set_option linter.unusedVariables false

set_option linter.unusedSimpArgs false

end Go.Proofs.YtmjcnomgpikncaaGreatDoor

/-! Steps that begin something are read by whatever protocol. -/
namespace Go.Proofs.YtmjcnomgpikncaaGreatDoor

open Go.RowKit Go.Deep

set_option linter.unusedVariables false

set_option linter.unusedSimpArgs false

end Go.Proofs.YtmjcnomgpikncaaGreatDoor

/-! One step that reads is done by whatever protocol. -/
namespace Go.Proofs.YtmjcnomgpikncaaGreatDoor

open Go.RowKit Go.Deep

set_option linter.unusedVariables false

set_option linter.unusedSimpArgs false

/-- Where what was told lies. -/
def GotAt (q : Nat) (k : Nat) (g : RGot) (v : Value) (W : World) : Prop := Box7 q (.int .i64 (k : Nat)) (.int .i64 g.t) (.int .i64 g.k) (.int .i64 g.size) (.int .i64 g.id) (.int .i64 g.n) v W

theorem infoGot : (Tryz.prog.info? 49).map (fun i => (i.zero, i.size, i.bytes)) = some (some (.agg #[.int .i64 0, .int .i64 0, .int .i64 0, .int .i64 0, .int .i64 0, .int .i64 0, .slice none 0 0]), 7, 72) := by kernel_rfl

theorem row_got {q : Nat} {x0 x1 x2 x3 x4 x5 x6 : Value} {z : Array Value} {ty : TypeId} {f : Nat × Nat} {W : World} (h : W.heap[q]? = some (.cells (#[x0, x1, x2, x3, x4, x5, x6] ++ z) ty f)) : Box7 q x0 x1 x2 x3 x4 x5 x6 W := by
  have e : ∀ i (hi : i < 7), W.cell? ⟨q, i, none⟩ = (#[x0, x1, x2, x3, x4, x5, x6] : Array Value)[i]? := fun i hi => by
    rw [cell_heap h, Array.getElem?_append_left (by simpa using hi)]
  exact ⟨e 0 (by omega), e 1 (by omega), e 2 (by omega), e 3 (by omega), e 4 (by omega), e 5 (by omega), e 6 (by omega)⟩

set_option maxRecDepth 100000 in
set_option maxHeartbeats 2000000 in
theorem reads_one (P : PR) (b : Nat) (op a1 a2 a3 a4 a5 : Int) (A : Option Addr) (nA cA : Nat) {S : List Nat} {s s1 : P.σ} {w : World} {g : RGot} {k : Nat} (h : P.Is S s w) (hE : EofAt w) (hS2 : ∀ j, j ∈ S → 2 ≤ j)
    (hb : Box7 b (.int .i64 op) (.int .i64 a1) (.int .i64 a2) (.int .i64 a3) (.int .i64 a4) (.int .i64 a5) (.slice A nA cA) w) (hbl : b < w.heap.size)
    (hrd : ∀ W, Step [] [] w W → Calls Tryz.prog 73 #[.iface P.ty P.ptr, .agg #[.int .i64 op, .int .i64 a1, .int .i64 a2, .int .i64 a3, .int .i64 a4, .int .i64 a5, .slice A nA cA]] W (TellsG P g k s1 S W)) :
    Calls Tryz.prog 54 #[.iface P.ty P.ptr, .slice (some ⟨b, 0, none⟩) 1 1] w fun e w' => ∃ q cap v kb S', e = .returned (.slice (some ⟨q, 0, none⟩) 1 cap) ∧ GotAt q k g v w' ∧ IsB (Lib.byteCells g.s) v kb w' ∧ P.Is S' s1 w' ∧ Step S S' w w' := by
  obtain ⟨p0, p1, p2, p3, p4, p5, p6⟩ := hb
  obtain ⟨i0, hi, hz0, hz1, hz2⟩ := info_parts infoGot
  have HRD := Lib.hid hrd
  have HI0 := Lib.hid h
  have HEO := Lib.hid hE
  clear h hrd hE
  go_enter Tryz.func54, Tryz.ntmps54
  go_wp2_with (fail)
  refine wp_loop_rounds 2 ?_
  rw [rounds_succ]
  go_wp2_with (fail)
  refine (HRD.out _ ((Step.refl [] w).alloc _)).mono ?_
  rintro e W1 ⟨ev, v, kb, S1, rfl, hB, hkb, hkS, he, hI, hs⟩
  obtain ⟨ao, c, rfl, hc, hC⟩ := hB.ints
  clear hc hC
  have HI := Lib.hid hI
  have HB := Lib.hid hB
  have HE := Lib.hid he
  have HS := Lib.hid (((Step.refl S w).alloc (.cells #[.int .i64 op, .int .i64 a1, .int .i64 a2, .int .i64 a3, .int .i64 a4, .int .i64 a5, .slice A nA cA] 46)).trans hs)
  replace hkb : w.heap.size + 1 ≤ kb := by simpa using hkb
  have hls : w.heap.size + 1 ≤ W1.heap.size := by have := hs.size; simpa using this
  have HEK := Lib.hid (fun o => kind_any (he.step_at ((Step.refl [] W1).alloc o) (by simp)) ((HEO.out.below (B := 2) (((Below.refl _ w).alloc (by have := HEO.out.lt; omega) _).trans (hs.below 2 (by have := HEO.out.lt; simp; omega) (fun j hj => hS2 j hj))) (by omega)).below (B := 2) ((Below.refl _ W1).alloc (by have := HEO.out.lt; omega) o) (by omega)))
  clear hI hB he hs p0 p1 p2 p3 p4 p5 p6
  go_wp2_with (fail)
  refine (HEK.out _).mono ?_
  rintro e W2 ⟨rfl, hBk⟩
  have hgb := (hBk.block W1.heap.size (by simp)).trans (heap_alloc_new W1 _)
  obtain ⟨c0, c1, c2, c3, c4, c5, c6⟩ := cells7 hgb
  have hfz := frozen_heap hgb
  have hbl2 := lt_heap hgb
  have HG := Lib.hid hgb
  have HBK := Lib.hid (((Below.refl W1.heap.size W1).alloc (Nat.le_refl _) _).trans (hBk.mono (by simp)))
  clear hgb hBk
  rcases HE.out with ⟨hk0, rfl⟩ | ⟨bb, tt, er, ms, hk1, hk2, rfl, hbb⟩
  · subst hk0
    go_wp2_with (fail)
    rw [rounds_succ]
    go_wp2_with (fail)
    go_ret
    generalize hZ : Builtin.zeroCells _ _ = Z
    obtain ⟨cap, hcap⟩ : ∃ cap, (Question.appendCap 1 0 49).cut (W2.tape W2.drawn (Question.appendCap 1 0 49)) = cap := ⟨_, rfl⟩
    have h0 : Step [] [] W1 W2 := Step.ofBelow HBK.out
    obtain ⟨W3, hW3⟩ : ∃ W3, W3 = ((W2.setCell ⟨W1.heap.size, 0, none⟩ (.int .i64 0)).alloc (.cells #[.int .i64 0, .int .i64 g.t, .int .i64 g.k, .int .i64 g.size, .int .i64 g.id, .int .i64 g.n, .slice ao (ints g.s).length c] 49)).alloc (.cells (#[.int .i64 0, .int .i64 g.t, .int .i64 g.k, .int .i64 g.size, .int .i64 g.id, .int .i64 g.n, .slice ao (ints g.s).length c] ++ Z) 49) := ⟨_, rfl⟩
    have hrow : W3.heap[W2.heap.size + 1]? = some (.cells (#[.int .i64 0, .int .i64 g.t, .int .i64 g.k, .int .i64 g.size, .int .i64 g.id, .int .i64 g.n, .slice ao (ints g.s).length c] ++ Z) 49 (0, 0)) := by rw [hW3]; exact heap_alloc_at (by simp) _
    have hst : Step [W1.heap.size] [W1.heap.size] W1 W3 := by rw [hW3]; exact ((((Step.ofBelow HBK.out).setCell (.inl (by simp)) _).alloc _).alloc _)
    have hst2 : Step [] [] W1 W3 := ⟨hst.os, hst.tape, hst.output, hst.size, fun k hk hn => hst.block k hk (by simp; omega), fun k hk => by simp at hk⟩
    rw [← hW3]
    clear hW3
    exact ⟨W2.heap.size + 1, _, _, kb, S1, rfl, row_got (W := W3.drew) hrow, (HB.out.step hst2 (by simp)).step ((Step.refl [] W3).drew) (by simp), P.step HI.out hst2.drew (by simp), HS.out.trans (hst2.drew.more (by simp) (fun k hk => .inr (.inl hk)))⟩
  · clear hbb hk1 hk2
    go_wp2_with (fail)
    go_ret
    generalize hZ : Builtin.zeroCells _ _ = Z
    obtain ⟨cap, hcap⟩ : ∃ cap, (Question.appendCap 1 0 49).cut (W2.tape W2.drawn (Question.appendCap 1 0 49)) = cap := ⟨_, rfl⟩
    have h0 : Step [] [] W1 W2 := Step.ofBelow HBK.out
    obtain ⟨W3, hW3⟩ : ∃ W3, W3 = ((W2.setCell ⟨W1.heap.size, 0, none⟩ (.int .i64 (k : Nat))).alloc (.cells #[.int .i64 (k : Nat), .int .i64 g.t, .int .i64 g.k, .int .i64 g.size, .int .i64 g.id, .int .i64 g.n, .slice ao (ints g.s).length c] 49)).alloc (.cells (#[.int .i64 (k : Nat), .int .i64 g.t, .int .i64 g.k, .int .i64 g.size, .int .i64 g.id, .int .i64 g.n, .slice ao (ints g.s).length c] ++ Z) 49) := ⟨_, rfl⟩
    have hrow : W3.heap[W2.heap.size + 1]? = some (.cells (#[.int .i64 (k : Nat), .int .i64 g.t, .int .i64 g.k, .int .i64 g.size, .int .i64 g.id, .int .i64 g.n, .slice ao (ints g.s).length c] ++ Z) 49 (0, 0)) := by rw [hW3]; exact heap_alloc_at (by simp) _
    have hst : Step [W1.heap.size] [W1.heap.size] W1 W3 := by rw [hW3]; exact ((((Step.ofBelow HBK.out).setCell (.inl (by simp)) _).alloc _).alloc _)
    have hst2 : Step [] [] W1 W3 := ⟨hst.os, hst.tape, hst.output, hst.size, fun k hk hn => hst.block k hk (by simp; omega), fun k hk => by simp at hk⟩
    rw [← hW3]
    clear hW3
    exact ⟨W2.heap.size + 1, _, _, kb, S1, rfl, row_got (W := W3.drew) hrow, (HB.out.step hst2 (by simp)).step ((Step.refl [] W3).drew) (by simp), P.step HI.out hst2.drew (by simp), HS.out.trans (hst2.drew.more (by simp) (fun k hk => .inr (.inl hk)))⟩

end Go.Proofs.YtmjcnomgpikncaaGreatDoor
