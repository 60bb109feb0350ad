/- Texts, begins and steps are read by whatever protocol. No condition. -/
import Derived.Test.YthmkkbihfdcbiaaGreatDoorMv2
import Derived.Test.YthmkkbihfdcbiaaGreatDoorMt3
import Derived.Test.YthmkkbihfdcbiaaGreatDoorMn
import Derived.Deep.AppendLies
import Derived.Test.YthmkkbihfdcbiaaGreatDoorMa1
import Derived.Deep.Upon
/-! Texts and identifiers are read by whatever protocol. -/
namespace Go.Proofs.YthmkkbihfdcbiaaGreatDoor

open Go.RowKit Go.Deep

set_option linter.unusedVariables false

set_option linter.unusedSimpArgs false

theorem conv_IsB2 {w : World} (l : List UInt8) {e : TypeId} {fz : Nat × Nat} {k cap : Nat} (h1 : l.length ≤ cap) (h2 : cap ≤ maxLen) (hw : w.heap[k]? = some (.cells (bytesRow ⟨l.toArray⟩ cap) e fz)) : IsB (Lib.byteCells l) (.slice (some ⟨k, 0, none⟩) l.length cap) k w := by
  refine ⟨cap, .inr ⟨0, by rw [Lib.byteCells_length], by rw [Lib.byteCells_length]; exact h1, h2, lt_heap hw, fun j x hj => ?_⟩⟩
  have hlt : j < l.length := by have := (List.getElem?_eq_some_iff.1 hj).1; rwa [Lib.byteCells_length] at this
  rw [cell_heap hw, Nat.zero_add, bytesRow_at _ _ j (by simpa using hlt)]
  rw [← hj]
  simp [Lib.byteCells, hlt]

/-- What a step that reads tells, in memory. -/
abbrev gotV (g : RGot) (v : Value) : Value := .agg #[.int .i64 0, .int .i64 g.t, .int .i64 g.k, .int .i64 g.size, .int .i64 g.id, .int .i64 g.n, v]

def TellsG (P : PR) (g : RGot) (k : Nat) (s1 : P.σ) (S : List Nat) (w : World) (e : Ending) (w' : World) : Prop :=
  ∃ ev v kb S', e = .returned (.tuple #[gotV g v, ev]) ∧ IsB (Lib.byteCells g.s) v kb w' ∧ w.heap.size ≤ kb ∧ kb ∉ S' ∧ IsErr k ev w' ∧ P.Is S' s1 w' ∧ Step S S' w w'

set_option maxRecDepth 100000 in
set_option maxHeartbeats 2000000 in
theorem read_str (P : PR) (y1 y2 y3 y4 y5 y6 : Value) {S : List Nat} {s : P.σ} {w : World} (h : P.Is S s w) {g : RGot} {k : Nat} {s1 : P.σ} (hr : P.run s .str = some (g, k, s1)) :
    Calls Tryz.prog 58 #[.iface P.ty P.ptr, .agg #[.int .i64 19, y1, y2, y3, y4, y5, y6]] w (TellsG P { s := g.s } k s1 S w) := by
  obtain ⟨hm, hn, hen⟩ := P.m_str
  have hc := ctx_any
  have hfit := P.fits hr
  have hg : g.s.length < 2147483648 := hfit.2.2.2.2.2.2.2.2.1
  obtain ⟨l, hgl⟩ : ∃ l, g.s = l := ⟨_, rfl⟩
  have hO : ∀ W, Step [] [] w W → Calls Tryz.prog (P.fn "ReadString") #[P.ptr, ctxV] W (TellsV P.Is (fun ev => .tuple #[strV g.s, ev]) k s1 S W) := fun W hW => P.at_ h hr W hW
  rw [hgl] at hO hg ⊢
  have HO := Lib.hid hO
  have HF := Lib.hid (P.lt h)
  have hcv := fun w s => run_bytes_of_string (P := Tryz.prog) w 9 26 5 s Tryz.underlying9 Tryz.underlying26 Tryz.underlying5
  clear hO hfit hr h hgl
  go_enter Tryz.func58, Tryz.ntmps58
  go_wp2_with (fail)
  go_region_held3 (fun _ => True) (trivial)
    (first
      | (go_at_call 48; refine (hc _).mono ?_; rintro e w' ⟨rfl, rfl⟩)
      | (refine (HO.out _ ?_).mono ?_; exact (((Step.refl _ _).alloc _).alloc _).drew; rintro e W1 ⟨ev, S1, rfl, he, hI, hs⟩; have hbx := (hs.block (w.heap.size + 1) (by simp) (fun hm => by have := HF.out _ hm; omega)).trans (heap_alloc_at (by simp) _); have c0 : W1.cell? ⟨w.heap.size + 1, 0, none⟩ = some (.int .i64 0) := (cell_heap hbx _).trans rfl; have c1 : W1.cell? ⟨w.heap.size + 1, 1, none⟩ = some (.int .i64 0) := (cell_heap hbx _).trans rfl; have c2 : W1.cell? ⟨w.heap.size + 1, 2, none⟩ = some (.int .i64 0) := (cell_heap hbx _).trans rfl; have c3 : W1.cell? ⟨w.heap.size + 1, 3, none⟩ = some (.int .i64 0) := (cell_heap hbx _).trans rfl; have c4 : W1.cell? ⟨w.heap.size + 1, 4, none⟩ = some (.int .i64 0) := (cell_heap hbx _).trans rfl; have c5 : W1.cell? ⟨w.heap.size + 1, 5, none⟩ = some (.int .i64 0) := (cell_heap hbx _).trans rfl; have c6 : W1.cell? ⟨w.heap.size + 1, 6, none⟩ = some (.slice none 0 0) := (cell_heap hbx _).trans rfl; have hfz := frozen_heap hbx; have hbl := lt_heap hbx; have HX := Lib.hid hbx; have HE := Lib.hid he; have HI := Lib.hid hI; have HS := Lib.hid hs; clear he hI hs hbx))
  all_goals go_wp2
  all_goals (
    have hm : l.length ≤ maxLen := by unfold maxLen; omega
    have hgc := grownCap_ge W1 l.length 0 5
    have hgm := grownCap_le_maxLen W1 l.length 0 5 hm
    obtain ⟨cap, hcap⟩ : ∃ c, grownCap W1 l.length 0 5 = c := ⟨_, rfl⟩
    rw [hcap] at hgc hgm ⊢
    obtain ⟨W2, e2, h2, hs2⟩ := set7 HX.out (.int .i64 0) (.int .i64 0) (.int .i64 0) (.int .i64 0) (.int .i64 0) (.int .i64 0) (.slice (some ⟨W1.heap.size, 0, none⟩) l.length cap)
    rw [e2]
    have hsz2 : W2.heap.size = W1.heap.size := by rw [← e2]; simp
    obtain ⟨W3, hW3⟩ : ∃ W3, W3 = (W2.alloc (.cells (bytesRow ⟨l.toArray⟩ cap) 5 ((bytesRow ⟨l.toArray⟩ cap).size, (bytesRow ⟨l.toArray⟩ cap).size + 1))).drew := ⟨_, rfl⟩
    rw [← hW3]
    have h3 : W3.heap[w.heap.size + 1]? = some (.cells #[.int .i64 0, .int .i64 0, .int .i64 0, .int .i64 0, .int .i64 0, .int .i64 0, .slice (some ⟨W1.heap.size, 0, none⟩) l.length cap] 48 (0, 0)) := by rw [hW3]; exact heap_alloc_old h2 _
    have hrow : W3.heap[W1.heap.size]? = some (.cells (bytesRow ⟨l.toArray⟩ cap) 5 ((bytesRow ⟨l.toArray⟩ cap).size, (bytesRow ⟨l.toArray⟩ cap).size + 1)) := by rw [hW3, ← hsz2]; exact heap_alloc_new W2 _
    have hs3 : Step [w.heap.size + 1] [w.heap.size + 1] W1 W3 := by rw [hW3]; exact (hs2.alloc _).drew
    clear hW3
    have r0 : W3.cell? ⟨w.heap.size + 1, 0, none⟩ = some (.int .i64 0) := (cell_heap h3 _).trans rfl
    have r1 : W3.cell? ⟨w.heap.size + 1, 1, none⟩ = some (.int .i64 0) := (cell_heap h3 _).trans rfl
    have r2 : W3.cell? ⟨w.heap.size + 1, 2, none⟩ = some (.int .i64 0) := (cell_heap h3 _).trans rfl
    have r3 : W3.cell? ⟨w.heap.size + 1, 3, none⟩ = some (.int .i64 0) := (cell_heap h3 _).trans rfl
    have r4 : W3.cell? ⟨w.heap.size + 1, 4, none⟩ = some (.int .i64 0) := (cell_heap h3 _).trans rfl
    have r5 : W3.cell? ⟨w.heap.size + 1, 5, none⟩ = some (.int .i64 0) := (cell_heap h3 _).trans rfl
    have r6 : W3.cell? ⟨w.heap.size + 1, 6, none⟩ = some (.slice (some ⟨W1.heap.size, 0, none⟩) l.length cap) := (cell_heap h3 _).trans rfl
    refine bodyPost_ret (v := .tuple #[gotV { s := l } (.slice (some ⟨W1.heap.size, 0, none⟩) l.length cap), ev]) (by simp [results, Tryz.results58, go_sem, *]) rfl ?_
    have hsz : ∀ j, j ∈ S1 → j ∉ [w.heap.size + 1] := fun j hj hm => by
      simp only [List.mem_cons, List.not_mem_nil, or_false] at hm
      rcases HS.out.own j hj with h' | h'
      · have := HF.out _ h'; omega
      · simp at h'; omega
    exact ⟨ev, _, W1.heap.size, S1, rfl, conv_IsB2 l hgc hgm hrow, by omega, fun hm => Nat.lt_irrefl _ (P.lt HI.out _ hm), HE.out.step_at hs3 (fun b hb => by simp only [List.mem_cons, List.not_mem_nil, or_false] at hb; subst hb; exact ⟨_, _, _, HX.out, by decide⟩), P.step HI.out hs3 hsz, (((((Step.refl _ _).alloc _).alloc _).drew).trans HS.out).fresh hs3 (by simp)⟩)

end Go.Proofs.YthmkkbihfdcbiaaGreatDoor

/-! The begins of messages are read by whatever protocol. -/
namespace Go.Proofs.YthmkkbihfdcbiaaGreatDoor

open Go.RowKit Go.Deep

set_option linter.unusedVariables false

set_option linter.unusedSimpArgs false

end Go.Proofs.YthmkkbihfdcbiaaGreatDoor

/-! The begins of lists are read by whatever protocol. -/
namespace Go.Proofs.YthmkkbihfdcbiaaGreatDoor

open Go.RowKit Go.Deep

set_option linter.unusedVariables false

set_option linter.unusedSimpArgs false

end Go.Proofs.YthmkkbihfdcbiaaGreatDoor

/-! The begins of sets are read by whatever protocol. -/
namespace Go.Proofs.YthmkkbihfdcbiaaGreatDoor

open Go.RowKit Go.Deep

set_option linter.unusedVariables false

set_option linter.unusedSimpArgs false

end Go.Proofs.YthmkkbihfdcbiaaGreatDoor

/-! The begins of maps are read by whatever protocol. -/
namespace Go.Proofs.YthmkkbihfdcbiaaGreatDoor

open Go.RowKit Go.Deep

set_option linter.unusedVariables false

set_option linter.unusedSimpArgs false

end Go.Proofs.YthmkkbihfdcbiaaGreatDoor

/-! Steps that begin something are read by whatever protocol. -/
namespace Go.Proofs.YthmkkbihfdcbiaaGreatDoor

open Go.RowKit Go.Deep

set_option linter.unusedVariables false

set_option linter.unusedSimpArgs false

end Go.Proofs.YthmkkbihfdcbiaaGreatDoor

/-! One step that reads is done by whatever protocol. -/
namespace Go.Proofs.YthmkkbihfdcbiaaGreatDoor

open Go.RowKit Go.Deep

set_option linter.unusedVariables false

set_option linter.unusedSimpArgs false

/-- Where what was told lies. -/
def GotAt (q : Nat) (k : Nat) (g : RGot) (v : Value) (W : World) : Prop := Box7 q (.int .i64 (k : Nat)) (.int .i64 g.t) (.int .i64 g.k) (.int .i64 g.size) (.int .i64 g.id) (.int .i64 g.n) v W

theorem infoGot : (Tryz.prog.info? 48).map (fun i => (i.zero, i.size, i.bytes)) = some (some (.agg #[.int .i64 0, .int .i64 0, .int .i64 0, .int .i64 0, .int .i64 0, .int .i64 0, .slice none 0 0]), 7, 72) := by kernel_rfl

theorem row_got {q : Nat} {x0 x1 x2 x3 x4 x5 x6 : Value} {z : Array Value} {ty : TypeId} {f : Nat × Nat} {W : World} (h : W.heap[q]? = some (.cells (#[x0, x1, x2, x3, x4, x5, x6] ++ z) ty f)) : Box7 q x0 x1 x2 x3 x4 x5 x6 W := by
  have e : ∀ i (hi : i < 7), W.cell? ⟨q, i, none⟩ = (#[x0, x1, x2, x3, x4, x5, x6] : Array Value)[i]? := fun i hi => by
    rw [cell_heap h, Array.getElem?_append_left (by simpa using hi)]
  exact ⟨e 0 (by omega), e 1 (by omega), e 2 (by omega), e 3 (by omega), e 4 (by omega), e 5 (by omega), e 6 (by omega)⟩

set_option maxRecDepth 100000 in
set_option maxHeartbeats 2000000 in
theorem reads_one (P : PR) (b : Nat) (op a1 a2 a3 a4 a5 : Int) (A : Option Addr) (nA cA : Nat) {S : List Nat} {s s1 : P.σ} {w : World} {g : RGot} {k : Nat} (h : P.Is S s w) (hE : EofAt w) (hS2 : ∀ j, j ∈ S → 2 ≤ j)
    (hb : Box7 b (.int .i64 op) (.int .i64 a1) (.int .i64 a2) (.int .i64 a3) (.int .i64 a4) (.int .i64 a5) (.slice A nA cA) w) (hbl : b < w.heap.size)
    (hrd : ∀ W, Step [] [] w W → Calls Tryz.prog 58 #[.iface P.ty P.ptr, .agg #[.int .i64 op, .int .i64 a1, .int .i64 a2, .int .i64 a3, .int .i64 a4, .int .i64 a5, .slice A nA cA]] W (TellsG P g k s1 S W)) :
    Calls Tryz.prog 44 #[.iface P.ty P.ptr, .slice (some ⟨b, 0, none⟩) 1 1] w fun e w' => ∃ q cap v kb S', e = .returned (.slice (some ⟨q, 0, none⟩) 1 cap) ∧ GotAt q k g v w' ∧ IsB (Lib.byteCells g.s) v kb w' ∧ P.Is S' s1 w' ∧ Step S S' w w' := by
  obtain ⟨p0, p1, p2, p3, p4, p5, p6⟩ := hb
  obtain ⟨i0, hi, hz0, hz1, hz2⟩ := info_parts infoGot
  have HRD := Lib.hid hrd
  have HI0 := Lib.hid h
  have HEO := Lib.hid hE
  clear h hrd hE
  go_enter Tryz.func44, Tryz.ntmps44
  go_wp2_with (fail)
  refine wp_loop_rounds 2 ?_
  rw [rounds_succ]
  go_wp2_with (fail)
  refine (HRD.out _ ((Step.refl [] w).alloc _)).mono ?_
  rintro e W1 ⟨ev, v, kb, S1, rfl, hB, hkb, hkS, he, hI, hs⟩
  obtain ⟨ao, c, rfl, hc, hC⟩ := hB.ints
  clear hc hC
  have HI := Lib.hid hI
  have HB := Lib.hid hB
  have HE := Lib.hid he
  have HS := Lib.hid (((Step.refl S w).alloc (.cells #[.int .i64 op, .int .i64 a1, .int .i64 a2, .int .i64 a3, .int .i64 a4, .int .i64 a5, .slice A nA cA] 46)).trans hs)
  replace hkb : w.heap.size + 1 ≤ kb := by simpa using hkb
  have hls : w.heap.size + 1 ≤ W1.heap.size := by have := hs.size; simpa using this
  have HEK := Lib.hid (fun o => kind_any (he.step_at ((Step.refl [] W1).alloc o) (by simp)) ((HEO.out.below (B := 2) (((Below.refl _ w).alloc (by have := HEO.out.lt; omega) _).trans (hs.below 2 (by have := HEO.out.lt; simp; omega) (fun j hj => hS2 j hj))) (by omega)).below (B := 2) ((Below.refl _ W1).alloc (by have := HEO.out.lt; omega) o) (by omega)))
  clear hI hB he hs p0 p1 p2 p3 p4 p5 p6
  go_wp2_with (fail)
  refine (HEK.out _).mono ?_
  rintro e W2 ⟨rfl, hBk⟩
  have hgb := (hBk.block W1.heap.size (by simp)).trans (heap_alloc_new W1 _)
  have c0 : W2.cell? ⟨W1.heap.size, 0, none⟩ = some (.int .i64 0) := (cell_heap hgb _).trans rfl
  have c1 : W2.cell? ⟨W1.heap.size, 1, none⟩ = some (.int .i64 g.t) := (cell_heap hgb _).trans rfl
  have c2 : W2.cell? ⟨W1.heap.size, 2, none⟩ = some (.int .i64 g.k) := (cell_heap hgb _).trans rfl
  have c3 : W2.cell? ⟨W1.heap.size, 3, none⟩ = some (.int .i64 g.size) := (cell_heap hgb _).trans rfl
  have c4 : W2.cell? ⟨W1.heap.size, 4, none⟩ = some (.int .i64 g.id) := (cell_heap hgb _).trans rfl
  have c5 : W2.cell? ⟨W1.heap.size, 5, none⟩ = some (.int .i64 g.n) := (cell_heap hgb _).trans rfl
  have c6 : W2.cell? ⟨W1.heap.size, 6, none⟩ = some (.slice ao (ints g.s).length c) := (cell_heap hgb _).trans rfl
  have hfz := frozen_heap hgb
  have hbl2 := lt_heap hgb
  have HG := Lib.hid hgb
  have HBK := Lib.hid (((Below.refl W1.heap.size W1).alloc (Nat.le_refl _) _).trans (hBk.mono (by simp)))
  clear hgb hBk
  rcases HE.out with ⟨hk0, rfl⟩ | ⟨bb, tt, er, ms, hk1, hk2, rfl, hbb⟩
  · subst hk0
    go_wp2_with (fail)
    rw [rounds_succ]
    go_wp2_with (fail)
    go_ret
    generalize hZ : Builtin.zeroCells _ _ = Z
    obtain ⟨cap, hcap⟩ : ∃ cap, (Question.appendCap 1 0 48).cut (W2.tape W2.drawn (Question.appendCap 1 0 48)) = cap := ⟨_, rfl⟩
    have h0 : Step [] [] W1 W2 := Step.ofBelow HBK.out
    obtain ⟨W3, hW3⟩ : ∃ W3, W3 = ((W2.setCell ⟨W1.heap.size, 0, none⟩ (.int .i64 0)).alloc (.cells #[.int .i64 0, .int .i64 g.t, .int .i64 g.k, .int .i64 g.size, .int .i64 g.id, .int .i64 g.n, .slice ao (ints g.s).length c] 48)).alloc (.cells (#[.int .i64 0, .int .i64 g.t, .int .i64 g.k, .int .i64 g.size, .int .i64 g.id, .int .i64 g.n, .slice ao (ints g.s).length c] ++ Z) 48) := ⟨_, rfl⟩
    have hrow : W3.heap[W2.heap.size + 1]? = some (.cells (#[.int .i64 0, .int .i64 g.t, .int .i64 g.k, .int .i64 g.size, .int .i64 g.id, .int .i64 g.n, .slice ao (ints g.s).length c] ++ Z) 48 (0, 0)) := by rw [hW3]; exact heap_alloc_at (by simp) _
    have hst : Step [W1.heap.size] [W1.heap.size] W1 W3 := by rw [hW3]; exact ((((Step.ofBelow HBK.out).setCell (.inl (by simp)) _).alloc _).alloc _)
    have hst2 : Step [] [] W1 W3 := ⟨hst.os, hst.tape, hst.output, hst.size, fun k hk hn => hst.block k hk (by simp; omega), fun k hk => by simp at hk⟩
    rw [← hW3]
    clear hW3
    exact ⟨W2.heap.size + 1, _, _, kb, S1, rfl, row_got (W := W3.drew) hrow, (HB.out.step hst2 (by simp)).step ((Step.refl [] W3).drew) (by simp), P.step HI.out hst2.drew (by simp), HS.out.trans (hst2.drew.more (by simp) (fun k hk => .inr (.inl hk)))⟩
  · clear hbb hk1 hk2
    go_wp2_with (fail)
    go_ret
    generalize hZ : Builtin.zeroCells _ _ = Z
    obtain ⟨cap, hcap⟩ : ∃ cap, (Question.appendCap 1 0 48).cut (W2.tape W2.drawn (Question.appendCap 1 0 48)) = cap := ⟨_, rfl⟩
    have h0 : Step [] [] W1 W2 := Step.ofBelow HBK.out
    obtain ⟨W3, hW3⟩ : ∃ W3, W3 = ((W2.setCell ⟨W1.heap.size, 0, none⟩ (.int .i64 (k : Nat))).alloc (.cells #[.int .i64 (k : Nat), .int .i64 g.t, .int .i64 g.k, .int .i64 g.size, .int .i64 g.id, .int .i64 g.n, .slice ao (ints g.s).length c] 48)).alloc (.cells (#[.int .i64 (k : Nat), .int .i64 g.t, .int .i64 g.k, .int .i64 g.size, .int .i64 g.id, .int .i64 g.n, .slice ao (ints g.s).length c] ++ Z) 48) := ⟨_, rfl⟩
    have hrow : W3.heap[W2.heap.size + 1]? = some (.cells (#[.int .i64 (k : Nat), .int .i64 g.t, .int .i64 g.k, .int .i64 g.size, .int .i64 g.id, .int .i64 g.n, .slice ao (ints g.s).length c] ++ Z) 48 (0, 0)) := by rw [hW3]; exact heap_alloc_at (by simp) _
    have hst : Step [W1.heap.size] [W1.heap.size] W1 W3 := by rw [hW3]; exact ((((Step.ofBelow HBK.out).setCell (.inl (by simp)) _).alloc _).alloc _)
    have hst2 : Step [] [] W1 W3 := ⟨hst.os, hst.tape, hst.output, hst.size, fun k hk hn => hst.block k hk (by simp; omega), fun k hk => by simp at hk⟩
    rw [← hW3]
    clear hW3
    exact ⟨W2.heap.size + 1, _, _, kb, S1, rfl, row_got (W := W3.drew) hrow, (HB.out.step hst2 (by simp)).step ((Step.refl [] W3).drew) (by simp), P.step HI.out hst2.drew (by simp), HS.out.trans (hst2.drew.more (by simp) (fun k hk => .inr (.inl hk)))⟩

end Go.Proofs.YthmkkbihfdcbiaaGreatDoor

/-! A copy of bytes; binaries and uuids are read by whatever protocol. -/
namespace Go.Proofs.YthmkkbihfdcbiaaGreatDoor

open Go.RowKit Go.Deep

set_option linter.unusedVariables false

set_option linter.unusedSimpArgs false

theorem grownBy_step {w w1 : World} (h : w.grownBy w1 none) : Step [] [] w w1 :=
  ⟨h.os, h.tape, h.output, h.size, fun k hk _ => h.block k hk (fun e => by cases e), fun k hk => by simp at hk⟩

theorem wpList_append_none {P : Program} {ops : Array Oper} {rest : List Oper} {o : Oper} {a : Act} {Q : Exit → Act → World → Prop} {w : World} (hgd : o.guard = none) (s x : Operand) (t : TypeId)
    (ho : o.op = .call { callee := .builtin .append, args := #[s, x], argTypes := #[t, t] }) (e : TypeId) (i : TypeInfo) (ht : P.underlying t = some (.slice e)) (hi : P.info? e = some i)
    (v : Value) (hs : a.eval s = .slice none 0 0) (hx : a.eval x = v) (hsrc : Src P i.size t v 0 [] w) (h : wpList P ops Q rest (a.put o.dst (.slice none 0 0)) w) : wpList P ops Q (o :: rest) a w :=
  wpList_plain hgd fun _ hK => by
    have hr := run_append_nothing (P := P) w t t o.type e i ht hi none 0 0 (Nat.le_refl _) v hsrc
    unfold Oper.wp execOp
    simp only [ho, resolve, invoke, builtin, Sem.run_bind, Sem.run_pure, Result.andThen_ok, List.map_toArray, List.map_cons, List.map_nil, hs, hx, hr]
    exact hK _ _ h

/-- A copy of bytes. -/
def Copied (cs : List Value) (w : World) (e : Ending) (w' : World) : Prop :=
  ∃ A c k, e = .returned (.slice A cs.length c) ∧ IsB cs (.slice A cs.length c) k w' ∧ w.heap.size ≤ k ∧ Step [] [] w w'

set_option maxRecDepth 100000 in
set_option maxHeartbeats 2000000 in
theorem owned_any (cs : List Value) (v : Value) (k : Nat) (w : World) (h : IsB cs v k w) (h1 : ∀ x ∈ cs, x.oneCell' = true) (hl : cs.length ≤ 2147483648) :
    Calls Tryz.prog 71 #[v] w (Copied cs w) := by
  obtain ⟨i0, hi, hz0, hz1, hz2⟩ := info_parts info8
  by_cases h0 : cs.length = 0
  · have hcs : cs = [] := List.eq_nil_of_length_eq_zero h0
    subst hcs
    obtain ⟨A, c, rfl⟩ : ∃ A c, v = .slice A 0 c := by
      obtain ⟨c, ⟨rfl, _⟩ | ⟨o, rfl, _⟩⟩ := h
      · exact ⟨none, 0, rfl⟩
      · exact ⟨_, _, rfl⟩
    have hsrc : Src Tryz.prog i0.size 26 (.slice A 0 c) 0 [] w := by
      cases A with
      | none => exact Src.ofNil w Tryz.underlying26 c
      | some a => exact Src.ofSlice w Tryz.underlying26 a 0 c [] (by simp) (fun j u hj => by simp at hj) (by simp)
    have HSR := Lib.hid hsrc
    clear h hsrc
    go_enter Tryz.func71, Tryz.ntmps71
    go_wp2_with (at_builtin; refine wpList_append_none rfl _ _ _ rfl 5 i0 Tryz.underlying26 hi _ rfl rfl HSR.out ?_)
    go_ret
    exact ⟨none, 0, w.heap.size, rfl, ⟨0, .inl ⟨rfl, rfl⟩⟩, Nat.le_refl _, Step.refl _ _⟩
  · obtain ⟨c, ⟨rfl, rfl⟩ | ⟨o, rfl, hc, hm, hk, hx⟩⟩ := h
    · simp at h0
    go_enter Tryz.func71, Tryz.ntmps71
    go_wp2_with (at_builtin; go_loud (refine wpList_append_lies _ rfl _ _ _ rfl 0 5 i0 (.int .u8 0) 1 1 Tryz.underlying26 hi hz0 hz1 hz2 rfl (by omega) _ _ _ rfl (World.ownsRow_nil _ _ _ _) ⟨k, o, none⟩ cs.length c cs rfl (by omega) (fun j u hj => by rw [Lib.addr_add]; exact hx j u hj) h1 (by omega) (by unfold maxLen; omega) (by omega) (by omega) _ rfl ?_); intro g1 cap1 W2 hown hgrow hat hlt)
    go_ret
    have hg1 : g1 = w.heap.size := by
      rcases hat with h | h
      · cases h
      · exact h
    subst hg1
    simp only [Nat.zero_add, List.nil_append] at hown ⊢
    refine ⟨_, _, w.heap.size, rfl, ⟨cap1, .inr ⟨0, rfl, ?_, ?_, hlt, ?_⟩⟩, Nat.le_refl _, grownBy_step hgrow⟩
    all_goals (
      rcases hown.2 with ⟨e, _⟩ | ⟨g2, cap2, cur, e, _, h2, h3, h4, h5, h6⟩
      · cases e)
    all_goals (
      injection e with e1 e2 e3
      injection e1 with e1
      injection e1 with e1 _ _
      subst e1
      subst e3)
    · exact h3
    · exact h4
    · intro j x hj
      have hj1 : j < cs.length := (List.getElem?_eq_some_iff.1 hj).1
      rw [cell_heap h2, Nat.zero_add]
      have h7 := congrArg (fun l : List Value => l[j]?) h6
      simp only [Nat.mul_one, List.getElem?_take] at h7
      rw [if_pos hj1] at h7
      rw [← hj, ← h7]
      simp

set_option maxRecDepth 100000 in
set_option maxHeartbeats 2000000 in
theorem read_bin (P : PR) (y1 y2 y3 y4 y5 y6 : Value) {S : List Nat} {s : P.σ} {w : World} (h : P.Is S s w) {g : RGot} {k : Nat} {s1 : P.σ} (hr : P.run s .str = some (g, k, s1)) :
    Calls Tryz.prog 58 #[.iface P.ty P.ptr, .agg #[.int .i64 20, y1, y2, y3, y4, y5, y6]] w (TellsG P { s := g.s } k s1 S w) := by
  have hm := P.bmeth
  have hn := P.bahead
  have hen := P.bent
  have hc := ctx_any
  have hfit := P.fits hr
  have hg : g.s.length < 2147483648 := hfit.2.2.2.2.2.2.2.2.1
  obtain ⟨l, hgl⟩ : ∃ l, g.s = l := ⟨_, rfl⟩
  have hO : ∀ W, Step [] [] w W → Calls Tryz.prog P.bfn #[P.ptr, ctxV] W (ToldB P.Is S W ({ g with s := l }, k, s1)) := fun W hW => by
    subst hgl
    exact P.bdoes (P.step h hW (by simp)) hr
  rw [hgl] at hg ⊢
  have HO := Lib.hid hO
  have HF := Lib.hid (P.lt h)
  clear hO hfit hr h hgl
  go_enter Tryz.func58, Tryz.ntmps58
  go_wp2_with (fail)
  go_region_held3 (fun _ => True) (trivial)
    (first
      | (go_at_call 48; refine (hc _).mono ?_; rintro e w' ⟨rfl, rfl⟩)
      | (refine (HO.out _ ?_).mono ?_; exact (((Step.refl _ _).alloc _).alloc _).drew; rintro e W1 ⟨v1, kb1, ev, S1, rfl, hIB, he, hI, hs⟩; have hbx := (hs.block (w.heap.size + 1) (by simp) (fun hm => by have := HF.out _ hm; omega)).trans (heap_alloc_at (by simp) _); have c0 : W1.cell? ⟨w.heap.size + 1, 0, none⟩ = some (.int .i64 0) := (cell_heap hbx _).trans rfl; have c1 : W1.cell? ⟨w.heap.size + 1, 1, none⟩ = some (.int .i64 0) := (cell_heap hbx _).trans rfl; have c2 : W1.cell? ⟨w.heap.size + 1, 2, none⟩ = some (.int .i64 0) := (cell_heap hbx _).trans rfl; have c3 : W1.cell? ⟨w.heap.size + 1, 3, none⟩ = some (.int .i64 0) := (cell_heap hbx _).trans rfl; have c4 : W1.cell? ⟨w.heap.size + 1, 4, none⟩ = some (.int .i64 0) := (cell_heap hbx _).trans rfl; have c5 : W1.cell? ⟨w.heap.size + 1, 5, none⟩ = some (.int .i64 0) := (cell_heap hbx _).trans rfl; have c6 : W1.cell? ⟨w.heap.size + 1, 6, none⟩ = some (.slice none 0 0) := (cell_heap hbx _).trans rfl; have hfz := frozen_heap hbx; have hbl := lt_heap hbx;  have HIB := Lib.hid hIB; have HX := Lib.hid hbx; have HE := Lib.hid he; have HI := Lib.hid hI; have HS := Lib.hid hs; clear he hI hs hbx hIB))
  all_goals go_wp2_with (go_at_call 71; refine (owned_any (Lib.byteCells l) v1 kb1 _ HIB.out (Lib.byteCells_one _) (by rw [Lib.byteCells_length]; omega)).mono ?_; rintro e W2 ⟨A2, cap, kb2, rfl, hB2, hk2, hs2⟩; have hbx2 := (hs2.block (w.heap.size + 1) hbl (by simp)).trans HX.out; have d0 : W2.cell? ⟨w.heap.size + 1, 0, none⟩ = some (.int .i64 0) := (cell_heap hbx2 _).trans rfl; have d1 : W2.cell? ⟨w.heap.size + 1, 1, none⟩ = some (.int .i64 0) := (cell_heap hbx2 _).trans rfl; have d2 : W2.cell? ⟨w.heap.size + 1, 2, none⟩ = some (.int .i64 0) := (cell_heap hbx2 _).trans rfl; have d3 : W2.cell? ⟨w.heap.size + 1, 3, none⟩ = some (.int .i64 0) := (cell_heap hbx2 _).trans rfl; have d4 : W2.cell? ⟨w.heap.size + 1, 4, none⟩ = some (.int .i64 0) := (cell_heap hbx2 _).trans rfl; have d5 : W2.cell? ⟨w.heap.size + 1, 5, none⟩ = some (.int .i64 0) := (cell_heap hbx2 _).trans rfl; have d6 : W2.cell? ⟨w.heap.size + 1, 6, none⟩ = some (.slice none 0 0) := (cell_heap hbx2 _).trans rfl; have hfz2 := frozen_heap hbx2; have hbl2 := lt_heap hbx2; have HX2 := Lib.hid hbx2; have HB2 := Lib.hid hB2; have HS2 := Lib.hid hs2; clear hB2 hs2 hbx2)
  all_goals (
    obtain ⟨W3, e2, h3, hs3⟩ := set7 HX2.out (.int .i64 0) (.int .i64 0) (.int .i64 0) (.int .i64 0) (.int .i64 0) (.int .i64 0) (.slice A2 (Lib.byteCells l).length cap)
    rw [e2]
    have r0 : W3.cell? ⟨w.heap.size + 1, 0, none⟩ = some (.int .i64 0) := (cell_heap h3 _).trans rfl
    have r1 : W3.cell? ⟨w.heap.size + 1, 1, none⟩ = some (.int .i64 0) := (cell_heap h3 _).trans rfl
    have r2 : W3.cell? ⟨w.heap.size + 1, 2, none⟩ = some (.int .i64 0) := (cell_heap h3 _).trans rfl
    have r3 : W3.cell? ⟨w.heap.size + 1, 3, none⟩ = some (.int .i64 0) := (cell_heap h3 _).trans rfl
    have r4 : W3.cell? ⟨w.heap.size + 1, 4, none⟩ = some (.int .i64 0) := (cell_heap h3 _).trans rfl
    have r5 : W3.cell? ⟨w.heap.size + 1, 5, none⟩ = some (.int .i64 0) := (cell_heap h3 _).trans rfl
    have r6 : W3.cell? ⟨w.heap.size + 1, 6, none⟩ = some (.slice A2 (Lib.byteCells l).length cap) := (cell_heap h3 _).trans rfl
    refine bodyPost_ret (v := .tuple #[gotV { s := l } (.slice A2 (Lib.byteCells l).length cap), ev]) (by simp [results, Tryz.results58, go_sem, *]) rfl ?_
    have hsz : ∀ j, j ∈ S1 → j ∉ [w.heap.size + 1] := fun j hj hm => by
      simp only [List.mem_cons, List.not_mem_nil, or_false] at hm
      rcases HS.out.own j hj with h' | h'
      · have := HF.out _ h'; omega
      · simp at h'; omega
    have hs13 : Step [w.heap.size + 1] [w.heap.size + 1] W1 W3 := (HS2.out.more (S1 := [w.heap.size + 1]) (T1 := [w.heap.size + 1]) (by simp) (fun k hk => .inr (.inl hk))).trans hs3
    have hl1 := HS.out.size
    simp at hl1
    exact ⟨ev, _, kb2, S1, rfl, HB2.out.step hs3 (by simp; omega), by omega, fun hm => by have := P.lt HI.out _ hm; omega, HE.out.step_at hs13 (fun b hb => by simp only [List.mem_cons, List.not_mem_nil, or_false] at hb; subst hb; exact ⟨_, _, _, HX.out, by decide⟩), P.step HI.out hs13 hsz, (((((Step.refl _ _).alloc _).alloc _).drew).trans HS.out).fresh hs13 (by simp)⟩)

end Go.Proofs.YthmkkbihfdcbiaaGreatDoor

/-! Uuids are read by whatever protocol. -/
namespace Go.Proofs.YthmkkbihfdcbiaaGreatDoor

open Go.RowKit Go.Deep

set_option linter.unusedVariables false

set_option linter.unusedSimpArgs false

/-- A variable of sixteen cells is there. -/
theorem zero_there' {l : List UInt8} {W : World} {B : Nat} (h : W.heap[B]? = some (.cells #[.int .u8 0, .int .u8 0, .int .u8 0, .int .u8 0, .int .u8 0, .int .u8 0, .int .u8 0, .int .u8 0, .int .u8 0, .int .u8 0, .int .u8 0, .int .u8 0, .int .u8 0, .int .u8 0, .int .u8 0, .int .u8 0] 127 (0, 0))) (hl : l.length = 16) : W.there B 0 (Lib.byteCells l).length := fun j hj => by
  rw [Lib.byteCells_length, hl] at hj
  refine ⟨?_, frozen_heap h _⟩
  rw [cell_heap h, Nat.zero_add]
  simp [hj]

theorem zero_there {l : List UInt8} (W : World) (hl : l.length = 16) : (W.alloc (.cells #[.int .u8 0, .int .u8 0, .int .u8 0, .int .u8 0, .int .u8 0, .int .u8 0, .int .u8 0, .int .u8 0, .int .u8 0, .int .u8 0, .int .u8 0, .int .u8 0, .int .u8 0, .int .u8 0, .int .u8 0, .int .u8 0] 127)).there W.heap.size 0 (Lib.byteCells l).length := zero_there' (heap_alloc_new W _) hl

set_option maxRecDepth 100000 in
set_option maxHeartbeats 2000000 in
theorem read_uuid (P : PR) (y1 y2 y3 y4 y5 y6 : Value) {S : List Nat} {s : P.σ} {w : World} (h : P.Is S s w) {g : RGot} {k : Nat} {s1 : P.σ} (hr : P.run s .uuid = some (g, k, s1)) :
    Calls Tryz.prog 58 #[.iface P.ty P.ptr, .agg #[.int .i64 21, y1, y2, y3, y4, y5, y6]] w (TellsG P { s := g.s } k s1 S w) := by
  obtain ⟨hm, hn, hen⟩ := P.m_uuid
  have hc := ctx_any
  have hfit := P.fits hr
  have hg : g.s.length = 16 := hfit.2.2.2.2.2.2.2.2.2 rfl
  obtain ⟨l, hgl⟩ : ∃ l, g.s = l := ⟨_, rfl⟩
  have hO : ∀ W, Step [] [] w W → Calls Tryz.prog (P.fn "ReadUUID") #[P.ptr, ctxV] W (TellsV P.Is (fun ev => .tuple #[.agg (Lib.byteCells g.s).toArray, ev]) k s1 S W) := fun W hW => P.at_ h hr W hW
  rw [hgl] at hO hg ⊢
  have HO := Lib.hid hO
  have hin : (Tryz.prog.info? 127).map (·.size) = some (Lib.byteCells l).length := by rw [Lib.byteCells_length, hg]; exact infoUuid
  have hone : ∀ v, v ∈ Lib.byteCells l → v.oneCell' = true := Lib.byteCells_one _
  have HF := Lib.hid (P.lt h)
  clear hO hfit hr h hgl
  go_enter Tryz.func58, Tryz.ntmps58
  go_wp2_with (fail)
  go_region_held3 (fun _ => True) (trivial)
    (first
      | (go_at_call 48; refine (hc _).mono ?_; rintro e w' ⟨rfl, rfl⟩)
      | (with_reducible refine (HO.out _ (((Step.refl [] w).alloc _).alloc _).drew).mono ?_; rintro e W1 ⟨ev, S1, rfl, he, hI, hs⟩; have hbx := (hs.block (w.heap.size + 1) (by simp) (fun hm => by have := HF.out _ hm; omega)).trans (heap_alloc_at (by simp) _); have c0 : W1.cell? ⟨w.heap.size + 1, 0, none⟩ = some (.int .i64 0) := (cell_heap hbx _).trans rfl; have c1 : W1.cell? ⟨w.heap.size + 1, 1, none⟩ = some (.int .i64 0) := (cell_heap hbx _).trans rfl; have c2 : W1.cell? ⟨w.heap.size + 1, 2, none⟩ = some (.int .i64 0) := (cell_heap hbx _).trans rfl; have c3 : W1.cell? ⟨w.heap.size + 1, 3, none⟩ = some (.int .i64 0) := (cell_heap hbx _).trans rfl; have c4 : W1.cell? ⟨w.heap.size + 1, 4, none⟩ = some (.int .i64 0) := (cell_heap hbx _).trans rfl; have c5 : W1.cell? ⟨w.heap.size + 1, 5, none⟩ = some (.int .i64 0) := (cell_heap hbx _).trans rfl; have c6 : W1.cell? ⟨w.heap.size + 1, 6, none⟩ = some (.slice none 0 0) := (cell_heap hbx _).trans rfl; have hfz := frozen_heap hbx; have hth := zero_there W1 hg; have hbl := lt_heap hbx; have HX := Lib.hid hbx; have HE := Lib.hid he; have HI := Lib.hid hI; have HS := Lib.hid hs; clear he hI hs hbx)
      | (with_reducible refine (HO.out _ ((((Step.refl [] w).alloc _).alloc _).alloc _).drew).mono ?_; rintro e W1 ⟨ev, S1, rfl, he, hI, hs⟩; have hbx := (hs.block (w.heap.size + 1) (by simp) (fun hm => by have := HF.out _ hm; omega)).trans (heap_alloc_old (heap_alloc_at (by simp) _) _); have hbz := (hs.block (w.heap.size + 1 + 1) (by simp) (fun hm => by have := HF.out _ hm; omega)).trans (heap_alloc_at (by simp) _); have c0 : W1.cell? ⟨w.heap.size + 1, 0, none⟩ = some (.int .i64 0) := (cell_heap hbx _).trans rfl; have c1 : W1.cell? ⟨w.heap.size + 1, 1, none⟩ = some (.int .i64 0) := (cell_heap hbx _).trans rfl; have c2 : W1.cell? ⟨w.heap.size + 1, 2, none⟩ = some (.int .i64 0) := (cell_heap hbx _).trans rfl; have c3 : W1.cell? ⟨w.heap.size + 1, 3, none⟩ = some (.int .i64 0) := (cell_heap hbx _).trans rfl; have c4 : W1.cell? ⟨w.heap.size + 1, 4, none⟩ = some (.int .i64 0) := (cell_heap hbx _).trans rfl; have c5 : W1.cell? ⟨w.heap.size + 1, 5, none⟩ = some (.int .i64 0) := (cell_heap hbx _).trans rfl; have c6 : W1.cell? ⟨w.heap.size + 1, 6, none⟩ = some (.slice none 0 0) := (cell_heap hbx _).trans rfl; have hfz := frozen_heap hbx; have hth := zero_there' hbz hg; have HZ := Lib.hid hbz; have hbl := lt_heap hbx; have HX := Lib.hid hbx; have HE := Lib.hid he; have HI := Lib.hid hI; have HS := Lib.hid hs; clear he hI hs hbx hbz))
  all_goals (
    have hone' := hone
    have hrow := World.rangeAt_setCells_same _ _ 0 (Lib.byteCells l) hth
    have hl1 := HS.out.size
    simp at hl1
    have hlen : (Lib.byteCells l).length = 16 := by rw [Lib.byteCells_length]; exact hg
    first
      | (obtain ⟨B, hB⟩ : ∃ B, B = W1.heap.size := ⟨_, rfl⟩; obtain ⟨WB, hWB⟩ : ∃ WB, WB = (W1.alloc (.cells #[.int .u8 0, .int .u8 0, .int .u8 0, .int .u8 0, .int .u8 0, .int .u8 0, .int .u8 0, .int .u8 0, .int .u8 0, .int .u8 0, .int .u8 0, .int .u8 0, .int .u8 0, .int .u8 0, .int .u8 0, .int .u8 0] 127)).setCells W1.heap.size 0 (Lib.byteCells l) := ⟨_, rfl⟩; rw [← hWB]; (have hf : WB.rangeAt B 0 (Lib.byteCells l) ∧ Step [B] [B] W1 WB ∧ B < WB.heap.size ∧ w.heap.size + 1 < B ∧ B ∉ S1 ∧ Step S S1 w W1 ∧ (∀ bb cs f, W1.heap[bb]? = some (.cells cs 302 f) → bb ≠ B) := by (rw [hWB, hB]; exact ⟨hrow, ((Step.refl [W1.heap.size] W1).alloc _).setCells (.inl (by simp)) 0 _, Nat.lt_of_lt_of_le (by simp) ((Step.refl [W1.heap.size] (W1.alloc _)).setCells (.inl (by simp)) 0 (Lib.byteCells l)).size, by omega, fun hm => Nat.lt_irrefl _ (P.lt HI.out _ hm), ((((Step.refl S w).alloc _).alloc _).drew).trans HS.out, fun bb cs f h1 h2 => by (subst h2; exact absurd (lt_heap h1) (Nat.lt_irrefl _))⟩)); rw [← hB]; clear hWB hB)
      | (obtain ⟨B, hB⟩ : ∃ B, B = w.heap.size + 1 + 1 := ⟨_, rfl⟩; obtain ⟨WB, hWB⟩ : ∃ WB, WB = W1.setCells (w.heap.size + 1 + 1) 0 (Lib.byteCells l) := ⟨_, rfl⟩; rw [← hWB]; (have hf : WB.rangeAt B 0 (Lib.byteCells l) ∧ Step [B] [B] W1 WB ∧ B < WB.heap.size ∧ w.heap.size + 1 < B ∧ B ∉ S1 ∧ Step S S1 w W1 ∧ (∀ bb cs f, W1.heap[bb]? = some (.cells cs 302 f) → bb ≠ B) := by (rw [hWB, hB]; exact ⟨hrow, (Step.refl [w.heap.size + 1 + 1] W1).setCells (.inl (by simp)) 0 _, Nat.lt_of_lt_of_le (lt_heap HZ.out) ((Step.refl [w.heap.size + 1 + 1] W1).setCells (.inl (by simp)) 0 (Lib.byteCells l)).size, by omega, fun hm => by (rcases HS.out.own _ hm with h' | h'; (have := HF.out _ h'; omega); (simp at h'; omega)), (((((Step.refl S w).alloc _).alloc _).alloc _).drew).trans HS.out, fun bb cs f h1 h2 => by (subst h2; have h3 := HZ.out.symm.trans h1; injection h3 with h3; injection h3 with _ h3; exact absurd h3 (by decide))⟩)); rw [← hB]; clear hWB hB)
    obtain ⟨hrw, hst, hBl, hBg, hBS, hsw, hBE⟩ := hf
    have HSW := Lib.hid hsw
    have HBE := Lib.hid hBE
    clear hsw hBE
    have hIB : IsB (Lib.byteCells l) (.slice (some ⟨B, 0, none⟩) 16 16) B WB := ⟨16, .inr ⟨0, by rw [hlen], by rw [hlen]; exact Nat.le_refl _, by unfold maxLen; omega, hBl, hrw⟩⟩
    have hbx3 := (hst.block (w.heap.size + 1) hbl (by simp; omega)).trans HX.out
    have e0 : WB.cell? ⟨w.heap.size + 1, 0, none⟩ = some (.int .i64 0) := (cell_heap hbx3 _).trans rfl
    have e1 : WB.cell? ⟨w.heap.size + 1, 1, none⟩ = some (.int .i64 0) := (cell_heap hbx3 _).trans rfl
    have e2 : WB.cell? ⟨w.heap.size + 1, 2, none⟩ = some (.int .i64 0) := (cell_heap hbx3 _).trans rfl
    have e3 : WB.cell? ⟨w.heap.size + 1, 3, none⟩ = some (.int .i64 0) := (cell_heap hbx3 _).trans rfl
    have e4 : WB.cell? ⟨w.heap.size + 1, 4, none⟩ = some (.int .i64 0) := (cell_heap hbx3 _).trans rfl
    have e5 : WB.cell? ⟨w.heap.size + 1, 5, none⟩ = some (.int .i64 0) := (cell_heap hbx3 _).trans rfl
    have e6 : WB.cell? ⟨w.heap.size + 1, 6, none⟩ = some (.slice none 0 0) := (cell_heap hbx3 _).trans rfl
    have hfz3 := frozen_heap hbx3
    have hbl3 := lt_heap hbx3
    have HX3 := Lib.hid hbx3
    have HIB := Lib.hid hIB
    have HST := Lib.hid hst
    clear hrow hrw hst hbx3 hIB hth c0 c1 c2 c3 c4 c5 c6 hfz hbl
    go_wp2_with (fail)
    refine (owned_any (Lib.byteCells l) _ B _ HIB.out hone (by rw [hlen]; omega)).mono ?_
    rintro e W2 ⟨A2, cap, kb2, rfl, hB2, hk2, hs2⟩
    have hbx2 := (hs2.block (w.heap.size + 1) hbl3 (by simp)).trans HX3.out
    have d0 : W2.cell? ⟨w.heap.size + 1, 0, none⟩ = some (.int .i64 0) := (cell_heap hbx2 _).trans rfl
    have d1 : W2.cell? ⟨w.heap.size + 1, 1, none⟩ = some (.int .i64 0) := (cell_heap hbx2 _).trans rfl
    have d2 : W2.cell? ⟨w.heap.size + 1, 2, none⟩ = some (.int .i64 0) := (cell_heap hbx2 _).trans rfl
    have d3 : W2.cell? ⟨w.heap.size + 1, 3, none⟩ = some (.int .i64 0) := (cell_heap hbx2 _).trans rfl
    have d4 : W2.cell? ⟨w.heap.size + 1, 4, none⟩ = some (.int .i64 0) := (cell_heap hbx2 _).trans rfl
    have d5 : W2.cell? ⟨w.heap.size + 1, 5, none⟩ = some (.int .i64 0) := (cell_heap hbx2 _).trans rfl
    have d6 : W2.cell? ⟨w.heap.size + 1, 6, none⟩ = some (.slice none 0 0) := (cell_heap hbx2 _).trans rfl
    have hfz2 := frozen_heap hbx2
    have hbl2 := lt_heap hbx2
    have HX2 := Lib.hid hbx2
    rw [hlen] at hB2
    have HB2 := Lib.hid hB2
    have HS2 := Lib.hid hs2
    clear hB2 hs2 hbx2 e0 e1 e2 e3 e4 e5 e6
    go_wp2
    obtain ⟨W3, e2, h3, hs3⟩ := set7 HX2.out (.int .i64 0) (.int .i64 0) (.int .i64 0) (.int .i64 0) (.int .i64 0) (.int .i64 0) (.slice A2 16 cap)
    rw [e2]
    have r0 : W3.cell? ⟨w.heap.size + 1, 0, none⟩ = some (.int .i64 0) := (cell_heap h3 _).trans rfl
    have r1 : W3.cell? ⟨w.heap.size + 1, 1, none⟩ = some (.int .i64 0) := (cell_heap h3 _).trans rfl
    have r2 : W3.cell? ⟨w.heap.size + 1, 2, none⟩ = some (.int .i64 0) := (cell_heap h3 _).trans rfl
    have r3 : W3.cell? ⟨w.heap.size + 1, 3, none⟩ = some (.int .i64 0) := (cell_heap h3 _).trans rfl
    have r4 : W3.cell? ⟨w.heap.size + 1, 4, none⟩ = some (.int .i64 0) := (cell_heap h3 _).trans rfl
    have r5 : W3.cell? ⟨w.heap.size + 1, 5, none⟩ = some (.int .i64 0) := (cell_heap h3 _).trans rfl
    have r6 : W3.cell? ⟨w.heap.size + 1, 6, none⟩ = some (.slice A2 16 cap) := (cell_heap h3 _).trans rfl
    refine bodyPost_ret (v := .tuple #[gotV { s := l } (.slice A2 16 cap), ev]) (by simp [results, Tryz.results58, go_sem, *]) rfl ?_
    have hs13 : Step [B, w.heap.size + 1] [B, w.heap.size + 1] W1 W3 := ((HST.out.more (S1 := [B, w.heap.size + 1]) (T1 := [B, w.heap.size + 1]) (by simp) (fun k hk => .inr (.inl hk))).trans (HS2.out.more (S1 := [B, w.heap.size + 1]) (T1 := [B, w.heap.size + 1]) (by simp) (fun k hk => .inr (.inl hk)))).trans (hs3.more (S1 := [B, w.heap.size + 1]) (T1 := [B, w.heap.size + 1]) (by simp) (fun k hk => .inr (.inl hk)))
    have hsz : ∀ j, j ∈ S1 → j ∉ [B, w.heap.size + 1] := fun j hj hm => by
      simp only [List.mem_cons, List.not_mem_nil, or_false] at hm
      rcases hm with rfl | rfl
      · exact hBS hj
      · rcases HS.out.own _ hj with h' | h'
        · have := HF.out _ h'; omega
        · simp at h'; omega
    have hl2 := HST.out.size
    refine ⟨ev, _, kb2, S1, rfl, HB2.out.step hs3 (by simp; omega), by omega, fun hm => by have := P.lt HI.out _ hm; omega, ?_, P.step HI.out hs13 hsz, ?_⟩
    · rcases HE.out with h0 | ⟨bb, tt, er, ms, hk1, hk3, hv3, hbb⟩
      · exact .inl h0
      · refine .inr ⟨bb, tt, er, ms, hk1, hk3, hv3, (hs13.block bb (lt_heap hbb) (fun hm => ?_)).trans hbb⟩
        simp only [List.mem_cons, List.not_mem_nil, or_false] at hm
        rcases hm with rfl | rfl
        · exact HBE.out _ _ _ hbb rfl
        · have := HX.out.symm.trans hbb
          injection this with this
          injection this with _ this
          exact absurd this (by decide)
    · exact HSW.out.fresh hs13 (fun k hk => by simp only [List.mem_cons, List.not_mem_nil, or_false] at hk; omega))

end Go.Proofs.YthmkkbihfdcbiaaGreatDoor
