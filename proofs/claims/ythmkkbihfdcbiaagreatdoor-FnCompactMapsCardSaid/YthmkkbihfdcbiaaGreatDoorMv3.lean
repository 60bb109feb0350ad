/- Texts, begins and steps are read by whatever protocol. No condition. -/
import Derived.Test.YthmkkbihfdcbiaaGreatDoorMv2
import Derived.Test.YthmkkbihfdcbiaaGreatDoorMt3
import Derived.Test.YthmkkbihfdcbiaaGreatDoorMn
import Derived.Deep.AppendLies
/-! Texts and identifiers are read by whatever protocol. -/
namespace Go.Proofs.YthmkkbihfdcbiaaGreatDoor

open Go.RowKit Go.Deep

set_option linter.unusedVariables false

set_option linter.unusedSimpArgs false

/-- What a step that reads tells, in memory. -/
abbrev gotV (g : RGot) (v : Value) : Value := .agg #[.int .i64 0, .int .i64 g.t, .int .i64 g.k, .int .i64 g.size, .int .i64 g.id, .int .i64 g.n, v]

def TellsG (P : PR) (g : RGot) (k : Nat) (s1 : P.σ) (S : List Nat) (w : World) (e : Ending) (w' : World) : Prop :=
  ∃ ev v kb S', e = .returned (.tuple #[gotV g v, ev]) ∧ IsB (Lib.byteCells g.s) v kb w' ∧ w.heap.size ≤ kb ∧ kb ∉ S' ∧ IsErr k ev w' ∧ P.Is S' s1 w' ∧ Step S S' w w'

end Go.Proofs.YthmkkbihfdcbiaaGreatDoor

/-! The begins of messages are read by whatever protocol. -/
namespace Go.Proofs.YthmkkbihfdcbiaaGreatDoor

open Go.RowKit Go.Deep

set_option linter.unusedVariables false

set_option linter.unusedSimpArgs false

end Go.Proofs.YthmkkbihfdcbiaaGreatDoor

/-! The begins of lists are read by whatever protocol. -/
namespace Go.Proofs.YthmkkbihfdcbiaaGreatDoor

open Go.RowKit Go.Deep

set_option linter.unusedVariables false

set_option linter.unusedSimpArgs false

set_option maxRecDepth 100000 in
set_option maxHeartbeats 2000000 in
theorem begun_lst (P : PR) (y1 y2 y3 y4 y5 y6 : Value) {S : List Nat} {s : P.σ} {w : World} (h : P.Is S s w) {g : RGot} {k : Nat} {s1 : P.σ} (hr : P.run s .lstB = some (g, k, s1)) :
    Calls Tryz.prog 72 #[.iface P.ty P.ptr, .agg #[.int .i64 9, y1, y2, y3, y4, y5, y6]] w (TellsG P { t := g.t, size := g.size } k s1 S w) := by
  obtain ⟨hm, hn, hen⟩ := P.m_lstB
  have hc := ctx_any
  have hfit := P.fits hr
  have hgt : 0 ≤ g.t ∧ g.t < 256 := hfit.1 (by decide)
  have hgk : 0 ≤ g.k ∧ g.k < 256 := hfit.2.2.1
  have hgn : -2147483648 ≤ g.size ∧ g.size < 2147483648 := hfit.2.2.2.1
  obtain ⟨t, h_t⟩ : ∃ x, g.t = x := ⟨_, rfl⟩
  obtain ⟨n, h_n⟩ : ∃ x, g.size = x := ⟨_, rfl⟩
  have hO : ∀ W, Step [] [] w W → Calls Tryz.prog (P.fn "ReadListBegin") #[P.ptr, ctxV] W (TellsV P.Is (fun ev => .tuple #[.int .u8 g.t, .int .i64 g.size, ev]) k s1 S W) := fun W hW => P.at_ h hr W hW
  rw [h_t, h_n] at hO
  rw [h_t] at hgt
  rw [h_n] at hgn

  rw [h_t, h_n]
  have HO := Lib.hid hO
  have HF := Lib.hid (P.lt h)
  have hwt : IntKind.i64.wrap t = t := by rw [IntKind.wrap_i64]; omega
  have hwt2 : wrap64 t = t := by unfold wrap64; omega


  clear hO hfit hr h h_t h_n
  go_enter Tryz.func72, Tryz.ntmps72
  go_wp2_with (fail)
  go_region_held3 (fun _ => True) (trivial)
    (first
      | (go_at_call 48; refine (hc _).mono ?_; rintro e w' ⟨rfl, rfl⟩)
      | (refine (HO.out _ ?_).mono ?_; exact ((((Step.refl _ _).alloc _).alloc _).alloc _).drew; rintro e W1 ⟨ev, S1, rfl, he, hI, hs⟩; have hbx := (hs.block (w.heap.size + 1) (by simp) (fun hm => by have := HF.out _ hm; omega)).trans (heap_alloc_old (heap_alloc_at (by simp) _) _); have hbg := (hs.block (w.heap.size + 1 + 1) (by simp) (fun hm => by have := HF.out _ hm; omega)).trans (heap_alloc_at (by simp) _); have c0 : W1.cell? ⟨w.heap.size + 1, 0, none⟩ = some (.int .i64 0) := (cell_heap hbx _).trans rfl; have c1 : W1.cell? ⟨w.heap.size + 1, 1, none⟩ = some (.int .i64 0) := (cell_heap hbx _).trans rfl; have c2 : W1.cell? ⟨w.heap.size + 1, 2, none⟩ = some (.int .i64 0) := (cell_heap hbx _).trans rfl; have c3 : W1.cell? ⟨w.heap.size + 1, 3, none⟩ = some (.int .i64 0) := (cell_heap hbx _).trans rfl; have c4 : W1.cell? ⟨w.heap.size + 1, 4, none⟩ = some (.int .i64 0) := (cell_heap hbx _).trans rfl; have c5 : W1.cell? ⟨w.heap.size + 1, 5, none⟩ = some (.int .i64 0) := (cell_heap hbx _).trans rfl; have c6 : W1.cell? ⟨w.heap.size + 1, 6, none⟩ = some (.slice none 0 0) := (cell_heap hbx _).trans rfl; have d0 : W1.cell? ⟨w.heap.size + 1 + 1, 0, none⟩ = some (.int .i64 0) := (cell_heap hbg _).trans rfl; have d1 : W1.cell? ⟨w.heap.size + 1 + 1, 1, none⟩ = some (.int .i64 0) := (cell_heap hbg _).trans rfl; have d2 : W1.cell? ⟨w.heap.size + 1 + 1, 2, none⟩ = some (.int .i64 0) := (cell_heap hbg _).trans rfl; have d3 : W1.cell? ⟨w.heap.size + 1 + 1, 3, none⟩ = some (.int .i64 0) := (cell_heap hbg _).trans rfl; have d4 : W1.cell? ⟨w.heap.size + 1 + 1, 4, none⟩ = some (.int .i64 0) := (cell_heap hbg _).trans rfl; have d5 : W1.cell? ⟨w.heap.size + 1 + 1, 5, none⟩ = some (.int .i64 0) := (cell_heap hbg _).trans rfl; have d6 : W1.cell? ⟨w.heap.size + 1 + 1, 6, none⟩ = some (.slice none 0 0) := (cell_heap hbg _).trans rfl; have hfz := frozen_heap hbx; have hfg := frozen_heap hbg; have hbl := lt_heap hbx; have HX := Lib.hid hbx; have HG := Lib.hid hbg; have HE := Lib.hid he; have HI := Lib.hid hI; have HS := Lib.hid hs; clear he hI hs hbx hbg))
  all_goals go_wp2
  all_goals (
    have hx' : (((W1.setCell ⟨w.heap.size + 1 + 1, 3, none⟩ (.int .i64 n)).setCell ⟨w.heap.size + 1 + 1, 1, none⟩ (.int .i64 t)).setCell ⟨w.heap.size + 1 + 1, 2, none⟩ (.int .i64 0)).heap[w.heap.size + 1]? = some (.cells #[.int .i64 0, .int .i64 0, .int .i64 0, .int .i64 0, .int .i64 0, .int .i64 0, .slice none 0 0] 48 (0, 0)) :=
      heap_set_other (heap_set_other (heap_set_other HX.out (by show w.heap.size + 1 ≠ w.heap.size + 1 + 1; omega) _) (by show w.heap.size + 1 ≠ w.heap.size + 1 + 1; omega) _) (by show w.heap.size + 1 ≠ w.heap.size + 1 + 1; omega) _
    have hs1 : Step [w.heap.size + 1, w.heap.size + 1 + 1] [w.heap.size + 1, w.heap.size + 1 + 1] W1 (((W1.setCell ⟨w.heap.size + 1 + 1, 3, none⟩ (.int .i64 n)).setCell ⟨w.heap.size + 1 + 1, 1, none⟩ (.int .i64 t)).setCell ⟨w.heap.size + 1 + 1, 2, none⟩ (.int .i64 0)) :=
      (((Step.refl _ W1).setCell (p := ⟨w.heap.size + 1 + 1, 3, none⟩) (.inl (by simp)) _).setCell (p := ⟨w.heap.size + 1 + 1, 1, none⟩) (.inl (by simp)) _).setCell (p := ⟨w.heap.size + 1 + 1, 2, none⟩) (.inl (by simp)) _
    obtain ⟨W3, e2, h3, hs2⟩ := set7 hx' (.int .i64 0) (.int .i64 t) (.int .i64 0) (.int .i64 n) (.int .i64 0) (.int .i64 0) (.slice none 0 0)
    rw [e2]
    have hs3 := hs1.trans (hs2.more (S1 := [w.heap.size + 1, w.heap.size + 1 + 1]) (T1 := [w.heap.size + 1, w.heap.size + 1 + 1]) (by simp) (fun k hk => .inr (.inl hk)))
    clear e2 hs1 hs2 hx'
    have r0 : W3.cell? ⟨w.heap.size + 1, 0, none⟩ = some (.int .i64 0) := (cell_heap h3 _).trans rfl
    have r1 : W3.cell? ⟨w.heap.size + 1, 1, none⟩ = some (.int .i64 t) := (cell_heap h3 _).trans rfl
    have r2 : W3.cell? ⟨w.heap.size + 1, 2, none⟩ = some (.int .i64 0) := (cell_heap h3 _).trans rfl
    have r3 : W3.cell? ⟨w.heap.size + 1, 3, none⟩ = some (.int .i64 n) := (cell_heap h3 _).trans rfl
    have r4 : W3.cell? ⟨w.heap.size + 1, 4, none⟩ = some (.int .i64 0) := (cell_heap h3 _).trans rfl
    have r5 : W3.cell? ⟨w.heap.size + 1, 5, none⟩ = some (.int .i64 0) := (cell_heap h3 _).trans rfl
    have r6 : W3.cell? ⟨w.heap.size + 1, 6, none⟩ = some (.slice none 0 0) := (cell_heap h3 _).trans rfl
    refine bodyPost_ret (v := .tuple #[gotV { t := t, size := n } (.slice none 0 0), ev]) (by simp [results, Tryz.results72, go_sem, *]) rfl ?_
    have hsz : ∀ j, j ∈ S1 → j ∉ [w.heap.size + 1, w.heap.size + 1 + 1] := fun j hj hm => by
      simp only [List.mem_cons, List.not_mem_nil, or_false] at hm
      rcases HS.out.own j hj with h' | h'
      · have := HF.out _ h'; omega
      · simp at h'; omega
    have hI3 := P.step HI.out hs3 hsz
    have hwl := HS.out.size
    simp at hwl
    exact ⟨ev, .slice none 0 0, W3.heap.size, S1, rfl, ⟨0, .inl ⟨rfl, rfl⟩⟩, by have := hs3.size; omega, fun hm => Nat.lt_irrefl _ (P.lt hI3 _ hm), HE.out.step_at hs3 (fun b hb => by
      simp only [List.mem_cons, List.not_mem_nil, or_false] at hb
      rcases hb with rfl | rfl
      · exact ⟨_, _, _, HX.out, by decide⟩
      · exact ⟨_, _, _, HG.out, by decide⟩), hI3, ((((((Step.refl _ _).alloc _).alloc _).alloc _).drew).trans HS.out).fresh hs3 (fun k hk => by simp only [List.mem_cons, List.not_mem_nil, or_false] at hk; omega)⟩)

end Go.Proofs.YthmkkbihfdcbiaaGreatDoor

/-! The begins of sets are read by whatever protocol. -/
namespace Go.Proofs.YthmkkbihfdcbiaaGreatDoor

open Go.RowKit Go.Deep

set_option linter.unusedVariables false

set_option linter.unusedSimpArgs false

set_option maxRecDepth 100000 in
set_option maxHeartbeats 2000000 in
theorem begun_set (P : PR) (y1 y2 y3 y4 y5 y6 : Value) {S : List Nat} {s : P.σ} {w : World} (h : P.Is S s w) {g : RGot} {k : Nat} {s1 : P.σ} (hr : P.run s .setB = some (g, k, s1)) :
    Calls Tryz.prog 72 #[.iface P.ty P.ptr, .agg #[.int .i64 11, y1, y2, y3, y4, y5, y6]] w (TellsG P { t := g.t, size := g.size } k s1 S w) := by
  obtain ⟨hm, hn, hen⟩ := P.m_setB
  have hc := ctx_any
  have hfit := P.fits hr
  have hgt : 0 ≤ g.t ∧ g.t < 256 := hfit.1 (by decide)
  have hgk : 0 ≤ g.k ∧ g.k < 256 := hfit.2.2.1
  have hgn : -2147483648 ≤ g.size ∧ g.size < 2147483648 := hfit.2.2.2.1
  obtain ⟨t, h_t⟩ : ∃ x, g.t = x := ⟨_, rfl⟩
  obtain ⟨n, h_n⟩ : ∃ x, g.size = x := ⟨_, rfl⟩
  have hO : ∀ W, Step [] [] w W → Calls Tryz.prog (P.fn "ReadSetBegin") #[P.ptr, ctxV] W (TellsV P.Is (fun ev => .tuple #[.int .u8 g.t, .int .i64 g.size, ev]) k s1 S W) := fun W hW => P.at_ h hr W hW
  rw [h_t, h_n] at hO
  rw [h_t] at hgt
  rw [h_n] at hgn

  rw [h_t, h_n]
  have HO := Lib.hid hO
  have HF := Lib.hid (P.lt h)
  have hwt : IntKind.i64.wrap t = t := by rw [IntKind.wrap_i64]; omega
  have hwt2 : wrap64 t = t := by unfold wrap64; omega


  clear hO hfit hr h h_t h_n
  go_enter Tryz.func72, Tryz.ntmps72
  go_wp2_with (fail)
  go_region_held3 (fun _ => True) (trivial)
    (first
      | (go_at_call 48; refine (hc _).mono ?_; rintro e w' ⟨rfl, rfl⟩)
      | (refine (HO.out _ ?_).mono ?_; exact ((((Step.refl _ _).alloc _).alloc _).alloc _).drew; rintro e W1 ⟨ev, S1, rfl, he, hI, hs⟩; have hbx := (hs.block (w.heap.size + 1) (by simp) (fun hm => by have := HF.out _ hm; omega)).trans (heap_alloc_old (heap_alloc_at (by simp) _) _); have hbg := (hs.block (w.heap.size + 1 + 1) (by simp) (fun hm => by have := HF.out _ hm; omega)).trans (heap_alloc_at (by simp) _); have c0 : W1.cell? ⟨w.heap.size + 1, 0, none⟩ = some (.int .i64 0) := (cell_heap hbx _).trans rfl; have c1 : W1.cell? ⟨w.heap.size + 1, 1, none⟩ = some (.int .i64 0) := (cell_heap hbx _).trans rfl; have c2 : W1.cell? ⟨w.heap.size + 1, 2, none⟩ = some (.int .i64 0) := (cell_heap hbx _).trans rfl; have c3 : W1.cell? ⟨w.heap.size + 1, 3, none⟩ = some (.int .i64 0) := (cell_heap hbx _).trans rfl; have c4 : W1.cell? ⟨w.heap.size + 1, 4, none⟩ = some (.int .i64 0) := (cell_heap hbx _).trans rfl; have c5 : W1.cell? ⟨w.heap.size + 1, 5, none⟩ = some (.int .i64 0) := (cell_heap hbx _).trans rfl; have c6 : W1.cell? ⟨w.heap.size + 1, 6, none⟩ = some (.slice none 0 0) := (cell_heap hbx _).trans rfl; have d0 : W1.cell? ⟨w.heap.size + 1 + 1, 0, none⟩ = some (.int .i64 0) := (cell_heap hbg _).trans rfl; have d1 : W1.cell? ⟨w.heap.size + 1 + 1, 1, none⟩ = some (.int .i64 0) := (cell_heap hbg _).trans rfl; have d2 : W1.cell? ⟨w.heap.size + 1 + 1, 2, none⟩ = some (.int .i64 0) := (cell_heap hbg _).trans rfl; have d3 : W1.cell? ⟨w.heap.size + 1 + 1, 3, none⟩ = some (.int .i64 0) := (cell_heap hbg _).trans rfl; have d4 : W1.cell? ⟨w.heap.size + 1 + 1, 4, none⟩ = some (.int .i64 0) := (cell_heap hbg _).trans rfl; have d5 : W1.cell? ⟨w.heap.size + 1 + 1, 5, none⟩ = some (.int .i64 0) := (cell_heap hbg _).trans rfl; have d6 : W1.cell? ⟨w.heap.size + 1 + 1, 6, none⟩ = some (.slice none 0 0) := (cell_heap hbg _).trans rfl; have hfz := frozen_heap hbx; have hfg := frozen_heap hbg; have hbl := lt_heap hbx; have HX := Lib.hid hbx; have HG := Lib.hid hbg; have HE := Lib.hid he; have HI := Lib.hid hI; have HS := Lib.hid hs; clear he hI hs hbx hbg))
  all_goals go_wp2
  all_goals (
    have hx' : (((W1.setCell ⟨w.heap.size + 1 + 1, 3, none⟩ (.int .i64 n)).setCell ⟨w.heap.size + 1 + 1, 1, none⟩ (.int .i64 t)).setCell ⟨w.heap.size + 1 + 1, 2, none⟩ (.int .i64 0)).heap[w.heap.size + 1]? = some (.cells #[.int .i64 0, .int .i64 0, .int .i64 0, .int .i64 0, .int .i64 0, .int .i64 0, .slice none 0 0] 48 (0, 0)) :=
      heap_set_other (heap_set_other (heap_set_other HX.out (by show w.heap.size + 1 ≠ w.heap.size + 1 + 1; omega) _) (by show w.heap.size + 1 ≠ w.heap.size + 1 + 1; omega) _) (by show w.heap.size + 1 ≠ w.heap.size + 1 + 1; omega) _
    have hs1 : Step [w.heap.size + 1, w.heap.size + 1 + 1] [w.heap.size + 1, w.heap.size + 1 + 1] W1 (((W1.setCell ⟨w.heap.size + 1 + 1, 3, none⟩ (.int .i64 n)).setCell ⟨w.heap.size + 1 + 1, 1, none⟩ (.int .i64 t)).setCell ⟨w.heap.size + 1 + 1, 2, none⟩ (.int .i64 0)) :=
      (((Step.refl _ W1).setCell (p := ⟨w.heap.size + 1 + 1, 3, none⟩) (.inl (by simp)) _).setCell (p := ⟨w.heap.size + 1 + 1, 1, none⟩) (.inl (by simp)) _).setCell (p := ⟨w.heap.size + 1 + 1, 2, none⟩) (.inl (by simp)) _
    obtain ⟨W3, e2, h3, hs2⟩ := set7 hx' (.int .i64 0) (.int .i64 t) (.int .i64 0) (.int .i64 n) (.int .i64 0) (.int .i64 0) (.slice none 0 0)
    rw [e2]
    have hs3 := hs1.trans (hs2.more (S1 := [w.heap.size + 1, w.heap.size + 1 + 1]) (T1 := [w.heap.size + 1, w.heap.size + 1 + 1]) (by simp) (fun k hk => .inr (.inl hk)))
    clear e2 hs1 hs2 hx'
    have r0 : W3.cell? ⟨w.heap.size + 1, 0, none⟩ = some (.int .i64 0) := (cell_heap h3 _).trans rfl
    have r1 : W3.cell? ⟨w.heap.size + 1, 1, none⟩ = some (.int .i64 t) := (cell_heap h3 _).trans rfl
    have r2 : W3.cell? ⟨w.heap.size + 1, 2, none⟩ = some (.int .i64 0) := (cell_heap h3 _).trans rfl
    have r3 : W3.cell? ⟨w.heap.size + 1, 3, none⟩ = some (.int .i64 n) := (cell_heap h3 _).trans rfl
    have r4 : W3.cell? ⟨w.heap.size + 1, 4, none⟩ = some (.int .i64 0) := (cell_heap h3 _).trans rfl
    have r5 : W3.cell? ⟨w.heap.size + 1, 5, none⟩ = some (.int .i64 0) := (cell_heap h3 _).trans rfl
    have r6 : W3.cell? ⟨w.heap.size + 1, 6, none⟩ = some (.slice none 0 0) := (cell_heap h3 _).trans rfl
    refine bodyPost_ret (v := .tuple #[gotV { t := t, size := n } (.slice none 0 0), ev]) (by simp [results, Tryz.results72, go_sem, *]) rfl ?_
    have hsz : ∀ j, j ∈ S1 → j ∉ [w.heap.size + 1, w.heap.size + 1 + 1] := fun j hj hm => by
      simp only [List.mem_cons, List.not_mem_nil, or_false] at hm
      rcases HS.out.own j hj with h' | h'
      · have := HF.out _ h'; omega
      · simp at h'; omega
    have hI3 := P.step HI.out hs3 hsz
    have hwl := HS.out.size
    simp at hwl
    exact ⟨ev, .slice none 0 0, W3.heap.size, S1, rfl, ⟨0, .inl ⟨rfl, rfl⟩⟩, by have := hs3.size; omega, fun hm => Nat.lt_irrefl _ (P.lt hI3 _ hm), HE.out.step_at hs3 (fun b hb => by
      simp only [List.mem_cons, List.not_mem_nil, or_false] at hb
      rcases hb with rfl | rfl
      · exact ⟨_, _, _, HX.out, by decide⟩
      · exact ⟨_, _, _, HG.out, by decide⟩), hI3, ((((((Step.refl _ _).alloc _).alloc _).alloc _).drew).trans HS.out).fresh hs3 (fun k hk => by simp only [List.mem_cons, List.not_mem_nil, or_false] at hk; omega)⟩)

end Go.Proofs.YthmkkbihfdcbiaaGreatDoor

/-! The begins of maps are read by whatever protocol. -/
namespace Go.Proofs.YthmkkbihfdcbiaaGreatDoor

open Go.RowKit Go.Deep

set_option linter.unusedVariables false

set_option linter.unusedSimpArgs false

set_option maxRecDepth 100000 in
set_option maxHeartbeats 2000000 in
theorem begun_map (P : PR) (y1 y2 y3 y4 y5 y6 : Value) {S : List Nat} {s : P.σ} {w : World} (h : P.Is S s w) {g : RGot} {k : Nat} {s1 : P.σ} (hr : P.run s .mapB = some (g, k, s1)) :
    Calls Tryz.prog 72 #[.iface P.ty P.ptr, .agg #[.int .i64 7, y1, y2, y3, y4, y5, y6]] w (TellsG P { k := g.k, t := g.t, size := g.size } k s1 S w) := by
  obtain ⟨hm, hn, hen⟩ := P.m_mapB
  have hc := ctx_any
  have hfit := P.fits hr
  have hgt : 0 ≤ g.t ∧ g.t < 256 := hfit.1 (by decide)
  have hgk : 0 ≤ g.k ∧ g.k < 256 := hfit.2.2.1
  have hgn : -2147483648 ≤ g.size ∧ g.size < 2147483648 := hfit.2.2.2.1
  obtain ⟨t, h_t⟩ : ∃ x, g.t = x := ⟨_, rfl⟩
  obtain ⟨n, h_n⟩ : ∃ x, g.size = x := ⟨_, rfl⟩
  obtain ⟨kt, h_kt⟩ : ∃ x, g.k = x := ⟨_, rfl⟩
  have hO : ∀ W, Step [] [] w W → Calls Tryz.prog (P.fn "ReadMapBegin") #[P.ptr, ctxV] W (TellsV P.Is (fun ev => .tuple #[.int .u8 g.k, .int .u8 g.t, .int .i64 g.size, ev]) k s1 S W) := fun W hW => P.at_ h hr W hW
  rw [h_t, h_n, h_kt] at hO
  rw [h_t] at hgt
  rw [h_n] at hgn
  rw [h_kt] at hgk
  rw [h_t, h_n, h_kt]
  have HO := Lib.hid hO
  have HF := Lib.hid (P.lt h)
  have hwt : IntKind.i64.wrap t = t := by rw [IntKind.wrap_i64]; omega
  have hwt2 : wrap64 t = t := by unfold wrap64; omega
  have hwk : IntKind.i64.wrap kt = kt := by rw [IntKind.wrap_i64]; omega
  have hwk2 : wrap64 kt = kt := by unfold wrap64; omega
  clear hO hfit hr h h_t h_n h_kt
  go_enter Tryz.func72, Tryz.ntmps72
  go_wp2_with (fail)
  go_region_held3 (fun _ => True) (trivial)
    (first
      | (go_at_call 48; refine (hc _).mono ?_; rintro e w' ⟨rfl, rfl⟩)
      | (refine (HO.out _ ?_).mono ?_; exact ((((Step.refl _ _).alloc _).alloc _).alloc _).drew; rintro e W1 ⟨ev, S1, rfl, he, hI, hs⟩; have hbx := (hs.block (w.heap.size + 1) (by simp) (fun hm => by have := HF.out _ hm; omega)).trans (heap_alloc_old (heap_alloc_at (by simp) _) _); have hbg := (hs.block (w.heap.size + 1 + 1) (by simp) (fun hm => by have := HF.out _ hm; omega)).trans (heap_alloc_at (by simp) _); have c0 : W1.cell? ⟨w.heap.size + 1, 0, none⟩ = some (.int .i64 0) := (cell_heap hbx _).trans rfl; have c1 : W1.cell? ⟨w.heap.size + 1, 1, none⟩ = some (.int .i64 0) := (cell_heap hbx _).trans rfl; have c2 : W1.cell? ⟨w.heap.size + 1, 2, none⟩ = some (.int .i64 0) := (cell_heap hbx _).trans rfl; have c3 : W1.cell? ⟨w.heap.size + 1, 3, none⟩ = some (.int .i64 0) := (cell_heap hbx _).trans rfl; have c4 : W1.cell? ⟨w.heap.size + 1, 4, none⟩ = some (.int .i64 0) := (cell_heap hbx _).trans rfl; have c5 : W1.cell? ⟨w.heap.size + 1, 5, none⟩ = some (.int .i64 0) := (cell_heap hbx _).trans rfl; have c6 : W1.cell? ⟨w.heap.size + 1, 6, none⟩ = some (.slice none 0 0) := (cell_heap hbx _).trans rfl; have d0 : W1.cell? ⟨w.heap.size + 1 + 1, 0, none⟩ = some (.int .i64 0) := (cell_heap hbg _).trans rfl; have d1 : W1.cell? ⟨w.heap.size + 1 + 1, 1, none⟩ = some (.int .i64 0) := (cell_heap hbg _).trans rfl; have d2 : W1.cell? ⟨w.heap.size + 1 + 1, 2, none⟩ = some (.int .i64 0) := (cell_heap hbg _).trans rfl; have d3 : W1.cell? ⟨w.heap.size + 1 + 1, 3, none⟩ = some (.int .i64 0) := (cell_heap hbg _).trans rfl; have d4 : W1.cell? ⟨w.heap.size + 1 + 1, 4, none⟩ = some (.int .i64 0) := (cell_heap hbg _).trans rfl; have d5 : W1.cell? ⟨w.heap.size + 1 + 1, 5, none⟩ = some (.int .i64 0) := (cell_heap hbg _).trans rfl; have d6 : W1.cell? ⟨w.heap.size + 1 + 1, 6, none⟩ = some (.slice none 0 0) := (cell_heap hbg _).trans rfl; have hfz := frozen_heap hbx; have hfg := frozen_heap hbg; have hbl := lt_heap hbx; have HX := Lib.hid hbx; have HG := Lib.hid hbg; have HE := Lib.hid he; have HI := Lib.hid hI; have HS := Lib.hid hs; clear he hI hs hbx hbg))
  all_goals go_wp2
  all_goals (
    have hx' : (((W1.setCell ⟨w.heap.size + 1 + 1, 3, none⟩ (.int .i64 n)).setCell ⟨w.heap.size + 1 + 1, 1, none⟩ (.int .i64 t)).setCell ⟨w.heap.size + 1 + 1, 2, none⟩ (.int .i64 kt)).heap[w.heap.size + 1]? = some (.cells #[.int .i64 0, .int .i64 0, .int .i64 0, .int .i64 0, .int .i64 0, .int .i64 0, .slice none 0 0] 48 (0, 0)) :=
      heap_set_other (heap_set_other (heap_set_other HX.out (by show w.heap.size + 1 ≠ w.heap.size + 1 + 1; omega) _) (by show w.heap.size + 1 ≠ w.heap.size + 1 + 1; omega) _) (by show w.heap.size + 1 ≠ w.heap.size + 1 + 1; omega) _
    have hs1 : Step [w.heap.size + 1, w.heap.size + 1 + 1] [w.heap.size + 1, w.heap.size + 1 + 1] W1 (((W1.setCell ⟨w.heap.size + 1 + 1, 3, none⟩ (.int .i64 n)).setCell ⟨w.heap.size + 1 + 1, 1, none⟩ (.int .i64 t)).setCell ⟨w.heap.size + 1 + 1, 2, none⟩ (.int .i64 kt)) :=
      (((Step.refl _ W1).setCell (p := ⟨w.heap.size + 1 + 1, 3, none⟩) (.inl (by simp)) _).setCell (p := ⟨w.heap.size + 1 + 1, 1, none⟩) (.inl (by simp)) _).setCell (p := ⟨w.heap.size + 1 + 1, 2, none⟩) (.inl (by simp)) _
    obtain ⟨W3, e2, h3, hs2⟩ := set7 hx' (.int .i64 0) (.int .i64 t) (.int .i64 kt) (.int .i64 n) (.int .i64 0) (.int .i64 0) (.slice none 0 0)
    rw [e2]
    have hs3 := hs1.trans (hs2.more (S1 := [w.heap.size + 1, w.heap.size + 1 + 1]) (T1 := [w.heap.size + 1, w.heap.size + 1 + 1]) (by simp) (fun k hk => .inr (.inl hk)))
    clear e2 hs1 hs2 hx'
    have r0 : W3.cell? ⟨w.heap.size + 1, 0, none⟩ = some (.int .i64 0) := (cell_heap h3 _).trans rfl
    have r1 : W3.cell? ⟨w.heap.size + 1, 1, none⟩ = some (.int .i64 t) := (cell_heap h3 _).trans rfl
    have r2 : W3.cell? ⟨w.heap.size + 1, 2, none⟩ = some (.int .i64 kt) := (cell_heap h3 _).trans rfl
    have r3 : W3.cell? ⟨w.heap.size + 1, 3, none⟩ = some (.int .i64 n) := (cell_heap h3 _).trans rfl
    have r4 : W3.cell? ⟨w.heap.size + 1, 4, none⟩ = some (.int .i64 0) := (cell_heap h3 _).trans rfl
    have r5 : W3.cell? ⟨w.heap.size + 1, 5, none⟩ = some (.int .i64 0) := (cell_heap h3 _).trans rfl
    have r6 : W3.cell? ⟨w.heap.size + 1, 6, none⟩ = some (.slice none 0 0) := (cell_heap h3 _).trans rfl
    refine bodyPost_ret (v := .tuple #[gotV { k := kt, t := t, size := n } (.slice none 0 0), ev]) (by simp [results, Tryz.results72, go_sem, *]) rfl ?_
    have hsz : ∀ j, j ∈ S1 → j ∉ [w.heap.size + 1, w.heap.size + 1 + 1] := fun j hj hm => by
      simp only [List.mem_cons, List.not_mem_nil, or_false] at hm
      rcases HS.out.own j hj with h' | h'
      · have := HF.out _ h'; omega
      · simp at h'; omega
    have hI3 := P.step HI.out hs3 hsz
    have hwl := HS.out.size
    simp at hwl
    exact ⟨ev, .slice none 0 0, W3.heap.size, S1, rfl, ⟨0, .inl ⟨rfl, rfl⟩⟩, by have := hs3.size; omega, fun hm => Nat.lt_irrefl _ (P.lt hI3 _ hm), HE.out.step_at hs3 (fun b hb => by
      simp only [List.mem_cons, List.not_mem_nil, or_false] at hb
      rcases hb with rfl | rfl
      · exact ⟨_, _, _, HX.out, by decide⟩
      · exact ⟨_, _, _, HG.out, by decide⟩), hI3, ((((((Step.refl _ _).alloc _).alloc _).alloc _).drew).trans HS.out).fresh hs3 (fun k hk => by simp only [List.mem_cons, List.not_mem_nil, or_false] at hk; omega)⟩)

end Go.Proofs.YthmkkbihfdcbiaaGreatDoor

/-! Steps that begin something are read by whatever protocol. -/
namespace Go.Proofs.YthmkkbihfdcbiaaGreatDoor

open Go.RowKit Go.Deep

set_option linter.unusedVariables false

set_option linter.unusedSimpArgs false

set_option maxRecDepth 100000 in
set_option maxHeartbeats 2000000 in
theorem read_lst (P : PR) (y1 y2 y3 y4 y5 y6 : Value) {S : List Nat} {s : P.σ} {w : World} (h : P.Is S s w) {g : RGot} {k : Nat} {s1 : P.σ} (hr : P.run s .lstB = some (g, k, s1)) :
    Calls Tryz.prog 58 #[.iface P.ty P.ptr, .agg #[.int .i64 9, y1, y2, y3, y4, y5, y6]] w (TellsG P { t := g.t, size := g.size } k s1 S w) := by
  have HO := Lib.hid (fun a b => begun_lst P y1 y2 y3 y4 y5 y6 (P.step h (((Step.refl [] w).alloc a).alloc b) (by simp)) hr)
  have HF := Lib.hid (P.lt h)
  obtain ⟨G, hG⟩ : ∃ G : RGot, { t := g.t, size := g.size } = G := ⟨_, rfl⟩
  rw [hG] at HO ⊢
  clear hG h hr
  go_enter Tryz.func58, Tryz.ntmps58
  go_wp2_with (fail)
  refine (HO.out _ _).mono ?_
  rintro e W1 ⟨ev, v, kb, S1, rfl, hB, hkb, hkS, he, hI, hs⟩
  obtain ⟨ao, c, rfl, hc, hC⟩ := hB.ints
  replace hkb : w.heap.size + 1 + 1 ≤ kb := by simpa using hkb
  have hbx := (hs.block (w.heap.size + 1) (by simp) (fun hm => by have := HF.out _ hm; omega)).trans (heap_alloc_at (by simp) _)
  have c0 : W1.cell? ⟨w.heap.size + 1, 0, none⟩ = some (.int .i64 0) := (cell_heap hbx _).trans rfl
  have c1 : W1.cell? ⟨w.heap.size + 1, 1, none⟩ = some (.int .i64 0) := (cell_heap hbx _).trans rfl
  have c2 : W1.cell? ⟨w.heap.size + 1, 2, none⟩ = some (.int .i64 0) := (cell_heap hbx _).trans rfl
  have c3 : W1.cell? ⟨w.heap.size + 1, 3, none⟩ = some (.int .i64 0) := (cell_heap hbx _).trans rfl
  have c4 : W1.cell? ⟨w.heap.size + 1, 4, none⟩ = some (.int .i64 0) := (cell_heap hbx _).trans rfl
  have c5 : W1.cell? ⟨w.heap.size + 1, 5, none⟩ = some (.int .i64 0) := (cell_heap hbx _).trans rfl
  have c6 : W1.cell? ⟨w.heap.size + 1, 6, none⟩ = some (.slice none 0 0) := (cell_heap hbx _).trans rfl
  have hfz := frozen_heap hbx
  have hbl := lt_heap hbx
  have HX := Lib.hid hbx
  have HE := Lib.hid he
  have HI := Lib.hid hI
  have HS := Lib.hid hs
  have HB := Lib.hid hB
  have HK := Lib.hid hkS
  clear he hI hs hbx hB hkS hC hc
  go_wp2
  all_goals (
    obtain ⟨W3, e2, h3, hs3⟩ := set7 HX.out (.int .i64 0) (.int .i64 G.t) (.int .i64 G.k) (.int .i64 G.size) (.int .i64 G.id) (.int .i64 G.n) (.slice ao (ints G.s).length c)
    rw [e2]
    clear e2
    have r0 : W3.cell? ⟨w.heap.size + 1, 0, none⟩ = some (.int .i64 0) := (cell_heap h3 _).trans rfl
    have r1 : W3.cell? ⟨w.heap.size + 1, 1, none⟩ = some (.int .i64 G.t) := (cell_heap h3 _).trans rfl
    have r2 : W3.cell? ⟨w.heap.size + 1, 2, none⟩ = some (.int .i64 G.k) := (cell_heap h3 _).trans rfl
    have r3 : W3.cell? ⟨w.heap.size + 1, 3, none⟩ = some (.int .i64 G.size) := (cell_heap h3 _).trans rfl
    have r4 : W3.cell? ⟨w.heap.size + 1, 4, none⟩ = some (.int .i64 G.id) := (cell_heap h3 _).trans rfl
    have r5 : W3.cell? ⟨w.heap.size + 1, 5, none⟩ = some (.int .i64 G.n) := (cell_heap h3 _).trans rfl
    have r6 : W3.cell? ⟨w.heap.size + 1, 6, none⟩ = some (.slice ao (ints G.s).length c) := (cell_heap h3 _).trans rfl
    refine bodyPost_ret (v := .tuple #[gotV G (.slice ao (ints G.s).length c), ev]) (by simp [results, Tryz.results58, go_sem, *]) rfl ?_
    have hsz : ∀ j, j ∈ S1 → j ∉ [w.heap.size + 1] := fun j hj hm => by
      simp only [List.mem_cons, List.not_mem_nil, or_false] at hm
      rcases HS.out.own j hj with h' | h'
      · have := HF.out _ h'; omega
      · simp at h'; omega
    exact ⟨ev, _, kb, S1, rfl, HB.out.step hs3 (by simp only [List.mem_cons, List.not_mem_nil, or_false]; omega), by omega, HK.out, HE.out.step_at hs3 (fun b hb => by simp only [List.mem_cons, List.not_mem_nil, or_false] at hb; subst hb; exact ⟨_, _, _, HX.out, by decide⟩), P.step HI.out hs3 hsz, ((((Step.refl _ _).alloc _).alloc _).trans HS.out).fresh hs3 (by simp)⟩)

set_option maxRecDepth 100000 in
set_option maxHeartbeats 2000000 in
theorem read_set (P : PR) (y1 y2 y3 y4 y5 y6 : Value) {S : List Nat} {s : P.σ} {w : World} (h : P.Is S s w) {g : RGot} {k : Nat} {s1 : P.σ} (hr : P.run s .setB = some (g, k, s1)) :
    Calls Tryz.prog 58 #[.iface P.ty P.ptr, .agg #[.int .i64 11, y1, y2, y3, y4, y5, y6]] w (TellsG P { t := g.t, size := g.size } k s1 S w) := by
  have HO := Lib.hid (fun a b => begun_set P y1 y2 y3 y4 y5 y6 (P.step h (((Step.refl [] w).alloc a).alloc b) (by simp)) hr)
  have HF := Lib.hid (P.lt h)
  obtain ⟨G, hG⟩ : ∃ G : RGot, { t := g.t, size := g.size } = G := ⟨_, rfl⟩
  rw [hG] at HO ⊢
  clear hG h hr
  go_enter Tryz.func58, Tryz.ntmps58
  go_wp2_with (fail)
  refine (HO.out _ _).mono ?_
  rintro e W1 ⟨ev, v, kb, S1, rfl, hB, hkb, hkS, he, hI, hs⟩
  obtain ⟨ao, c, rfl, hc, hC⟩ := hB.ints
  replace hkb : w.heap.size + 1 + 1 ≤ kb := by simpa using hkb
  have hbx := (hs.block (w.heap.size + 1) (by simp) (fun hm => by have := HF.out _ hm; omega)).trans (heap_alloc_at (by simp) _)
  have c0 : W1.cell? ⟨w.heap.size + 1, 0, none⟩ = some (.int .i64 0) := (cell_heap hbx _).trans rfl
  have c1 : W1.cell? ⟨w.heap.size + 1, 1, none⟩ = some (.int .i64 0) := (cell_heap hbx _).trans rfl
  have c2 : W1.cell? ⟨w.heap.size + 1, 2, none⟩ = some (.int .i64 0) := (cell_heap hbx _).trans rfl
  have c3 : W1.cell? ⟨w.heap.size + 1, 3, none⟩ = some (.int .i64 0) := (cell_heap hbx _).trans rfl
  have c4 : W1.cell? ⟨w.heap.size + 1, 4, none⟩ = some (.int .i64 0) := (cell_heap hbx _).trans rfl
  have c5 : W1.cell? ⟨w.heap.size + 1, 5, none⟩ = some (.int .i64 0) := (cell_heap hbx _).trans rfl
  have c6 : W1.cell? ⟨w.heap.size + 1, 6, none⟩ = some (.slice none 0 0) := (cell_heap hbx _).trans rfl
  have hfz := frozen_heap hbx
  have hbl := lt_heap hbx
  have HX := Lib.hid hbx
  have HE := Lib.hid he
  have HI := Lib.hid hI
  have HS := Lib.hid hs
  have HB := Lib.hid hB
  have HK := Lib.hid hkS
  clear he hI hs hbx hB hkS hC hc
  go_wp2
  all_goals (
    obtain ⟨W3, e2, h3, hs3⟩ := set7 HX.out (.int .i64 0) (.int .i64 G.t) (.int .i64 G.k) (.int .i64 G.size) (.int .i64 G.id) (.int .i64 G.n) (.slice ao (ints G.s).length c)
    rw [e2]
    clear e2
    have r0 : W3.cell? ⟨w.heap.size + 1, 0, none⟩ = some (.int .i64 0) := (cell_heap h3 _).trans rfl
    have r1 : W3.cell? ⟨w.heap.size + 1, 1, none⟩ = some (.int .i64 G.t) := (cell_heap h3 _).trans rfl
    have r2 : W3.cell? ⟨w.heap.size + 1, 2, none⟩ = some (.int .i64 G.k) := (cell_heap h3 _).trans rfl
    have r3 : W3.cell? ⟨w.heap.size + 1, 3, none⟩ = some (.int .i64 G.size) := (cell_heap h3 _).trans rfl
    have r4 : W3.cell? ⟨w.heap.size + 1, 4, none⟩ = some (.int .i64 G.id) := (cell_heap h3 _).trans rfl
    have r5 : W3.cell? ⟨w.heap.size + 1, 5, none⟩ = some (.int .i64 G.n) := (cell_heap h3 _).trans rfl
    have r6 : W3.cell? ⟨w.heap.size + 1, 6, none⟩ = some (.slice ao (ints G.s).length c) := (cell_heap h3 _).trans rfl
    refine bodyPost_ret (v := .tuple #[gotV G (.slice ao (ints G.s).length c), ev]) (by simp [results, Tryz.results58, go_sem, *]) rfl ?_
    have hsz : ∀ j, j ∈ S1 → j ∉ [w.heap.size + 1] := fun j hj hm => by
      simp only [List.mem_cons, List.not_mem_nil, or_false] at hm
      rcases HS.out.own j hj with h' | h'
      · have := HF.out _ h'; omega
      · simp at h'; omega
    exact ⟨ev, _, kb, S1, rfl, HB.out.step hs3 (by simp only [List.mem_cons, List.not_mem_nil, or_false]; omega), by omega, HK.out, HE.out.step_at hs3 (fun b hb => by simp only [List.mem_cons, List.not_mem_nil, or_false] at hb; subst hb; exact ⟨_, _, _, HX.out, by decide⟩), P.step HI.out hs3 hsz, ((((Step.refl _ _).alloc _).alloc _).trans HS.out).fresh hs3 (by simp)⟩)

set_option maxRecDepth 100000 in
set_option maxHeartbeats 2000000 in
theorem read_map (P : PR) (y1 y2 y3 y4 y5 y6 : Value) {S : List Nat} {s : P.σ} {w : World} (h : P.Is S s w) {g : RGot} {k : Nat} {s1 : P.σ} (hr : P.run s .mapB = some (g, k, s1)) :
    Calls Tryz.prog 58 #[.iface P.ty P.ptr, .agg #[.int .i64 7, y1, y2, y3, y4, y5, y6]] w (TellsG P { k := g.k, t := g.t, size := g.size } k s1 S w) := by
  have HO := Lib.hid (fun a b => begun_map P y1 y2 y3 y4 y5 y6 (P.step h (((Step.refl [] w).alloc a).alloc b) (by simp)) hr)
  have HF := Lib.hid (P.lt h)
  obtain ⟨G, hG⟩ : ∃ G : RGot, { k := g.k, t := g.t, size := g.size } = G := ⟨_, rfl⟩
  rw [hG] at HO ⊢
  clear hG h hr
  go_enter Tryz.func58, Tryz.ntmps58
  go_wp2_with (fail)
  refine (HO.out _ _).mono ?_
  rintro e W1 ⟨ev, v, kb, S1, rfl, hB, hkb, hkS, he, hI, hs⟩
  obtain ⟨ao, c, rfl, hc, hC⟩ := hB.ints
  replace hkb : w.heap.size + 1 + 1 ≤ kb := by simpa using hkb
  have hbx := (hs.block (w.heap.size + 1) (by simp) (fun hm => by have := HF.out _ hm; omega)).trans (heap_alloc_at (by simp) _)
  have c0 : W1.cell? ⟨w.heap.size + 1, 0, none⟩ = some (.int .i64 0) := (cell_heap hbx _).trans rfl
  have c1 : W1.cell? ⟨w.heap.size + 1, 1, none⟩ = some (.int .i64 0) := (cell_heap hbx _).trans rfl
  have c2 : W1.cell? ⟨w.heap.size + 1, 2, none⟩ = some (.int .i64 0) := (cell_heap hbx _).trans rfl
  have c3 : W1.cell? ⟨w.heap.size + 1, 3, none⟩ = some (.int .i64 0) := (cell_heap hbx _).trans rfl
  have c4 : W1.cell? ⟨w.heap.size + 1, 4, none⟩ = some (.int .i64 0) := (cell_heap hbx _).trans rfl
  have c5 : W1.cell? ⟨w.heap.size + 1, 5, none⟩ = some (.int .i64 0) := (cell_heap hbx _).trans rfl
  have c6 : W1.cell? ⟨w.heap.size + 1, 6, none⟩ = some (.slice none 0 0) := (cell_heap hbx _).trans rfl
  have hfz := frozen_heap hbx
  have hbl := lt_heap hbx
  have HX := Lib.hid hbx
  have HE := Lib.hid he
  have HI := Lib.hid hI
  have HS := Lib.hid hs
  have HB := Lib.hid hB
  have HK := Lib.hid hkS
  clear he hI hs hbx hB hkS hC hc
  go_wp2
  all_goals (
    obtain ⟨W3, e2, h3, hs3⟩ := set7 HX.out (.int .i64 0) (.int .i64 G.t) (.int .i64 G.k) (.int .i64 G.size) (.int .i64 G.id) (.int .i64 G.n) (.slice ao (ints G.s).length c)
    rw [e2]
    clear e2
    have r0 : W3.cell? ⟨w.heap.size + 1, 0, none⟩ = some (.int .i64 0) := (cell_heap h3 _).trans rfl
    have r1 : W3.cell? ⟨w.heap.size + 1, 1, none⟩ = some (.int .i64 G.t) := (cell_heap h3 _).trans rfl
    have r2 : W3.cell? ⟨w.heap.size + 1, 2, none⟩ = some (.int .i64 G.k) := (cell_heap h3 _).trans rfl
    have r3 : W3.cell? ⟨w.heap.size + 1, 3, none⟩ = some (.int .i64 G.size) := (cell_heap h3 _).trans rfl
    have r4 : W3.cell? ⟨w.heap.size + 1, 4, none⟩ = some (.int .i64 G.id) := (cell_heap h3 _).trans rfl
    have r5 : W3.cell? ⟨w.heap.size + 1, 5, none⟩ = some (.int .i64 G.n) := (cell_heap h3 _).trans rfl
    have r6 : W3.cell? ⟨w.heap.size + 1, 6, none⟩ = some (.slice ao (ints G.s).length c) := (cell_heap h3 _).trans rfl
    refine bodyPost_ret (v := .tuple #[gotV G (.slice ao (ints G.s).length c), ev]) (by simp [results, Tryz.results58, go_sem, *]) rfl ?_
    have hsz : ∀ j, j ∈ S1 → j ∉ [w.heap.size + 1] := fun j hj hm => by
      simp only [List.mem_cons, List.not_mem_nil, or_false] at hm
      rcases HS.out.own j hj with h' | h'
      · have := HF.out _ h'; omega
      · simp at h'; omega
    exact ⟨ev, _, kb, S1, rfl, HB.out.step hs3 (by simp only [List.mem_cons, List.not_mem_nil, or_false]; omega), by omega, HK.out, HE.out.step_at hs3 (fun b hb => by simp only [List.mem_cons, List.not_mem_nil, or_false] at hb; subst hb; exact ⟨_, _, _, HX.out, by decide⟩), P.step HI.out hs3 hsz, ((((Step.refl _ _).alloc _).alloc _).trans HS.out).fresh hs3 (by simp)⟩)

end Go.Proofs.YthmkkbihfdcbiaaGreatDoor

/-! One step that reads is done by whatever protocol. -/
namespace Go.Proofs.YthmkkbihfdcbiaaGreatDoor

open Go.RowKit Go.Deep

set_option linter.unusedVariables false

set_option linter.unusedSimpArgs false

/-- Where what was told lies. -/
def GotAt (q : Nat) (k : Nat) (g : RGot) (v : Value) (W : World) : Prop := Box7 q (.int .i64 (k : Nat)) (.int .i64 g.t) (.int .i64 g.k) (.int .i64 g.size) (.int .i64 g.id) (.int .i64 g.n) v W

theorem infoGot : (Tryz.prog.info? 48).map (fun i => (i.zero, i.size, i.bytes)) = some (some (.agg #[.int .i64 0, .int .i64 0, .int .i64 0, .int .i64 0, .int .i64 0, .int .i64 0, .slice none 0 0]), 7, 72) := by kernel_rfl

theorem row_got {q : Nat} {x0 x1 x2 x3 x4 x5 x6 : Value} {z : Array Value} {ty : TypeId} {f : Nat × Nat} {W : World} (h : W.heap[q]? = some (.cells (#[x0, x1, x2, x3, x4, x5, x6] ++ z) ty f)) : Box7 q x0 x1 x2 x3 x4 x5 x6 W := by
  have e : ∀ i (hi : i < 7), W.cell? ⟨q, i, none⟩ = (#[x0, x1, x2, x3, x4, x5, x6] : Array Value)[i]? := fun i hi => by
    rw [cell_heap h, Array.getElem?_append_left (by simpa using hi)]
  exact ⟨e 0 (by omega), e 1 (by omega), e 2 (by omega), e 3 (by omega), e 4 (by omega), e 5 (by omega), e 6 (by omega)⟩

set_option maxRecDepth 100000 in
set_option maxHeartbeats 2000000 in
theorem reads_one (P : PR) (b : Nat) (op a1 a2 a3 a4 a5 : Int) (A : Option Addr) (nA cA : Nat) {S : List Nat} {s s1 : P.σ} {w : World} {g : RGot} {k : Nat} (h : P.Is S s w) (hE : EofAt w) (hS2 : ∀ j, j ∈ S → 2 ≤ j)
    (hb : Box7 b (.int .i64 op) (.int .i64 a1) (.int .i64 a2) (.int .i64 a3) (.int .i64 a4) (.int .i64 a5) (.slice A nA cA) w) (hbl : b < w.heap.size)
    (hrd : ∀ W, Step [] [] w W → Calls Tryz.prog 58 #[.iface P.ty P.ptr, .agg #[.int .i64 op, .int .i64 a1, .int .i64 a2, .int .i64 a3, .int .i64 a4, .int .i64 a5, .slice A nA cA]] W (TellsG P g k s1 S W)) :
    Calls Tryz.prog 44 #[.iface P.ty P.ptr, .slice (some ⟨b, 0, none⟩) 1 1] w fun e w' => ∃ q cap v kb S', e = .returned (.slice (some ⟨q, 0, none⟩) 1 cap) ∧ GotAt q k g v w' ∧ IsB (Lib.byteCells g.s) v kb w' ∧ P.Is S' s1 w' ∧ Step S S' w w' := by
  obtain ⟨p0, p1, p2, p3, p4, p5, p6⟩ := hb
  obtain ⟨i0, hi, hz0, hz1, hz2⟩ := info_parts infoGot
  have HRD := Lib.hid hrd
  have HI0 := Lib.hid h
  have HEO := Lib.hid hE
  clear h hrd hE
  go_enter Tryz.func44, Tryz.ntmps44
  go_wp2_with (fail)
  refine wp_loop_rounds 2 ?_
  rw [rounds_succ]
  go_wp2_with (fail)
  refine (HRD.out _ ((Step.refl [] w).alloc _)).mono ?_
  rintro e W1 ⟨ev, v, kb, S1, rfl, hB, hkb, hkS, he, hI, hs⟩
  obtain ⟨ao, c, rfl, hc, hC⟩ := hB.ints
  clear hc hC
  have HI := Lib.hid hI
  have HB := Lib.hid hB
  have HE := Lib.hid he
  have HS := Lib.hid (((Step.refl S w).alloc (.cells #[.int .i64 op, .int .i64 a1, .int .i64 a2, .int .i64 a3, .int .i64 a4, .int .i64 a5, .slice A nA cA] 46)).trans hs)
  replace hkb : w.heap.size + 1 ≤ kb := by simpa using hkb
  have hls : w.heap.size + 1 ≤ W1.heap.size := by have := hs.size; simpa using this
  have HEK := Lib.hid (fun o => kind_any (he.step_at ((Step.refl [] W1).alloc o) (by simp)) ((HEO.out.below (B := 2) (((Below.refl _ w).alloc (by have := HEO.out.lt; omega) _).trans (hs.below 2 (by have := HEO.out.lt; simp; omega) (fun j hj => hS2 j hj))) (by omega)).below (B := 2) ((Below.refl _ W1).alloc (by have := HEO.out.lt; omega) o) (by omega)))
  clear hI hB he hs p0 p1 p2 p3 p4 p5 p6
  go_wp2_with (fail)
  refine (HEK.out _).mono ?_
  rintro e W2 ⟨rfl, hBk⟩
  have hgb := (hBk.block W1.heap.size (by simp)).trans (heap_alloc_new W1 _)
  have c0 : W2.cell? ⟨W1.heap.size, 0, none⟩ = some (.int .i64 0) := (cell_heap hgb _).trans rfl
  have c1 : W2.cell? ⟨W1.heap.size, 1, none⟩ = some (.int .i64 g.t) := (cell_heap hgb _).trans rfl
  have c2 : W2.cell? ⟨W1.heap.size, 2, none⟩ = some (.int .i64 g.k) := (cell_heap hgb _).trans rfl
  have c3 : W2.cell? ⟨W1.heap.size, 3, none⟩ = some (.int .i64 g.size) := (cell_heap hgb _).trans rfl
  have c4 : W2.cell? ⟨W1.heap.size, 4, none⟩ = some (.int .i64 g.id) := (cell_heap hgb _).trans rfl
  have c5 : W2.cell? ⟨W1.heap.size, 5, none⟩ = some (.int .i64 g.n) := (cell_heap hgb _).trans rfl
  have c6 : W2.cell? ⟨W1.heap.size, 6, none⟩ = some (.slice ao (ints g.s).length c) := (cell_heap hgb _).trans rfl
  have hfz := frozen_heap hgb
  have hbl2 := lt_heap hgb
  have HG := Lib.hid hgb
  have HBK := Lib.hid (((Below.refl W1.heap.size W1).alloc (Nat.le_refl _) _).trans (hBk.mono (by simp)))
  clear hgb hBk
  rcases HE.out with ⟨hk0, rfl⟩ | ⟨bb, tt, er, ms, hk1, hk2, rfl, hbb⟩
  · subst hk0
    go_wp2_with (fail)
    rw [rounds_succ]
    go_wp2_with (fail)
    go_ret
    generalize hZ : Builtin.zeroCells _ _ = Z
    obtain ⟨cap, hcap⟩ : ∃ cap, (Question.appendCap 1 0 48).cut (W2.tape W2.drawn (Question.appendCap 1 0 48)) = cap := ⟨_, rfl⟩
    have h0 : Step [] [] W1 W2 := Step.ofBelow HBK.out
    obtain ⟨W3, hW3⟩ : ∃ W3, W3 = ((W2.setCell ⟨W1.heap.size, 0, none⟩ (.int .i64 0)).alloc (.cells #[.int .i64 0, .int .i64 g.t, .int .i64 g.k, .int .i64 g.size, .int .i64 g.id, .int .i64 g.n, .slice ao (ints g.s).length c] 48)).alloc (.cells (#[.int .i64 0, .int .i64 g.t, .int .i64 g.k, .int .i64 g.size, .int .i64 g.id, .int .i64 g.n, .slice ao (ints g.s).length c] ++ Z) 48) := ⟨_, rfl⟩
    have hrow : W3.heap[W2.heap.size + 1]? = some (.cells (#[.int .i64 0, .int .i64 g.t, .int .i64 g.k, .int .i64 g.size, .int .i64 g.id, .int .i64 g.n, .slice ao (ints g.s).length c] ++ Z) 48 (0, 0)) := by rw [hW3]; exact heap_alloc_at (by simp) _
    have hst : Step [W1.heap.size] [W1.heap.size] W1 W3 := by rw [hW3]; exact ((((Step.ofBelow HBK.out).setCell (.inl (by simp)) _).alloc _).alloc _)
    have hst2 : Step [] [] W1 W3 := ⟨hst.os, hst.tape, hst.output, hst.size, fun k hk hn => hst.block k hk (by simp; omega), fun k hk => by simp at hk⟩
    rw [← hW3]
    clear hW3
    exact ⟨W2.heap.size + 1, _, _, kb, S1, rfl, row_got (W := W3.drew) hrow, (HB.out.step hst2 (by simp)).step ((Step.refl [] W3).drew) (by simp), P.step HI.out hst2.drew (by simp), HS.out.trans (hst2.drew.more (by simp) (fun k hk => .inr (.inl hk)))⟩
  · clear hbb hk1 hk2
    go_wp2_with (fail)
    go_ret
    generalize hZ : Builtin.zeroCells _ _ = Z
    obtain ⟨cap, hcap⟩ : ∃ cap, (Question.appendCap 1 0 48).cut (W2.tape W2.drawn (Question.appendCap 1 0 48)) = cap := ⟨_, rfl⟩
    have h0 : Step [] [] W1 W2 := Step.ofBelow HBK.out
    obtain ⟨W3, hW3⟩ : ∃ W3, W3 = ((W2.setCell ⟨W1.heap.size, 0, none⟩ (.int .i64 (k : Nat))).alloc (.cells #[.int .i64 (k : Nat), .int .i64 g.t, .int .i64 g.k, .int .i64 g.size, .int .i64 g.id, .int .i64 g.n, .slice ao (ints g.s).length c] 48)).alloc (.cells (#[.int .i64 (k : Nat), .int .i64 g.t, .int .i64 g.k, .int .i64 g.size, .int .i64 g.id, .int .i64 g.n, .slice ao (ints g.s).length c] ++ Z) 48) := ⟨_, rfl⟩
    have hrow : W3.heap[W2.heap.size + 1]? = some (.cells (#[.int .i64 (k : Nat), .int .i64 g.t, .int .i64 g.k, .int .i64 g.size, .int .i64 g.id, .int .i64 g.n, .slice ao (ints g.s).length c] ++ Z) 48 (0, 0)) := by rw [hW3]; exact heap_alloc_at (by simp) _
    have hst : Step [W1.heap.size] [W1.heap.size] W1 W3 := by rw [hW3]; exact ((((Step.ofBelow HBK.out).setCell (.inl (by simp)) _).alloc _).alloc _)
    have hst2 : Step [] [] W1 W3 := ⟨hst.os, hst.tape, hst.output, hst.size, fun k hk hn => hst.block k hk (by simp; omega), fun k hk => by simp at hk⟩
    rw [← hW3]
    clear hW3
    exact ⟨W2.heap.size + 1, _, _, kb, S1, rfl, row_got (W := W3.drew) hrow, (HB.out.step hst2 (by simp)).step ((Step.refl [] W3).drew) (by simp), P.step HI.out hst2.drew (by simp), HS.out.trans (hst2.drew.more (by simp) (fun k hk => .inr (.inl hk)))⟩

end Go.Proofs.YthmkkbihfdcbiaaGreatDoor
