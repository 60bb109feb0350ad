/- Texts, begins and steps are read by whatever protocol. No condition. -/
import Derived.Test.YtelocgemofghaaaGreatDoorMv2
import Derived.Test.YtelocgemofghaaaGreatDoorMt3
import Derived.Test.YtelocgemofghaaaGreatDoorMn
import Derived.Deep.AppendLies
import Derived.Test.YtelocgemofghaaaGreatDoorMa1
import Derived.Deep.Upon
/-! Texts and identifiers are read by whatever protocol. -/
namespace Go.Proofs.YtelocgemofghaaaGreatDoor

open Go.RowKit Go.Deep

set_option linter.unusedVariables false

set_option linter.unusedSimpArgs false

theorem conv_IsB2 {w : World} (l : List UInt8) {e : TypeId} {fz : Nat × Nat} {k cap : Nat} (h1 : l.length ≤ cap) (h2 : cap ≤ maxLen) (hw : w.heap[k]? = some (.cells (bytesRow ⟨l.toArray⟩ cap) e fz)) : IsB (Lib.byteCells l) (.slice (some ⟨k, 0, none⟩) l.length cap) k w := by
  refine ⟨cap, .inr ⟨0, by rw [Lib.byteCells_length], by rw [Lib.byteCells_length]; exact h1, h2, lt_heap hw, fun j x hj => ?_⟩⟩
  have hlt : j < l.length := by have := (List.getElem?_eq_some_iff.1 hj).1; rwa [Lib.byteCells_length] at this
  rw [cell_heap hw, Nat.zero_add, bytesRow_at _ _ j (by simpa using hlt)]
  rw [← hj]
  simp [Lib.byteCells, hlt]

/-- What a step that reads tells, in memory. -/
abbrev gotV (g : RGot) (v : Value) : Value := .agg #[.int .i64 0, .int .i64 g.t, .int .i64 g.k, .int .i64 g.size, .int .i64 g.id, .int .i64 g.n, v]

def TellsG (P : PR) (g : RGot) (k : Nat) (s1 : P.σ) (S : List Nat) (w : World) (e : Ending) (w' : World) : Prop :=
  ∃ ev v kb S', e = .returned (.tuple #[gotV g v, ev]) ∧ IsB (Lib.byteCells g.s) v kb w' ∧ w.heap.size ≤ kb ∧ kb ∉ S' ∧ IsErr k ev w' ∧ P.Is S' s1 w' ∧ Step S S' w w'

set_option maxRecDepth 100000 in
set_option maxHeartbeats 2000000 in
theorem read_str (P : PR) (y1 y2 y3 y4 y5 y6 : Value) {S : List Nat} {s : P.σ} {w : World} (h : P.Is S s w) {g : RGot} {k : Nat} {s1 : P.σ} (hr : P.run s .str = some (g, k, s1)) :
    Calls Tryz.prog 60 #[.iface P.ty P.ptr, .agg #[.int .i64 19, y1, y2, y3, y4, y5, y6]] w (TellsG P { s := g.s } k s1 S w) := by
  obtain ⟨hm, hn, hen⟩ := P.m_str
  have hc := ctx_any
  have hfit := P.fits hr
  have hg : g.s.length < 2147483648 := hfit.2.2.2.2.2.2.2.2.1
  obtain ⟨l, hgl⟩ : ∃ l, g.s = l := ⟨_, rfl⟩
  have hO : ∀ W, Step [] [] w W → Calls Tryz.prog (P.fn "ReadString") #[P.ptr, ctxV] W (TellsV P.Is (fun ev => .tuple #[strV g.s, ev]) k s1 S W) := fun W hW => P.at_ h hr W hW
  rw [hgl] at hO hg ⊢
  have HO := Lib.hid hO
  have HF := Lib.hid (P.lt h)
  have hcv := fun w s => run_bytes_of_string (P := Tryz.prog) w 9 24 5 s Tryz.underlying9 Tryz.underlying24 Tryz.underlying5
  clear hO hfit hr h hgl
  go_enter Tryz.func60, Tryz.ntmps60
  go_wp2_with (fail)
  go_region_held3 (fun _ => True) (trivial)
    (first
      | (go_at_call 53; refine (hc _).mono ?_; rintro e w' ⟨rfl, rfl⟩)
      | (refine (HO.out _ ?_).mono ?_; exact (((Step.refl _ _).alloc _).alloc _).drew; rintro e W1 ⟨ev, S1, rfl, he, hI, hs⟩; have hbx := (hs.block (w.heap.size + 1) (by simp) (fun hm => by have := HF.out _ hm; omega)).trans (heap_alloc_at (by simp) _); have c0 : W1.cell? ⟨w.heap.size + 1, 0, none⟩ = some (.int .i64 0) := (cell_heap hbx _).trans rfl; have c1 : W1.cell? ⟨w.heap.size + 1, 1, none⟩ = some (.int .i64 0) := (cell_heap hbx _).trans rfl; have c2 : W1.cell? ⟨w.heap.size + 1, 2, none⟩ = some (.int .i64 0) := (cell_heap hbx _).trans rfl; have c3 : W1.cell? ⟨w.heap.size + 1, 3, none⟩ = some (.int .i64 0) := (cell_heap hbx _).trans rfl; have c4 : W1.cell? ⟨w.heap.size + 1, 4, none⟩ = some (.int .i64 0) := (cell_heap hbx _).trans rfl; have c5 : W1.cell? ⟨w.heap.size + 1, 5, none⟩ = some (.int .i64 0) := (cell_heap hbx _).trans rfl; have c6 : W1.cell? ⟨w.heap.size + 1, 6, none⟩ = some (.slice none 0 0) := (cell_heap hbx _).trans rfl; have hfz := frozen_heap hbx; have hbl := lt_heap hbx; have HX := Lib.hid hbx; have HE := Lib.hid he; have HI := Lib.hid hI; have HS := Lib.hid hs; clear he hI hs hbx))
  all_goals go_wp2
  all_goals (
    have hm : l.length ≤ maxLen := by unfold maxLen; omega
    have hgc := grownCap_ge W1 l.length 0 5
    have hgm := grownCap_le_maxLen W1 l.length 0 5 hm
    obtain ⟨cap, hcap⟩ : ∃ c, grownCap W1 l.length 0 5 = c := ⟨_, rfl⟩
    rw [hcap] at hgc hgm ⊢
    obtain ⟨W2, e2, h2, hs2⟩ := set7 HX.out (.int .i64 0) (.int .i64 0) (.int .i64 0) (.int .i64 0) (.int .i64 0) (.int .i64 0) (.slice (some ⟨W1.heap.size, 0, none⟩) l.length cap)
    rw [e2]
    have hsz2 : W2.heap.size = W1.heap.size := by rw [← e2]; simp
    obtain ⟨W3, hW3⟩ : ∃ W3, W3 = (W2.alloc (.cells (bytesRow ⟨l.toArray⟩ cap) 5 ((bytesRow ⟨l.toArray⟩ cap).size, (bytesRow ⟨l.toArray⟩ cap).size + 1))).drew := ⟨_, rfl⟩
    rw [← hW3]
    have h3 : W3.heap[w.heap.size + 1]? = some (.cells #[.int .i64 0, .int .i64 0, .int .i64 0, .int .i64 0, .int .i64 0, .int .i64 0, .slice (some ⟨W1.heap.size, 0, none⟩) l.length cap] 68 (0, 0)) := by rw [hW3]; exact heap_alloc_old h2 _
    have hrow : W3.heap[W1.heap.size]? = some (.cells (bytesRow ⟨l.toArray⟩ cap) 5 ((bytesRow ⟨l.toArray⟩ cap).size, (bytesRow ⟨l.toArray⟩ cap).size + 1)) := by rw [hW3, ← hsz2]; exact heap_alloc_new W2 _
    have hs3 : Step [w.heap.size + 1] [w.heap.size + 1] W1 W3 := by rw [hW3]; exact (hs2.alloc _).drew
    clear hW3
    have r0 : W3.cell? ⟨w.heap.size + 1, 0, none⟩ = some (.int .i64 0) := (cell_heap h3 _).trans rfl
    have r1 : W3.cell? ⟨w.heap.size + 1, 1, none⟩ = some (.int .i64 0) := (cell_heap h3 _).trans rfl
    have r2 : W3.cell? ⟨w.heap.size + 1, 2, none⟩ = some (.int .i64 0) := (cell_heap h3 _).trans rfl
    have r3 : W3.cell? ⟨w.heap.size + 1, 3, none⟩ = some (.int .i64 0) := (cell_heap h3 _).trans rfl
    have r4 : W3.cell? ⟨w.heap.size + 1, 4, none⟩ = some (.int .i64 0) := (cell_heap h3 _).trans rfl
    have r5 : W3.cell? ⟨w.heap.size + 1, 5, none⟩ = some (.int .i64 0) := (cell_heap h3 _).trans rfl
    have r6 : W3.cell? ⟨w.heap.size + 1, 6, none⟩ = some (.slice (some ⟨W1.heap.size, 0, none⟩) l.length cap) := (cell_heap h3 _).trans rfl
    refine bodyPost_ret (v := .tuple #[gotV { s := l } (.slice (some ⟨W1.heap.size, 0, none⟩) l.length cap), ev]) (by simp [results, Tryz.results60, go_sem, *]) rfl ?_
    have hsz : ∀ j, j ∈ S1 → j ∉ [w.heap.size + 1] := fun j hj hm => by
      simp only [List.mem_cons, List.not_mem_nil, or_false] at hm
      rcases HS.out.own j hj with h' | h'
      · have := HF.out _ h'; omega
      · simp at h'; omega
    exact ⟨ev, _, W1.heap.size, S1, rfl, conv_IsB2 l hgc hgm hrow, by omega, fun hm => Nat.lt_irrefl _ (P.lt HI.out _ hm), HE.out.step_at hs3 (fun b hb => by simp only [List.mem_cons, List.not_mem_nil, or_false] at hb; subst hb; exact ⟨_, _, _, HX.out, by decide⟩), P.step HI.out hs3 hsz, (((((Step.refl _ _).alloc _).alloc _).drew).trans HS.out).fresh hs3 (by simp)⟩)

end Go.Proofs.YtelocgemofghaaaGreatDoor

/-! The begins of messages are read by whatever protocol. -/
namespace Go.Proofs.YtelocgemofghaaaGreatDoor

open Go.RowKit Go.Deep

set_option linter.unusedVariables false

set_option linter.unusedSimpArgs false

end Go.Proofs.YtelocgemofghaaaGreatDoor

/-! The begins of lists are read by whatever protocol. -/
namespace Go.Proofs.YtelocgemofghaaaGreatDoor

open Go.RowKit Go.Deep

set_option linter.unusedVariables false

set_option linter.unusedSimpArgs false

set_option maxRecDepth 100000 in
set_option maxHeartbeats 2000000 in
theorem begun_lst (P : PR) (y1 y2 y3 y4 y5 y6 : Value) {S : List Nat} {s : P.σ} {w : World} (h : P.Is S s w) {g : RGot} {k : Nat} {s1 : P.σ} (hr : P.run s .lstB = some (g, k, s1)) :
    Calls Tryz.prog 81 #[.iface P.ty P.ptr, .agg #[.int .i64 9, y1, y2, y3, y4, y5, y6]] w (TellsG P { t := g.t, size := g.size } k s1 S w) := by
  obtain ⟨hm, hn, hen⟩ := P.m_lstB
  have hc := ctx_any
  have hfit := P.fits hr
  have hgt : 0 ≤ g.t ∧ g.t < 256 := hfit.1 (by decide)
  have hgk : 0 ≤ g.k ∧ g.k < 256 := hfit.2.2.1
  have hgn : -2147483648 ≤ g.size ∧ g.size < 2147483648 := hfit.2.2.2.1
  obtain ⟨t, h_t⟩ : ∃ x, g.t = x := ⟨_, rfl⟩
  obtain ⟨n, h_n⟩ : ∃ x, g.size = x := ⟨_, rfl⟩
  have hO : ∀ W, Step [] [] w W → Calls Tryz.prog (P.fn "ReadListBegin") #[P.ptr, ctxV] W (TellsV P.Is (fun ev => .tuple #[.int .u8 g.t, .int .i64 g.size, ev]) k s1 S W) := fun W hW => P.at_ h hr W hW
  rw [h_t, h_n] at hO
  rw [h_t] at hgt
  rw [h_n] at hgn

  rw [h_t, h_n]
  have HO := Lib.hid hO
  have HF := Lib.hid (P.lt h)
  have hwt : IntKind.i64.wrap t = t := by rw [IntKind.wrap_i64]; omega
  have hwt2 : wrap64 t = t := by unfold wrap64; omega


  clear hO hfit hr h h_t h_n
  go_enter Tryz.func81, Tryz.ntmps81
  go_wp2_with (fail)
  go_region_held3 (fun _ => True) (trivial)
    (first
      | (go_at_call 53; refine (hc _).mono ?_; rintro e w' ⟨rfl, rfl⟩)
      | (refine (HO.out _ ?_).mono ?_; exact ((((Step.refl _ _).alloc _).alloc _).alloc _).drew; rintro e W1 ⟨ev, S1, rfl, he, hI, hs⟩; have hbx := (hs.block (w.heap.size + 1) (by simp) (fun hm => by have := HF.out _ hm; omega)).trans (heap_alloc_old (heap_alloc_at (by simp) _) _); have hbg := (hs.block (w.heap.size + 1 + 1) (by simp) (fun hm => by have := HF.out _ hm; omega)).trans (heap_alloc_at (by simp) _); have c0 : W1.cell? ⟨w.heap.size + 1, 0, none⟩ = some (.int .i64 0) := (cell_heap hbx _).trans rfl; have c1 : W1.cell? ⟨w.heap.size + 1, 1, none⟩ = some (.int .i64 0) := (cell_heap hbx _).trans rfl; have c2 : W1.cell? ⟨w.heap.size + 1, 2, none⟩ = some (.int .i64 0) := (cell_heap hbx _).trans rfl; have c3 : W1.cell? ⟨w.heap.size + 1, 3, none⟩ = some (.int .i64 0) := (cell_heap hbx _).trans rfl; have c4 : W1.cell? ⟨w.heap.size + 1, 4, none⟩ = some (.int .i64 0) := (cell_heap hbx _).trans rfl; have c5 : W1.cell? ⟨w.heap.size + 1, 5, none⟩ = some (.int .i64 0) := (cell_heap hbx _).trans rfl; have c6 : W1.cell? ⟨w.heap.size + 1, 6, none⟩ = some (.slice none 0 0) := (cell_heap hbx _).trans rfl; have d0 : W1.cell? ⟨w.heap.size + 1 + 1, 0, none⟩ = some (.int .i64 0) := (cell_heap hbg _).trans rfl; have d1 : W1.cell? ⟨w.heap.size + 1 + 1, 1, none⟩ = some (.int .i64 0) := (cell_heap hbg _).trans rfl; have d2 : W1.cell? ⟨w.heap.size + 1 + 1, 2, none⟩ = some (.int .i64 0) := (cell_heap hbg _).trans rfl; have d3 : W1.cell? ⟨w.heap.size + 1 + 1, 3, none⟩ = some (.int .i64 0) := (cell_heap hbg _).trans rfl; have d4 : W1.cell? ⟨w.heap.size + 1 + 1, 4, none⟩ = some (.int .i64 0) := (cell_heap hbg _).trans rfl; have d5 : W1.cell? ⟨w.heap.size + 1 + 1, 5, none⟩ = some (.int .i64 0) := (cell_heap hbg _).trans rfl; have d6 : W1.cell? ⟨w.heap.size + 1 + 1, 6, none⟩ = some (.slice none 0 0) := (cell_heap hbg _).trans rfl; have hfz := frozen_heap hbx; have hfg := frozen_heap hbg; have hbl := lt_heap hbx; have HX := Lib.hid hbx; have HG := Lib.hid hbg; have HE := Lib.hid he; have HI := Lib.hid hI; have HS := Lib.hid hs; clear he hI hs hbx hbg))
  all_goals go_wp2
  all_goals (
    have hx' : (((W1.setCell ⟨w.heap.size + 1 + 1, 3, none⟩ (.int .i64 n)).setCell ⟨w.heap.size + 1 + 1, 1, none⟩ (.int .i64 t)).setCell ⟨w.heap.size + 1 + 1, 2, none⟩ (.int .i64 0)).heap[w.heap.size + 1]? = some (.cells #[.int .i64 0, .int .i64 0, .int .i64 0, .int .i64 0, .int .i64 0, .int .i64 0, .slice none 0 0] 68 (0, 0)) :=
      heap_set_other (heap_set_other (heap_set_other HX.out (by show w.heap.size + 1 ≠ w.heap.size + 1 + 1; omega) _) (by show w.heap.size + 1 ≠ w.heap.size + 1 + 1; omega) _) (by show w.heap.size + 1 ≠ w.heap.size + 1 + 1; omega) _
    have hs1 : Step [w.heap.size + 1, w.heap.size + 1 + 1] [w.heap.size + 1, w.heap.size + 1 + 1] W1 (((W1.setCell ⟨w.heap.size + 1 + 1, 3, none⟩ (.int .i64 n)).setCell ⟨w.heap.size + 1 + 1, 1, none⟩ (.int .i64 t)).setCell ⟨w.heap.size + 1 + 1, 2, none⟩ (.int .i64 0)) :=
      (((Step.refl _ W1).setCell (p := ⟨w.heap.size + 1 + 1, 3, none⟩) (.inl (by simp)) _).setCell (p := ⟨w.heap.size + 1 + 1, 1, none⟩) (.inl (by simp)) _).setCell (p := ⟨w.heap.size + 1 + 1, 2, none⟩) (.inl (by simp)) _
    obtain ⟨W3, e2, h3, hs2⟩ := set7 hx' (.int .i64 0) (.int .i64 t) (.int .i64 0) (.int .i64 n) (.int .i64 0) (.int .i64 0) (.slice none 0 0)
    rw [e2]
    have hs3 := hs1.trans (hs2.more (S1 := [w.heap.size + 1, w.heap.size + 1 + 1]) (T1 := [w.heap.size + 1, w.heap.size + 1 + 1]) (by simp) (fun k hk => .inr (.inl hk)))
    clear e2 hs1 hs2 hx'
    have r0 : W3.cell? ⟨w.heap.size + 1, 0, none⟩ = some (.int .i64 0) := (cell_heap h3 _).trans rfl
    have r1 : W3.cell? ⟨w.heap.size + 1, 1, none⟩ = some (.int .i64 t) := (cell_heap h3 _).trans rfl
    have r2 : W3.cell? ⟨w.heap.size + 1, 2, none⟩ = some (.int .i64 0) := (cell_heap h3 _).trans rfl
    have r3 : W3.cell? ⟨w.heap.size + 1, 3, none⟩ = some (.int .i64 n) := (cell_heap h3 _).trans rfl
    have r4 : W3.cell? ⟨w.heap.size + 1, 4, none⟩ = some (.int .i64 0) := (cell_heap h3 _).trans rfl
    have r5 : W3.cell? ⟨w.heap.size + 1, 5, none⟩ = some (.int .i64 0) := (cell_heap h3 _).trans rfl
    have r6 : W3.cell? ⟨w.heap.size + 1, 6, none⟩ = some (.slice none 0 0) := (cell_heap h3 _).trans rfl
    refine bodyPost_ret (v := .tuple #[gotV { t := t, size := n } (.slice none 0 0), ev]) (by simp [results, Tryz.results81, go_sem, *]) rfl ?_
    have hsz : ∀ j, j ∈ S1 → j ∉ [w.heap.size + 1, w.heap.size + 1 + 1] := fun j hj hm => by
      simp only [List.mem_cons, List.not_mem_nil, or_false] at hm
      rcases HS.out.own j hj with h' | h'
      · have := HF.out _ h'; omega
      · simp at h'; omega
    have hI3 := P.step HI.out hs3 hsz
    have hwl := HS.out.size
    simp at hwl
    exact ⟨ev, .slice none 0 0, W3.heap.size, S1, rfl, ⟨0, .inl ⟨rfl, rfl⟩⟩, by have := hs3.size; omega, fun hm => Nat.lt_irrefl _ (P.lt hI3 _ hm), HE.out.step_at hs3 (fun b hb => by
      simp only [List.mem_cons, List.not_mem_nil, or_false] at hb
      rcases hb with rfl | rfl
      · exact ⟨_, _, _, HX.out, by decide⟩
      · exact ⟨_, _, _, HG.out, by decide⟩), hI3, ((((((Step.refl _ _).alloc _).alloc _).alloc _).drew).trans HS.out).fresh hs3 (fun k hk => by simp only [List.mem_cons, List.not_mem_nil, or_false] at hk; omega)⟩)

end Go.Proofs.YtelocgemofghaaaGreatDoor

/-! The begins of sets are read by whatever protocol. -/
namespace Go.Proofs.YtelocgemofghaaaGreatDoor

open Go.RowKit Go.Deep

set_option linter.unusedVariables false

set_option linter.unusedSimpArgs false

set_option maxRecDepth 100000 in
set_option maxHeartbeats 2000000 in
theorem begun_set (P : PR) (y1 y2 y3 y4 y5 y6 : Value) {S : List Nat} {s : P.σ} {w : World} (h : P.Is S s w) {g : RGot} {k : Nat} {s1 : P.σ} (hr : P.run s .setB = some (g, k, s1)) :
    Calls Tryz.prog 81 #[.iface P.ty P.ptr, .agg #[.int .i64 11, y1, y2, y3, y4, y5, y6]] w (TellsG P { t := g.t, size := g.size } k s1 S w) := by
  obtain ⟨hm, hn, hen⟩ := P.m_setB
  have hc := ctx_any
  have hfit := P.fits hr
  have hgt : 0 ≤ g.t ∧ g.t < 256 := hfit.1 (by decide)
  have hgk : 0 ≤ g.k ∧ g.k < 256 := hfit.2.2.1
  have hgn : -2147483648 ≤ g.size ∧ g.size < 2147483648 := hfit.2.2.2.1
  obtain ⟨t, h_t⟩ : ∃ x, g.t = x := ⟨_, rfl⟩
  obtain ⟨n, h_n⟩ : ∃ x, g.size = x := ⟨_, rfl⟩
  have hO : ∀ W, Step [] [] w W → Calls Tryz.prog (P.fn "ReadSetBegin") #[P.ptr, ctxV] W (TellsV P.Is (fun ev => .tuple #[.int .u8 g.t, .int .i64 g.size, ev]) k s1 S W) := fun W hW => P.at_ h hr W hW
  rw [h_t, h_n] at hO
  rw [h_t] at hgt
  rw [h_n] at hgn

  rw [h_t, h_n]
  have HO := Lib.hid hO
  have HF := Lib.hid (P.lt h)
  have hwt : IntKind.i64.wrap t = t := by rw [IntKind.wrap_i64]; omega
  have hwt2 : wrap64 t = t := by unfold wrap64; omega


  clear hO hfit hr h h_t h_n
  go_enter Tryz.func81, Tryz.ntmps81
  go_wp2_with (fail)
  go_region_held3 (fun _ => True) (trivial)
    (first
      | (go_at_call 53; refine (hc _).mono ?_; rintro e w' ⟨rfl, rfl⟩)
      | (refine (HO.out _ ?_).mono ?_; exact ((((Step.refl _ _).alloc _).alloc _).alloc _).drew; rintro e W1 ⟨ev, S1, rfl, he, hI, hs⟩; have hbx := (hs.block (w.heap.size + 1) (by simp) (fun hm => by have := HF.out _ hm; omega)).trans (heap_alloc_old (heap_alloc_at (by simp) _) _); have hbg := (hs.block (w.heap.size + 1 + 1) (by simp) (fun hm => by have := HF.out _ hm; omega)).trans (heap_alloc_at (by simp) _); have c0 : W1.cell? ⟨w.heap.size + 1, 0, none⟩ = some (.int .i64 0) := (cell_heap hbx _).trans rfl; have c1 : W1.cell? ⟨w.heap.size + 1, 1, none⟩ = some (.int .i64 0) := (cell_heap hbx _).trans rfl; have c2 : W1.cell? ⟨w.heap.size + 1, 2, none⟩ = some (.int .i64 0) := (cell_heap hbx _).trans rfl; have c3 : W1.cell? ⟨w.heap.size + 1, 3, none⟩ = some (.int .i64 0) := (cell_heap hbx _).trans rfl; have c4 : W1.cell? ⟨w.heap.size + 1, 4, none⟩ = some (.int .i64 0) := (cell_heap hbx _).trans rfl; have c5 : W1.cell? ⟨w.heap.size + 1, 5, none⟩ = some (.int .i64 0) := (cell_heap hbx _).trans rfl; have c6 : W1.cell? ⟨w.heap.size + 1, 6, none⟩ = some (.slice none 0 0) := (cell_heap hbx _).trans rfl; have d0 : W1.cell? ⟨w.heap.size + 1 + 1, 0, none⟩ = some (.int .i64 0) := (cell_heap hbg _).trans rfl; have d1 : W1.cell? ⟨w.heap.size + 1 + 1, 1, none⟩ = some (.int .i64 0) := (cell_heap hbg _).trans rfl; have d2 : W1.cell? ⟨w.heap.size + 1 + 1, 2, none⟩ = some (.int .i64 0) := (cell_heap hbg _).trans rfl; have d3 : W1.cell? ⟨w.heap.size + 1 + 1, 3, none⟩ = some (.int .i64 0) := (cell_heap hbg _).trans rfl; have d4 : W1.cell? ⟨w.heap.size + 1 + 1, 4, none⟩ = some (.int .i64 0) := (cell_heap hbg _).trans rfl; have d5 : W1.cell? ⟨w.heap.size + 1 + 1, 5, none⟩ = some (.int .i64 0) := (cell_heap hbg _).trans rfl; have d6 : W1.cell? ⟨w.heap.size + 1 + 1, 6, none⟩ = some (.slice none 0 0) := (cell_heap hbg _).trans rfl; have hfz := frozen_heap hbx; have hfg := frozen_heap hbg; have hbl := lt_heap hbx; have HX := Lib.hid hbx; have HG := Lib.hid hbg; have HE := Lib.hid he; have HI := Lib.hid hI; have HS := Lib.hid hs; clear he hI hs hbx hbg))
  all_goals go_wp2
  all_goals (
    have hx' : (((W1.setCell ⟨w.heap.size + 1 + 1, 3, none⟩ (.int .i64 n)).setCell ⟨w.heap.size + 1 + 1, 1, none⟩ (.int .i64 t)).setCell ⟨w.heap.size + 1 + 1, 2, none⟩ (.int .i64 0)).heap[w.heap.size + 1]? = some (.cells #[.int .i64 0, .int .i64 0, .int .i64 0, .int .i64 0, .int .i64 0, .int .i64 0, .slice none 0 0] 68 (0, 0)) :=
      heap_set_other (heap_set_other (heap_set_other HX.out (by show w.heap.size + 1 ≠ w.heap.size + 1 + 1; omega) _) (by show w.heap.size + 1 ≠ w.heap.size + 1 + 1; omega) _) (by show w.heap.size + 1 ≠ w.heap.size + 1 + 1; omega) _
    have hs1 : Step [w.heap.size + 1, w.heap.size + 1 + 1] [w.heap.size + 1, w.heap.size + 1 + 1] W1 (((W1.setCell ⟨w.heap.size + 1 + 1, 3, none⟩ (.int .i64 n)).setCell ⟨w.heap.size + 1 + 1, 1, none⟩ (.int .i64 t)).setCell ⟨w.heap.size + 1 + 1, 2, none⟩ (.int .i64 0)) :=
      (((Step.refl _ W1).setCell (p := ⟨w.heap.size + 1 + 1, 3, none⟩) (.inl (by simp)) _).setCell (p := ⟨w.heap.size + 1 + 1, 1, none⟩) (.inl (by simp)) _).setCell (p := ⟨w.heap.size + 1 + 1, 2, none⟩) (.inl (by simp)) _
    obtain ⟨W3, e2, h3, hs2⟩ := set7 hx' (.int .i64 0) (.int .i64 t) (.int .i64 0) (.int .i64 n) (.int .i64 0) (.int .i64 0) (.slice none 0 0)
    rw [e2]
    have hs3 := hs1.trans (hs2.more (S1 := [w.heap.size + 1, w.heap.size + 1 + 1]) (T1 := [w.heap.size + 1, w.heap.size + 1 + 1]) (by simp) (fun k hk => .inr (.inl hk)))
    clear e2 hs1 hs2 hx'
    have r0 : W3.cell? ⟨w.heap.size + 1, 0, none⟩ = some (.int .i64 0) := (cell_heap h3 _).trans rfl
    have r1 : W3.cell? ⟨w.heap.size + 1, 1, none⟩ = some (.int .i64 t) := (cell_heap h3 _).trans rfl
    have r2 : W3.cell? ⟨w.heap.size + 1, 2, none⟩ = some (.int .i64 0) := (cell_heap h3 _).trans rfl
    have r3 : W3.cell? ⟨w.heap.size + 1, 3, none⟩ = some (.int .i64 n) := (cell_heap h3 _).trans rfl
    have r4 : W3.cell? ⟨w.heap.size + 1, 4, none⟩ = some (.int .i64 0) := (cell_heap h3 _).trans rfl
    have r5 : W3.cell? ⟨w.heap.size + 1, 5, none⟩ = some (.int .i64 0) := (cell_heap h3 _).trans rfl
    have r6 : W3.cell? ⟨w.heap.size + 1, 6, none⟩ = some (.slice none 0 0) := (cell_heap h3 _).trans rfl
    refine bodyPost_ret (v := .tuple #[gotV { t := t, size := n } (.slice none 0 0), ev]) (by simp [results, Tryz.results81, go_sem, *]) rfl ?_
    have hsz : ∀ j, j ∈ S1 → j ∉ [w.heap.size + 1, w.heap.size + 1 + 1] := fun j hj hm => by
      simp only [List.mem_cons, List.not_mem_nil, or_false] at hm
      rcases HS.out.own j hj with h' | h'
      · have := HF.out _ h'; omega
      · simp at h'; omega
    have hI3 := P.step HI.out hs3 hsz
    have hwl := HS.out.size
    simp at hwl
    exact ⟨ev, .slice none 0 0, W3.heap.size, S1, rfl, ⟨0, .inl ⟨rfl, rfl⟩⟩, by have := hs3.size; omega, fun hm => Nat.lt_irrefl _ (P.lt hI3 _ hm), HE.out.step_at hs3 (fun b hb => by
      simp only [List.mem_cons, List.not_mem_nil, or_false] at hb
      rcases hb with rfl | rfl
      · exact ⟨_, _, _, HX.out, by decide⟩
      · exact ⟨_, _, _, HG.out, by decide⟩), hI3, ((((((Step.refl _ _).alloc _).alloc _).alloc _).drew).trans HS.out).fresh hs3 (fun k hk => by simp only [List.mem_cons, List.not_mem_nil, or_false] at hk; omega)⟩)

end Go.Proofs.YtelocgemofghaaaGreatDoor

/-! The begins of maps are read by whatever protocol. -/
namespace Go.Proofs.YtelocgemofghaaaGreatDoor

open Go.RowKit Go.Deep

set_option linter.unusedVariables false

set_option linter.unusedSimpArgs false

end Go.Proofs.YtelocgemofghaaaGreatDoor

/-! Steps that begin something are read by whatever protocol. -/
namespace Go.Proofs.YtelocgemofghaaaGreatDoor

open Go.RowKit Go.Deep

set_option linter.unusedVariables false

set_option linter.unusedSimpArgs false

end Go.Proofs.YtelocgemofghaaaGreatDoor

/-! One step that reads is done by whatever protocol. -/
namespace Go.Proofs.YtelocgemofghaaaGreatDoor

open Go.RowKit Go.Deep

set_option linter.unusedVariables false

set_option linter.unusedSimpArgs false

end Go.Proofs.YtelocgemofghaaaGreatDoor

/-! A copy of bytes; binaries and uuids are read by whatever protocol. -/
namespace Go.Proofs.YtelocgemofghaaaGreatDoor

open Go.RowKit Go.Deep

set_option linter.unusedVariables false

set_option linter.unusedSimpArgs false

end Go.Proofs.YtelocgemofghaaaGreatDoor

/-! Uuids are read by whatever protocol. -/
namespace Go.Proofs.YtelocgemofghaaaGreatDoor

open Go.RowKit Go.Deep

set_option linter.unusedVariables false

set_option linter.unusedSimpArgs false

end Go.Proofs.YtelocgemofghaaaGreatDoor
