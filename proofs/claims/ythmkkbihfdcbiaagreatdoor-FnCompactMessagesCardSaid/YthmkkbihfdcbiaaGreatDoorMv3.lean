/- Texts, begins and steps are read by whatever protocol. No condition. -/
import Derived.Test.YthmkkbihfdcbiaaGreatDoorMv2
import Derived.Test.YthmkkbihfdcbiaaGreatDoorMt3
import Derived.Test.YthmkkbihfdcbiaaGreatDoorMn
import Derived.Deep.AppendLies
/-! Texts and identifiers are read by whatever protocol. -/
namespace Go.Proofs.YthmkkbihfdcbiaaGreatDoor

open Go.RowKit Go.Deep

set_option linter.unusedVariables false

set_option linter.unusedSimpArgs false

theorem conv_IsB2 {w : World} (l : List UInt8) {e : TypeId} {fz : Nat × Nat} {k cap : Nat} (h1 : l.length ≤ cap) (h2 : cap ≤ maxLen) (hw : w.heap[k]? = some (.cells (bytesRow ⟨l.toArray⟩ cap) e fz)) : IsB (Lib.byteCells l) (.slice (some ⟨k, 0, none⟩) l.length cap) k w := by
  refine ⟨cap, .inr ⟨0, by rw [Lib.byteCells_length], by rw [Lib.byteCells_length]; exact h1, h2, lt_heap hw, fun j x hj => ?_⟩⟩
  have hlt : j < l.length := by have := (List.getElem?_eq_some_iff.1 hj).1; rwa [Lib.byteCells_length] at this
  rw [cell_heap hw, Nat.zero_add, bytesRow_at _ _ j (by simpa using hlt)]
  rw [← hj]
  simp [Lib.byteCells, hlt]

/-- What a step that reads tells, in memory. -/
abbrev gotV (g : RGot) (v : Value) : Value := .agg #[.int .i64 0, .int .i64 g.t, .int .i64 g.k, .int .i64 g.size, .int .i64 g.id, .int .i64 g.n, v]

def TellsG (P : PR) (g : RGot) (k : Nat) (s1 : P.σ) (S : List Nat) (w : World) (e : Ending) (w' : World) : Prop :=
  ∃ ev v kb S', e = .returned (.tuple #[gotV g v, ev]) ∧ IsB (Lib.byteCells g.s) v kb w' ∧ w.heap.size ≤ kb ∧ kb ∉ S' ∧ IsErr k ev w' ∧ P.Is S' s1 w' ∧ Step S S' w w'

end Go.Proofs.YthmkkbihfdcbiaaGreatDoor

/-! The begins of messages are read by whatever protocol. -/
namespace Go.Proofs.YthmkkbihfdcbiaaGreatDoor

open Go.RowKit Go.Deep

set_option linter.unusedVariables false

set_option linter.unusedSimpArgs false

set_option maxRecDepth 100000 in
set_option maxHeartbeats 2000000 in
theorem begun_msg (P : PR) (y1 y2 y3 y4 y5 y6 : Value) {S : List Nat} {s : P.σ} {w : World} (h : P.Is S s w) {g : RGot} {k : Nat} {s1 : P.σ} (hr : P.run s .msgB = some (g, k, s1)) :
    Calls Tryz.prog 72 #[.iface P.ty P.ptr, .agg #[.int .i64 0, y1, y2, y3, y4, y5, y6]] w (TellsG P { s := g.s, t := g.t, n := g.n } k s1 S w) := by
  obtain ⟨hm, hn, hen⟩ := P.m_msgB
  have hc := ctx_any
  have hfit := P.fits hr
  have hg : g.s.length < 2147483648 := hfit.2.2.2.2.2.2.2.2.1
  have hgt : -2147483648 ≤ g.t ∧ g.t < 2147483648 := hfit.2.1
  have hgn : -9223372036854775808 ≤ g.n ∧ g.n < 9223372036854775808 := hfit.2.2.2.2.2.2.1
  obtain ⟨l, hgl⟩ : ∃ l, g.s = l := ⟨_, rfl⟩
  obtain ⟨t, htt⟩ : ∃ t, g.t = t := ⟨_, rfl⟩
  obtain ⟨n, hnn⟩ : ∃ n, g.n = n := ⟨_, rfl⟩
  have hO : ∀ W, Step [] [] w W → Calls Tryz.prog (P.fn "ReadMessageBegin") #[P.ptr, ctxV] W (TellsV P.Is (fun ev => .tuple #[strV g.s, .int .i32 g.t, .int .i32 g.n, ev]) k s1 S W) := fun W hW => P.at_ h hr W hW
  rw [hgl, htt, hnn] at hO
  rw [hgl] at hg
  rw [htt] at hgt
  rw [hnn] at hgn
  rw [hgl, htt, hnn]
  have HO := Lib.hid hO
  have HF := Lib.hid (P.lt h)
  have hcv := fun w s => run_bytes_of_string (P := Tryz.prog) w 9 26 5 s Tryz.underlying9 Tryz.underlying26 Tryz.underlying5
  have hwt : IntKind.i64.wrap t = t := by rw [IntKind.wrap_i64]; omega
  have hwt2 : wrap64 t = t := by unfold wrap64; omega
  have hwn : IntKind.i64.wrap n = n := by rw [IntKind.wrap_i64]; omega
  have hwn2 : wrap64 n = n := by unfold wrap64; omega
  clear hO hfit hr h hgl htt hnn
  go_enter Tryz.func72, Tryz.ntmps72
  go_wp2_with (fail)
  go_region_held3 (fun _ => True) (trivial)
    (first
      | (go_at_call 48; refine (hc _).mono ?_; rintro e w' ⟨rfl, rfl⟩)
      | (refine (HO.out _ ?_).mono ?_; exact ((((Step.refl _ _).alloc _).alloc _).alloc _).drew; rintro e W1 ⟨ev, S1, rfl, he, hI, hs⟩; have hbx := (hs.block (w.heap.size + 1) (by simp) (fun hm => by have := HF.out _ hm; omega)).trans (heap_alloc_old (heap_alloc_at (by simp) _) _); have c0 : W1.cell? ⟨w.heap.size + 1, 0, none⟩ = some (.int .i64 0) := (cell_heap hbx _).trans rfl; have c1 : W1.cell? ⟨w.heap.size + 1, 1, none⟩ = some (.int .i64 0) := (cell_heap hbx _).trans rfl; have c2 : W1.cell? ⟨w.heap.size + 1, 2, none⟩ = some (.int .i64 0) := (cell_heap hbx _).trans rfl; have c3 : W1.cell? ⟨w.heap.size + 1, 3, none⟩ = some (.int .i64 0) := (cell_heap hbx _).trans rfl; have c4 : W1.cell? ⟨w.heap.size + 1, 4, none⟩ = some (.int .i64 0) := (cell_heap hbx _).trans rfl; have c5 : W1.cell? ⟨w.heap.size + 1, 5, none⟩ = some (.int .i64 0) := (cell_heap hbx _).trans rfl; have c6 : W1.cell? ⟨w.heap.size + 1, 6, none⟩ = some (.slice none 0 0) := (cell_heap hbx _).trans rfl; have hfz := frozen_heap hbx; have hbl := lt_heap hbx; have HX := Lib.hid hbx; have HE := Lib.hid he; have HI := Lib.hid hI; have HS := Lib.hid hs; clear he hI hs hbx))
  all_goals go_wp2
  all_goals (
    have hm : l.length ≤ maxLen := by unfold maxLen; omega
    have hgc := grownCap_ge W1 l.length 0 5
    have hgm := grownCap_le_maxLen W1 l.length 0 5 hm
    obtain ⟨cap, hcap⟩ : ∃ c, grownCap W1 l.length 0 5 = c := ⟨_, rfl⟩
    rw [hcap] at hgc hgm ⊢
    obtain ⟨W2, e2, h2, hs2⟩ := set7 HX.out (.int .i64 0) (.int .i64 t) (.int .i64 0) (.int .i64 0) (.int .i64 0) (.int .i64 n) (.slice (some ⟨W1.heap.size, 0, none⟩) l.length cap)
    rw [e2]
    have hsz2 : W2.heap.size = W1.heap.size := by rw [← e2]; simp
    obtain ⟨W3, hW3⟩ : ∃ W3, W3 = (W2.alloc (.cells (bytesRow ⟨l.toArray⟩ cap) 5 ((bytesRow ⟨l.toArray⟩ cap).size, (bytesRow ⟨l.toArray⟩ cap).size + 1))).drew := ⟨_, rfl⟩
    rw [← hW3]
    have h3 : W3.heap[w.heap.size + 1]? = some (.cells #[.int .i64 0, .int .i64 t, .int .i64 0, .int .i64 0, .int .i64 0, .int .i64 n, .slice (some ⟨W1.heap.size, 0, none⟩) l.length cap] 48 (0, 0)) := by rw [hW3]; exact heap_alloc_old h2 _
    have hrow : W3.heap[W1.heap.size]? = some (.cells (bytesRow ⟨l.toArray⟩ cap) 5 ((bytesRow ⟨l.toArray⟩ cap).size, (bytesRow ⟨l.toArray⟩ cap).size + 1)) := by rw [hW3, ← hsz2]; exact heap_alloc_new W2 _
    have hs3 : Step [w.heap.size + 1] [w.heap.size + 1] W1 W3 := by rw [hW3]; exact (hs2.alloc _).drew
    clear hW3
    have r0 : W3.cell? ⟨w.heap.size + 1, 0, none⟩ = some (.int .i64 0) := (cell_heap h3 _).trans rfl
    have r1 : W3.cell? ⟨w.heap.size + 1, 1, none⟩ = some (.int .i64 t) := (cell_heap h3 _).trans rfl
    have r2 : W3.cell? ⟨w.heap.size + 1, 2, none⟩ = some (.int .i64 0) := (cell_heap h3 _).trans rfl
    have r3 : W3.cell? ⟨w.heap.size + 1, 3, none⟩ = some (.int .i64 0) := (cell_heap h3 _).trans rfl
    have r4 : W3.cell? ⟨w.heap.size + 1, 4, none⟩ = some (.int .i64 0) := (cell_heap h3 _).trans rfl
    have r5 : W3.cell? ⟨w.heap.size + 1, 5, none⟩ = some (.int .i64 n) := (cell_heap h3 _).trans rfl
    have r6 : W3.cell? ⟨w.heap.size + 1, 6, none⟩ = some (.slice (some ⟨W1.heap.size, 0, none⟩) l.length cap) := (cell_heap h3 _).trans rfl
    refine bodyPost_ret (v := .tuple #[gotV { s := l, t := t, n := n } (.slice (some ⟨W1.heap.size, 0, none⟩) l.length cap), ev]) (by simp [results, Tryz.results72, go_sem, *]) rfl ?_
    have hsz : ∀ j, j ∈ S1 → j ∉ [w.heap.size + 1] := fun j hj hm => by
      simp only [List.mem_cons, List.not_mem_nil, or_false] at hm
      rcases HS.out.own j hj with h' | h'
      · have := HF.out _ h'; omega
      · simp at h'; omega
    exact ⟨ev, _, W1.heap.size, S1, rfl, conv_IsB2 l hgc hgm hrow, by omega, fun hm => Nat.lt_irrefl _ (P.lt HI.out _ hm), HE.out.step_at hs3 (fun b hb => by simp only [List.mem_cons, List.not_mem_nil, or_false] at hb; subst hb; exact ⟨_, _, _, HX.out, by decide⟩), P.step HI.out hs3 hsz, ((((((Step.refl _ _).alloc _).alloc _).alloc _).drew).trans HS.out).fresh hs3 (by simp)⟩)

end Go.Proofs.YthmkkbihfdcbiaaGreatDoor

/-! The begins of lists are read by whatever protocol. -/
namespace Go.Proofs.YthmkkbihfdcbiaaGreatDoor

open Go.RowKit Go.Deep

set_option linter.unusedVariables false

set_option linter.unusedSimpArgs false

end Go.Proofs.YthmkkbihfdcbiaaGreatDoor

/-! The begins of sets are read by whatever protocol. -/
namespace Go.Proofs.YthmkkbihfdcbiaaGreatDoor

open Go.RowKit Go.Deep

set_option linter.unusedVariables false

set_option linter.unusedSimpArgs false

end Go.Proofs.YthmkkbihfdcbiaaGreatDoor

/-! The begins of maps are read by whatever protocol. -/
namespace Go.Proofs.YthmkkbihfdcbiaaGreatDoor

open Go.RowKit Go.Deep

set_option linter.unusedVariables false

set_option linter.unusedSimpArgs false

end Go.Proofs.YthmkkbihfdcbiaaGreatDoor

/-! Steps that begin something are read by whatever protocol. -/
namespace Go.Proofs.YthmkkbihfdcbiaaGreatDoor

open Go.RowKit Go.Deep

set_option linter.unusedVariables false

set_option linter.unusedSimpArgs false

set_option maxRecDepth 100000 in
set_option maxHeartbeats 2000000 in
theorem read_msg (P : PR) (y1 y2 y3 y4 y5 y6 : Value) {S : List Nat} {s : P.σ} {w : World} (h : P.Is S s w) {g : RGot} {k : Nat} {s1 : P.σ} (hr : P.run s .msgB = some (g, k, s1)) :
    Calls Tryz.prog 58 #[.iface P.ty P.ptr, .agg #[.int .i64 0, y1, y2, y3, y4, y5, y6]] w (TellsG P { s := g.s, t := g.t, n := g.n } k s1 S w) := by
  have HO := Lib.hid (fun a b => begun_msg P y1 y2 y3 y4 y5 y6 (P.step h (((Step.refl [] w).alloc a).alloc b) (by simp)) hr)
  have HF := Lib.hid (P.lt h)
  obtain ⟨G, hG⟩ : ∃ G : RGot, { s := g.s, t := g.t, n := g.n } = G := ⟨_, rfl⟩
  rw [hG] at HO ⊢
  clear hG h hr
  go_enter Tryz.func58, Tryz.ntmps58
  go_wp2_with (fail)
  refine (HO.out _ _).mono ?_
  rintro e W1 ⟨ev, v, kb, S1, rfl, hB, hkb, hkS, he, hI, hs⟩
  obtain ⟨ao, c, rfl, hc, hC⟩ := hB.ints
  replace hkb : w.heap.size + 1 + 1 ≤ kb := by simpa using hkb
  have hbx := (hs.block (w.heap.size + 1) (by simp) (fun hm => by have := HF.out _ hm; omega)).trans (heap_alloc_at (by simp) _)
  have c0 : W1.cell? ⟨w.heap.size + 1, 0, none⟩ = some (.int .i64 0) := (cell_heap hbx _).trans rfl
  have c1 : W1.cell? ⟨w.heap.size + 1, 1, none⟩ = some (.int .i64 0) := (cell_heap hbx _).trans rfl
  have c2 : W1.cell? ⟨w.heap.size + 1, 2, none⟩ = some (.int .i64 0) := (cell_heap hbx _).trans rfl
  have c3 : W1.cell? ⟨w.heap.size + 1, 3, none⟩ = some (.int .i64 0) := (cell_heap hbx _).trans rfl
  have c4 : W1.cell? ⟨w.heap.size + 1, 4, none⟩ = some (.int .i64 0) := (cell_heap hbx _).trans rfl
  have c5 : W1.cell? ⟨w.heap.size + 1, 5, none⟩ = some (.int .i64 0) := (cell_heap hbx _).trans rfl
  have c6 : W1.cell? ⟨w.heap.size + 1, 6, none⟩ = some (.slice none 0 0) := (cell_heap hbx _).trans rfl
  have hfz := frozen_heap hbx
  have hbl := lt_heap hbx
  have HX := Lib.hid hbx
  have HE := Lib.hid he
  have HI := Lib.hid hI
  have HS := Lib.hid hs
  have HB := Lib.hid hB
  have HK := Lib.hid hkS
  clear he hI hs hbx hB hkS hC hc
  go_wp2
  all_goals (
    obtain ⟨W3, e2, h3, hs3⟩ := set7 HX.out (.int .i64 0) (.int .i64 G.t) (.int .i64 G.k) (.int .i64 G.size) (.int .i64 G.id) (.int .i64 G.n) (.slice ao (ints G.s).length c)
    rw [e2]
    clear e2
    have r0 : W3.cell? ⟨w.heap.size + 1, 0, none⟩ = some (.int .i64 0) := (cell_heap h3 _).trans rfl
    have r1 : W3.cell? ⟨w.heap.size + 1, 1, none⟩ = some (.int .i64 G.t) := (cell_heap h3 _).trans rfl
    have r2 : W3.cell? ⟨w.heap.size + 1, 2, none⟩ = some (.int .i64 G.k) := (cell_heap h3 _).trans rfl
    have r3 : W3.cell? ⟨w.heap.size + 1, 3, none⟩ = some (.int .i64 G.size) := (cell_heap h3 _).trans rfl
    have r4 : W3.cell? ⟨w.heap.size + 1, 4, none⟩ = some (.int .i64 G.id) := (cell_heap h3 _).trans rfl
    have r5 : W3.cell? ⟨w.heap.size + 1, 5, none⟩ = some (.int .i64 G.n) := (cell_heap h3 _).trans rfl
    have r6 : W3.cell? ⟨w.heap.size + 1, 6, none⟩ = some (.slice ao (ints G.s).length c) := (cell_heap h3 _).trans rfl
    refine bodyPost_ret (v := .tuple #[gotV G (.slice ao (ints G.s).length c), ev]) (by simp [results, Tryz.results58, go_sem, *]) rfl ?_
    have hsz : ∀ j, j ∈ S1 → j ∉ [w.heap.size + 1] := fun j hj hm => by
      simp only [List.mem_cons, List.not_mem_nil, or_false] at hm
      rcases HS.out.own j hj with h' | h'
      · have := HF.out _ h'; omega
      · simp at h'; omega
    exact ⟨ev, _, kb, S1, rfl, HB.out.step hs3 (by simp only [List.mem_cons, List.not_mem_nil, or_false]; omega), by omega, HK.out, HE.out.step_at hs3 (fun b hb => by simp only [List.mem_cons, List.not_mem_nil, or_false] at hb; subst hb; exact ⟨_, _, _, HX.out, by decide⟩), P.step HI.out hs3 hsz, ((((Step.refl _ _).alloc _).alloc _).trans HS.out).fresh hs3 (by simp)⟩)

end Go.Proofs.YthmkkbihfdcbiaaGreatDoor

/-! One step that reads is done by whatever protocol. -/
namespace Go.Proofs.YthmkkbihfdcbiaaGreatDoor

open Go.RowKit Go.Deep

set_option linter.unusedVariables false

set_option linter.unusedSimpArgs false

/-- Where what was told lies. -/
def GotAt (q : Nat) (k : Nat) (g : RGot) (v : Value) (W : World) : Prop := Box7 q (.int .i64 (k : Nat)) (.int .i64 g.t) (.int .i64 g.k) (.int .i64 g.size) (.int .i64 g.id) (.int .i64 g.n) v W

theorem infoGot : (Tryz.prog.info? 48).map (fun i => (i.zero, i.size, i.bytes)) = some (some (.agg #[.int .i64 0, .int .i64 0, .int .i64 0, .int .i64 0, .int .i64 0, .int .i64 0, .slice none 0 0]), 7, 72) := by kernel_rfl

theorem row_got {q : Nat} {x0 x1 x2 x3 x4 x5 x6 : Value} {z : Array Value} {ty : TypeId} {f : Nat × Nat} {W : World} (h : W.heap[q]? = some (.cells (#[x0, x1, x2, x3, x4, x5, x6] ++ z) ty f)) : Box7 q x0 x1 x2 x3 x4 x5 x6 W := by
  have e : ∀ i (hi : i < 7), W.cell? ⟨q, i, none⟩ = (#[x0, x1, x2, x3, x4, x5, x6] : Array Value)[i]? := fun i hi => by
    rw [cell_heap h, Array.getElem?_append_left (by simpa using hi)]
  exact ⟨e 0 (by omega), e 1 (by omega), e 2 (by omega), e 3 (by omega), e 4 (by omega), e 5 (by omega), e 6 (by omega)⟩

set_option maxRecDepth 100000 in
set_option maxHeartbeats 2000000 in
theorem reads_one (P : PR) (b : Nat) (op a1 a2 a3 a4 a5 : Int) (A : Option Addr) (nA cA : Nat) {S : List Nat} {s s1 : P.σ} {w : World} {g : RGot} {k : Nat} (h : P.Is S s w) (hE : EofAt w) (hS2 : ∀ j, j ∈ S → 2 ≤ j)
    (hb : Box7 b (.int .i64 op) (.int .i64 a1) (.int .i64 a2) (.int .i64 a3) (.int .i64 a4) (.int .i64 a5) (.slice A nA cA) w) (hbl : b < w.heap.size)
    (hrd : ∀ W, Step [] [] w W → Calls Tryz.prog 58 #[.iface P.ty P.ptr, .agg #[.int .i64 op, .int .i64 a1, .int .i64 a2, .int .i64 a3, .int .i64 a4, .int .i64 a5, .slice A nA cA]] W (TellsG P g k s1 S W)) :
    Calls Tryz.prog 44 #[.iface P.ty P.ptr, .slice (some ⟨b, 0, none⟩) 1 1] w fun e w' => ∃ q cap v kb S', e = .returned (.slice (some ⟨q, 0, none⟩) 1 cap) ∧ GotAt q k g v w' ∧ IsB (Lib.byteCells g.s) v kb w' ∧ P.Is S' s1 w' ∧ Step S S' w w' := by
  obtain ⟨p0, p1, p2, p3, p4, p5, p6⟩ := hb
  obtain ⟨i0, hi, hz0, hz1, hz2⟩ := info_parts infoGot
  have HRD := Lib.hid hrd
  have HI0 := Lib.hid h
  have HEO := Lib.hid hE
  clear h hrd hE
  go_enter Tryz.func44, Tryz.ntmps44
  go_wp2_with (fail)
  refine wp_loop_rounds 2 ?_
  rw [rounds_succ]
  go_wp2_with (fail)
  refine (HRD.out _ ((Step.refl [] w).alloc _)).mono ?_
  rintro e W1 ⟨ev, v, kb, S1, rfl, hB, hkb, hkS, he, hI, hs⟩
  obtain ⟨ao, c, rfl, hc, hC⟩ := hB.ints
  clear hc hC
  have HI := Lib.hid hI
  have HB := Lib.hid hB
  have HE := Lib.hid he
  have HS := Lib.hid (((Step.refl S w).alloc (.cells #[.int .i64 op, .int .i64 a1, .int .i64 a2, .int .i64 a3, .int .i64 a4, .int .i64 a5, .slice A nA cA] 46)).trans hs)
  replace hkb : w.heap.size + 1 ≤ kb := by simpa using hkb
  have hls : w.heap.size + 1 ≤ W1.heap.size := by have := hs.size; simpa using this
  have HEK := Lib.hid (fun o => kind_any (he.step_at ((Step.refl [] W1).alloc o) (by simp)) ((HEO.out.below (B := 2) (((Below.refl _ w).alloc (by have := HEO.out.lt; omega) _).trans (hs.below 2 (by have := HEO.out.lt; simp; omega) (fun j hj => hS2 j hj))) (by omega)).below (B := 2) ((Below.refl _ W1).alloc (by have := HEO.out.lt; omega) o) (by omega)))
  clear hI hB he hs p0 p1 p2 p3 p4 p5 p6
  go_wp2_with (fail)
  refine (HEK.out _).mono ?_
  rintro e W2 ⟨rfl, hBk⟩
  have hgb := (hBk.block W1.heap.size (by simp)).trans (heap_alloc_new W1 _)
  have c0 : W2.cell? ⟨W1.heap.size, 0, none⟩ = some (.int .i64 0) := (cell_heap hgb _).trans rfl
  have c1 : W2.cell? ⟨W1.heap.size, 1, none⟩ = some (.int .i64 g.t) := (cell_heap hgb _).trans rfl
  have c2 : W2.cell? ⟨W1.heap.size, 2, none⟩ = some (.int .i64 g.k) := (cell_heap hgb _).trans rfl
  have c3 : W2.cell? ⟨W1.heap.size, 3, none⟩ = some (.int .i64 g.size) := (cell_heap hgb _).trans rfl
  have c4 : W2.cell? ⟨W1.heap.size, 4, none⟩ = some (.int .i64 g.id) := (cell_heap hgb _).trans rfl
  have c5 : W2.cell? ⟨W1.heap.size, 5, none⟩ = some (.int .i64 g.n) := (cell_heap hgb _).trans rfl
  have c6 : W2.cell? ⟨W1.heap.size, 6, none⟩ = some (.slice ao (ints g.s).length c) := (cell_heap hgb _).trans rfl
  have hfz := frozen_heap hgb
  have hbl2 := lt_heap hgb
  have HG := Lib.hid hgb
  have HBK := Lib.hid (((Below.refl W1.heap.size W1).alloc (Nat.le_refl _) _).trans (hBk.mono (by simp)))
  clear hgb hBk
  rcases HE.out with ⟨hk0, rfl⟩ | ⟨bb, tt, er, ms, hk1, hk2, rfl, hbb⟩
  · subst hk0
    go_wp2_with (fail)
    rw [rounds_succ]
    go_wp2_with (fail)
    go_ret
    generalize hZ : Builtin.zeroCells _ _ = Z
    obtain ⟨cap, hcap⟩ : ∃ cap, (Question.appendCap 1 0 48).cut (W2.tape W2.drawn (Question.appendCap 1 0 48)) = cap := ⟨_, rfl⟩
    have h0 : Step [] [] W1 W2 := Step.ofBelow HBK.out
    obtain ⟨W3, hW3⟩ : ∃ W3, W3 = ((W2.setCell ⟨W1.heap.size, 0, none⟩ (.int .i64 0)).alloc (.cells #[.int .i64 0, .int .i64 g.t, .int .i64 g.k, .int .i64 g.size, .int .i64 g.id, .int .i64 g.n, .slice ao (ints g.s).length c] 48)).alloc (.cells (#[.int .i64 0, .int .i64 g.t, .int .i64 g.k, .int .i64 g.size, .int .i64 g.id, .int .i64 g.n, .slice ao (ints g.s).length c] ++ Z) 48) := ⟨_, rfl⟩
    have hrow : W3.heap[W2.heap.size + 1]? = some (.cells (#[.int .i64 0, .int .i64 g.t, .int .i64 g.k, .int .i64 g.size, .int .i64 g.id, .int .i64 g.n, .slice ao (ints g.s).length c] ++ Z) 48 (0, 0)) := by rw [hW3]; exact heap_alloc_at (by simp) _
    have hst : Step [W1.heap.size] [W1.heap.size] W1 W3 := by rw [hW3]; exact ((((Step.ofBelow HBK.out).setCell (.inl (by simp)) _).alloc _).alloc _)
    have hst2 : Step [] [] W1 W3 := ⟨hst.os, hst.tape, hst.output, hst.size, fun k hk hn => hst.block k hk (by simp; omega), fun k hk => by simp at hk⟩
    rw [← hW3]
    clear hW3
    exact ⟨W2.heap.size + 1, _, _, kb, S1, rfl, row_got (W := W3.drew) hrow, (HB.out.step hst2 (by simp)).step ((Step.refl [] W3).drew) (by simp), P.step HI.out hst2.drew (by simp), HS.out.trans (hst2.drew.more (by simp) (fun k hk => .inr (.inl hk)))⟩
  · clear hbb hk1 hk2
    go_wp2_with (fail)
    go_ret
    generalize hZ : Builtin.zeroCells _ _ = Z
    obtain ⟨cap, hcap⟩ : ∃ cap, (Question.appendCap 1 0 48).cut (W2.tape W2.drawn (Question.appendCap 1 0 48)) = cap := ⟨_, rfl⟩
    have h0 : Step [] [] W1 W2 := Step.ofBelow HBK.out
    obtain ⟨W3, hW3⟩ : ∃ W3, W3 = ((W2.setCell ⟨W1.heap.size, 0, none⟩ (.int .i64 (k : Nat))).alloc (.cells #[.int .i64 (k : Nat), .int .i64 g.t, .int .i64 g.k, .int .i64 g.size, .int .i64 g.id, .int .i64 g.n, .slice ao (ints g.s).length c] 48)).alloc (.cells (#[.int .i64 (k : Nat), .int .i64 g.t, .int .i64 g.k, .int .i64 g.size, .int .i64 g.id, .int .i64 g.n, .slice ao (ints g.s).length c] ++ Z) 48) := ⟨_, rfl⟩
    have hrow : W3.heap[W2.heap.size + 1]? = some (.cells (#[.int .i64 (k : Nat), .int .i64 g.t, .int .i64 g.k, .int .i64 g.size, .int .i64 g.id, .int .i64 g.n, .slice ao (ints g.s).length c] ++ Z) 48 (0, 0)) := by rw [hW3]; exact heap_alloc_at (by simp) _
    have hst : Step [W1.heap.size] [W1.heap.size] W1 W3 := by rw [hW3]; exact ((((Step.ofBelow HBK.out).setCell (.inl (by simp)) _).alloc _).alloc _)
    have hst2 : Step [] [] W1 W3 := ⟨hst.os, hst.tape, hst.output, hst.size, fun k hk hn => hst.block k hk (by simp; omega), fun k hk => by simp at hk⟩
    rw [← hW3]
    clear hW3
    exact ⟨W2.heap.size + 1, _, _, kb, S1, rfl, row_got (W := W3.drew) hrow, (HB.out.step hst2 (by simp)).step ((Step.refl [] W3).drew) (by simp), P.step HI.out hst2.drew (by simp), HS.out.trans (hst2.drew.more (by simp) (fun k hk => .inr (.inl hk)))⟩

end Go.Proofs.YthmkkbihfdcbiaaGreatDoor
