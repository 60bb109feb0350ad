/- Values are got by whatever protocol. No condition. -/
import Derived.Test.YtelocgemofghaaaGreatDoorMv3
import Derived.Test.YtelocgemofghaaaGreatDoorMc
import Derived.Test.YtelocgemofghaaaGreatDoorMt3
import Derived.Test.YtelocgemofghaaaGreatDoorMe
import Derived.Test.YtelocgemofghaaaGreatDoorMv4
import Derived.Test.YtelocgemofghaaaGreatDoorMv2
import Derived.Test.YtelocgemofghaaaGreatDoorMx
import Derived.Test.YtelocgemofghaaaGreatDoorMg1
/-! What is read, in memory, with the blocks in which it lies. -/
namespace Go.Proofs.YtelocgemofghaaaGreatDoor

open Go.RowKit Go.Deep

set_option linter.unusedVariables false

set_option linter.unusedSimpArgs false

open Go.Proofs.YtelocgemofghaaaGreatDoorW.PrintWords

/-- The blocks F are as they were. -/
def KeepOn (F : Nat → Prop) (w w1 : World) : Prop := ∀ k, F k → w1.heap[k]? = w.heap[k]?

/-- A value whose parts lie in the blocks F. -/
def HasV (F : Nat → Prop) (w : World) (v : Val) (cs : List Value) : Prop := (∀ k, F k → k < w.heap.size) ∧ ∀ w1, KeepOn F w w1 → kVal.K w1 v cs

theorem HasV.keep {F : Nat → Prop} {w w1 : World} {v : Val} {cs : List Value} (h : HasV F w v cs) (hk : KeepOn F w w1) (hs : w.heap.size ≤ w1.heap.size) : HasV F w1 v cs :=
  ⟨fun k hk => Nat.lt_of_lt_of_le (h.1 k hk) hs, fun w2 h2 => h.2 w2 (fun k hF => (h2 k hF).trans (hk k hF))⟩

theorem HasV.more {F G : Nat → Prop} {w : World} {v : Val} {cs : List Value} (h : HasV F w v cs) (hFG : ∀ k, F k → G k) (hG : ∀ k, G k → k < w.heap.size) : HasV G w v cs :=
  ⟨hG, fun w1 h1 => h.2 w1 (fun k hk => h1 k (hFG k hk))⟩

theorem HasV.step {F : Nat → Prop} {S T : List Nat} {w w1 : World} {v : Val} {cs : List Value} (h : HasV F w v cs) (hs : Step S T w w1) (hF : ∀ k, F k → k ∉ S) : HasV F w1 v cs :=
  h.keep (fun k hk => hs.block k (h.1 k hk) (hF k hk)) hs.size

theorem HasV.now {F : Nat → Prop} {w : World} {v : Val} {cs : List Value} (h : HasV F w v cs) : kVal.K w v cs := h.2 w (fun _ _ => rfl)

theorem HasV.len {F : Nat → Prop} {w : World} {v : Val} {cs : List Value} (h : HasV F w v cs) : cs.length = 7 := kVal.K_len h.now

/-- A plain value: a type, a number, bytes. -/
theorem HasV.plain {w : World} (t n : Int) (s : List UInt8) (v : Value) (kb : Nat) (h : IsB (Lib.byteCells s) v kb w) : HasV (fun k => k = kb ∧ k < w.heap.size) w ⟨t, n, ints s, 0, 0, [], []⟩ [.int .i64 t, .int .i64 n, v, .int .i64 0, .int .i64 0, .slice none 0 0, .slice none 0 0] := by
  refine ⟨fun k hk => hk.2, fun w1 h1 => ?_⟩
  obtain ⟨c, ⟨rfl, hs⟩ | ⟨o, rfl, hc, hm, hk, hx⟩⟩ := h
  · have hs0 : s = [] := by
      cases s with
      | nil => rfl
      | cons a l => simp [Lib.byteCells] at hs
    subst hs0
    exact kVal_mk w1 ⟨t, n, [], 0, 0, [], []⟩ (A2 := none) (c2 := 0) (by simp) (Kd.C_nil _ w1) (A5 := none) (c5 := 0) (by simp) (Kd.C_nil _ w1) (A6 := none) (c6 := 0) (by simp) (Kd.C_nil _ w1)
  · have hI : IsB (Lib.byteCells s) (.slice (some ⟨kb, o, none⟩) (Lib.byteCells s).length c) kb w1 := by
      refine ⟨c, .inr ⟨o, rfl, hc, hm, ?_, fun j x hj => ?_⟩⟩
      · have := h1 kb ⟨rfl, hk⟩
        rw [Array.getElem?_eq_getElem hk] at this
        exact (Array.getElem?_eq_some_iff.1 this).1
      · have h2 := hx j x hj
        simp only [World.cell?] at h2 ⊢
        rw [h1 kb ⟨rfl, hk⟩]
        exact h2
    obtain ⟨ao, c', e1, hc', hC⟩ := hI.ints
    rw [e1]
    exact kVal_mk w1 ⟨t, n, ints s, 0, 0, [], []⟩ hc' hC (A5 := none) (c5 := 0) (by simp) (Kd.C_nil _ w1) (A6 := none) (c6 := 0) (by simp) (Kd.C_nil _ w1)

end Go.Proofs.YtelocgemofghaaaGreatDoor

/-! Rows of values that are made while reading, with the blocks in which they lie. -/
namespace Go.Proofs.YtelocgemofghaaaGreatDoor

open Go.RowKit Go.Deep

set_option linter.unusedVariables false

set_option linter.unusedSimpArgs false

open Go.Proofs.YtelocgemofghaaaGreatDoorW.PrintWords

/-- A value whose parts lie in blocks that are allowed. -/
def HasO (ok : Nat → Prop) (w : World) (v : Val) (cs : List Value) : Prop := ∃ F, HasV F w v cs ∧ ∀ k, F k → ok k

theorem HasO.mono {ok ok' : Nat → Prop} {w : World} {v : Val} {cs : List Value} (h : HasO ok w v cs) (hk : ∀ k, ok k → k < w.heap.size → ok' k) : HasO ok' w v cs := by
  obtain ⟨F, h1, h2⟩ := h
  exact ⟨F, h1, fun k hF => hk k (h2 k hF) (h1.1 k hF)⟩

theorem HasO.move {ok : Nat → Prop} {w w1 : World} {v : Val} {cs : List Value} (h : HasO ok w v cs) (hk : ∀ k, ok k → k < w.heap.size → w1.heap[k]? = w.heap[k]?) (hs : w.heap.size ≤ w1.heap.size) : HasO ok w1 v cs := by
  obtain ⟨F, h1, h2⟩ := h
  exact ⟨F, h1.keep (fun k hF => hk k (h2 k hF) (h1.1 k hF)) hs, h2⟩

theorem HasO.now {ok : Nat → Prop} {w : World} {v : Val} {cs : List Value} (h : HasO ok w v cs) : kVal.K w v cs := by
  obtain ⟨F, h1, _⟩ := h
  exact h1.now

/-- A row of values of the call's own. -/
def RowO (ok : Nat → Prop) (w : World) (base : Nat) (u : Value) (xs : List Val) : Prop :=
  (∀ k, u.ownBlock = some k → ok k) ∧ OwnRow (HasO (fun k => ok k ∧ some k ≠ u.ownBlock) w) 34 7 w base u xs

theorem RowO.nil (ok : Nat → Prop) (w : World) (base : Nat) : RowO ok w base (.slice none 0 0) [] := ⟨fun k hk => by simp [Value.ownBlock] at hk, OwnRow.none_ _ _ _ _ _⟩

theorem RowO.mono {ok ok' : Nat → Prop} {w : World} {base : Nat} {u : Value} {xs : List Val} (h : RowO ok w base u xs) (hk : ∀ k, ok k → k < w.heap.size → ok' k) : RowO ok' w base u xs := by
  obtain ⟨h1, inner, ho, hr⟩ := h
  exact ⟨fun k hb => hk k (h1 k hb) (own_lt ho k hb), inner, ho, hr.imp_ (fun _ _ hp => hp.mono (fun k hk1 hk2 => ⟨hk k hk1.1 hk2, hk1.2⟩))⟩

theorem RowO.move {ok : Nat → Prop} {w w1 : World} {base : Nat} {u : Value} {xs : List Val} (h : RowO ok w base u xs) (hk : ∀ k, ok k → k < w.heap.size → w1.heap[k]? = w.heap[k]?) (hs : w.heap.size ≤ w1.heap.size) : RowO ok w1 base u xs := by
  obtain ⟨h1, inner, ho, hr⟩ := h
  exact ⟨h1, inner, own_move ho (fun k hb => hk k (h1 k hb) (own_lt ho k hb)), hr.imp_ (fun _ _ hp => hp.move (fun k hk1 hk2 => hk k hk1.1 hk2) hs)⟩

/-- One value more. -/
theorem RowO.push {ok : Nat → Prop} {w w1 : World} {base : Nat} {u : Value} {xs : List Val} {x : Val} {inner cs : List Value} {g cap : Nat} (h1 : ∀ k, u.ownBlock = some k → ok k) (hr : Reps (HasO (fun k => ok k ∧ some k ≠ u.ownBlock) w) 7 xs inner)
    (hx : HasO (fun k => ok k ∧ some k ≠ u.ownBlock) w x cs) (hfresh : ok w.heap.size)
    (hown : w1.ownsRow base 34 7 (.slice (some ⟨g, 0, none⟩) (xs.length + 1) cap) (xs.length + 1) (inner ++ cs)) (hg : w.grownBy w1 u.ownBlock) (hat : u.ownBlock = some g ∨ g = w.heap.size) :
    RowO ok w1 base (.slice (some ⟨g, 0, none⟩) (xs.length + 1) cap) (xs ++ [x]) := by
  have hcl : cs.length = 7 := kVal.K_len hx.now
  have ob : (Value.slice (some ⟨g, 0, none⟩) (xs.length + 1) cap).ownBlock = some g := rfl
  refine ⟨fun k hk => ?_, inner ++ cs, ?_, ?_⟩
  · rw [ob] at hk
    injection hk with hk
    subst hk
    rcases hat with h | h
    · exact h1 _ h
    · rw [h]; exact hfresh
  · have : (xs ++ [x]).length = xs.length + 1 := by simp
    rw [this]
    exact hown
  · have hmv : ∀ v c, HasO (fun k => ok k ∧ some k ≠ u.ownBlock) w v c → HasO (fun k => ok k ∧ some k ≠ (Value.slice (some ⟨g, 0, none⟩) (xs.length + 1) cap).ownBlock) w1 v c := fun v c hv => by
      refine HasO.mono (HasO.move (HasO.mono hv (ok' := fun k => (ok k ∧ some k ≠ u.ownBlock) ∧ k < w.heap.size) (fun k h1 h2 => ⟨h1, h2⟩)) (fun k hk1 hk2 => hg.block k hk2 hk1.1.2) hg.size) (fun k hk1 hk2 => ⟨hk1.1.1, ?_⟩)
      rw [ob]
      intro e
      injection e with e
      subst e
      rcases hat with h | h
      · exact hk1.1.2 h.symm
      · have := hk1.2; omega
    exact (hr.imp_ hmv).snoc (hmv x cs hx) hcl

/-- The row, as long as its blocks stay. -/
theorem RowO.reads {ok : Nat → Prop} {w : World} {base : Nat} {u : Value} {xs : List Val} (h : RowO ok w base u xs) : ∃ A c, u = .slice A xs.length c ∧ xs.length ≤ c ∧ ∀ w1, KeepOn (fun k => ok k ∧ k < w.heap.size) w w1 → kVal.C w1 A xs.length xs := by
  obtain ⟨h1, hO⟩ := h
  obtain ⟨A, c, rfl, hc⟩ := OwnRow.slice_ hO
  refine ⟨A, c, rfl, hc, fun w1 hk => ?_⟩
  obtain ⟨inner, ho, hr⟩ := hO
  have ho1 := own_move (w1 := w1) ho (fun k hb => hk k ⟨h1 k hb, own_lt ho k hb⟩)
  have hr1 : Reps (kVal.K w1) 7 xs inner := hr.imp_ (fun p c hp => by
    obtain ⟨F, hF, hok⟩ := hp
    exact hF.2 w1 (fun k hk2 => hk k ⟨(hok k hk2).1, hF.1 k hk2⟩))
  obtain ⟨A', c', e, _, hR⟩ := OwnRow.reads (R := kVal.K w1) (e := 34) (size := 7) (w := w1) (base := base) (v := .slice A xs.length c) (ps := xs) ⟨inner, ho1, hr1⟩
  injection e with e1 e2 e3
  subst e1
  exact hR

/-- A value with such a row. -/
theorem RowO.val {ok : Nat → Prop} {w : World} {base : Nat} {u : Value} {xs : List Val} (h : RowO ok w base u xs) (t k e : Int) : HasO ok w ⟨t, 0, [], k, e, [], xs⟩ [.int .i64 t, .int .i64 0, .slice none 0 0, .int .i64 k, .int .i64 e, .slice none 0 0, u] := by
  obtain ⟨A, c, rfl, hc, hR⟩ := h.reads
  exact ⟨fun k => ok k ∧ k < w.heap.size, ⟨fun k hk => hk.2, fun w1 h1 => kVal_mk w1 ⟨t, 0, [], k, e, [], xs⟩ (A2 := none) (c2 := 0) (by simp) (Kd.C_nil _ w1) (A5 := none) (c5 := 0) (by simp) (Kd.C_nil _ w1) hc (hR w1 h1)⟩, fun k hk => hk.1⟩

end Go.Proofs.YtelocgemofghaaaGreatDoor

/-! The ends of lists, sets and maps are read by whatever protocol. -/
namespace Go.Proofs.YtelocgemofghaaaGreatDoor

open Go.RowKit Go.Deep

set_option linter.unusedVariables false

set_option linter.unusedSimpArgs false

set_option maxRecDepth 100000 in
set_option maxHeartbeats 2000000 in
theorem begun_lstE (P : PR) (y1 y2 y3 y4 y5 y6 : Value) {S : List Nat} {s : P.σ} {w : World} (h : P.Is S s w) {g : RGot} {k : Nat} {s1 : P.σ} (hr : P.run s .lstE = some (g, k, s1)) :
    Calls Tryz.prog 81 #[.iface P.ty P.ptr, .agg #[.int .i64 10, y1, y2, y3, y4, y5, y6]] w (TellsG P {} k s1 S w) := by
  obtain ⟨hm, hn, hen⟩ := P.m_lstE
  have hc := ctx_any
  have hfit := P.fits hr
  have hO : ∀ W, Step [] [] w W → Calls Tryz.prog (P.fn "ReadListEnd") #[P.ptr, ctxV] W (TellsV P.Is (fun ev => ev) k s1 S W) := fun W hW => P.at_ h hr W hW

  have HO := Lib.hid hO
  have HF := Lib.hid (P.lt h)


  clear hO hfit hr h
  go_enter Tryz.func81, Tryz.ntmps81
  go_wp2_with (fail)
  go_region_held3 (fun _ => True) (trivial)
    (first
      | (go_at_call 53; refine (hc _).mono ?_; rintro e w' ⟨rfl, rfl⟩)
      | (refine (HO.out _ ?_).mono ?_; exact ((((Step.refl _ _).alloc _).alloc _).alloc _).drew; rintro e W1 ⟨ev, S1, rfl, he, hI, hs⟩; have hbx := (hs.block (w.heap.size + 1) (by simp) (fun hm => by have := HF.out _ hm; omega)).trans (heap_alloc_old (heap_alloc_at (by simp) _) _); have hbg := (hs.block (w.heap.size + 1 + 1) (by simp) (fun hm => by have := HF.out _ hm; omega)).trans (heap_alloc_at (by simp) _); have c0 : W1.cell? ⟨w.heap.size + 1, 0, none⟩ = some (.int .i64 0) := (cell_heap hbx _).trans rfl; have c1 : W1.cell? ⟨w.heap.size + 1, 1, none⟩ = some (.int .i64 0) := (cell_heap hbx _).trans rfl; have c2 : W1.cell? ⟨w.heap.size + 1, 2, none⟩ = some (.int .i64 0) := (cell_heap hbx _).trans rfl; have c3 : W1.cell? ⟨w.heap.size + 1, 3, none⟩ = some (.int .i64 0) := (cell_heap hbx _).trans rfl; have c4 : W1.cell? ⟨w.heap.size + 1, 4, none⟩ = some (.int .i64 0) := (cell_heap hbx _).trans rfl; have c5 : W1.cell? ⟨w.heap.size + 1, 5, none⟩ = some (.int .i64 0) := (cell_heap hbx _).trans rfl; have c6 : W1.cell? ⟨w.heap.size + 1, 6, none⟩ = some (.slice none 0 0) := (cell_heap hbx _).trans rfl; have d0 : W1.cell? ⟨w.heap.size + 1 + 1, 0, none⟩ = some (.int .i64 0) := (cell_heap hbg _).trans rfl; have d1 : W1.cell? ⟨w.heap.size + 1 + 1, 1, none⟩ = some (.int .i64 0) := (cell_heap hbg _).trans rfl; have d2 : W1.cell? ⟨w.heap.size + 1 + 1, 2, none⟩ = some (.int .i64 0) := (cell_heap hbg _).trans rfl; have d3 : W1.cell? ⟨w.heap.size + 1 + 1, 3, none⟩ = some (.int .i64 0) := (cell_heap hbg _).trans rfl; have d4 : W1.cell? ⟨w.heap.size + 1 + 1, 4, none⟩ = some (.int .i64 0) := (cell_heap hbg _).trans rfl; have d5 : W1.cell? ⟨w.heap.size + 1 + 1, 5, none⟩ = some (.int .i64 0) := (cell_heap hbg _).trans rfl; have d6 : W1.cell? ⟨w.heap.size + 1 + 1, 6, none⟩ = some (.slice none 0 0) := (cell_heap hbg _).trans rfl; have hfz := frozen_heap hbx; have hfg := frozen_heap hbg; have hbl := lt_heap hbx; have HX := Lib.hid hbx; have HG := Lib.hid hbg; have HE := Lib.hid he; have HI := Lib.hid hI; have HS := Lib.hid hs; clear he hI hs hbx hbg))
  all_goals go_wp2
  all_goals (
    have hx' : ((W1.setCell ⟨w.heap.size + 1 + 1, 1, none⟩ (.int .i64 0)).setCell ⟨w.heap.size + 1 + 1, 2, none⟩ (.int .i64 0)).heap[w.heap.size + 1]? = some (.cells #[.int .i64 0, .int .i64 0, .int .i64 0, .int .i64 0, .int .i64 0, .int .i64 0, .slice none 0 0] 68 (0, 0)) :=
      heap_set_other (heap_set_other HX.out (by show w.heap.size + 1 ≠ w.heap.size + 1 + 1; omega) _) (by show w.heap.size + 1 ≠ w.heap.size + 1 + 1; omega) _
    have hs1 : Step [w.heap.size + 1, w.heap.size + 1 + 1] [w.heap.size + 1, w.heap.size + 1 + 1] W1 ((W1.setCell ⟨w.heap.size + 1 + 1, 1, none⟩ (.int .i64 0)).setCell ⟨w.heap.size + 1 + 1, 2, none⟩ (.int .i64 0)) :=
      ((Step.refl _ W1).setCell (p := ⟨w.heap.size + 1 + 1, 1, none⟩) (.inl (by simp)) _).setCell (p := ⟨w.heap.size + 1 + 1, 2, none⟩) (.inl (by simp)) _
    obtain ⟨W3, e2, h3, hs2⟩ := set7 hx' (.int .i64 0) (.int .i64 0) (.int .i64 0) (.int .i64 0) (.int .i64 0) (.int .i64 0) (.slice none 0 0)
    rw [e2]
    have hs3 := hs1.trans (hs2.more (S1 := [w.heap.size + 1, w.heap.size + 1 + 1]) (T1 := [w.heap.size + 1, w.heap.size + 1 + 1]) (by simp) (fun k hk => .inr (.inl hk)))
    clear e2 hs1 hs2 hx'
    have r0 : W3.cell? ⟨w.heap.size + 1, 0, none⟩ = some (.int .i64 0) := (cell_heap h3 _).trans rfl
    have r1 : W3.cell? ⟨w.heap.size + 1, 1, none⟩ = some (.int .i64 0) := (cell_heap h3 _).trans rfl
    have r2 : W3.cell? ⟨w.heap.size + 1, 2, none⟩ = some (.int .i64 0) := (cell_heap h3 _).trans rfl
    have r3 : W3.cell? ⟨w.heap.size + 1, 3, none⟩ = some (.int .i64 0) := (cell_heap h3 _).trans rfl
    have r4 : W3.cell? ⟨w.heap.size + 1, 4, none⟩ = some (.int .i64 0) := (cell_heap h3 _).trans rfl
    have r5 : W3.cell? ⟨w.heap.size + 1, 5, none⟩ = some (.int .i64 0) := (cell_heap h3 _).trans rfl
    have r6 : W3.cell? ⟨w.heap.size + 1, 6, none⟩ = some (.slice none 0 0) := (cell_heap h3 _).trans rfl
    refine bodyPost_ret (v := .tuple #[gotV {} (.slice none 0 0), ev]) (by simp [results, Tryz.results81, go_sem, *]) rfl ?_
    have hsz : ∀ j, j ∈ S1 → j ∉ [w.heap.size + 1, w.heap.size + 1 + 1] := fun j hj hm => by
      simp only [List.mem_cons, List.not_mem_nil, or_false] at hm
      rcases HS.out.own j hj with h' | h'
      · have := HF.out _ h'; omega
      · simp at h'; omega
    have hI3 := P.step HI.out hs3 hsz
    have hwl := HS.out.size
    simp at hwl
    exact ⟨ev, .slice none 0 0, W3.heap.size, S1, rfl, ⟨0, .inl ⟨rfl, rfl⟩⟩, by have := hs3.size; omega, fun hm => Nat.lt_irrefl _ (P.lt hI3 _ hm), HE.out.step_at hs3 (fun b hb => by
      simp only [List.mem_cons, List.not_mem_nil, or_false] at hb
      rcases hb with rfl | rfl
      · exact ⟨_, _, _, HX.out, by decide⟩
      · exact ⟨_, _, _, HG.out, by decide⟩), hI3, ((((((Step.refl _ _).alloc _).alloc _).alloc _).drew).trans HS.out).fresh hs3 (fun k hk => by simp only [List.mem_cons, List.not_mem_nil, or_false] at hk; omega)⟩)

set_option maxRecDepth 100000 in
set_option maxHeartbeats 2000000 in
theorem begun_setE (P : PR) (y1 y2 y3 y4 y5 y6 : Value) {S : List Nat} {s : P.σ} {w : World} (h : P.Is S s w) {g : RGot} {k : Nat} {s1 : P.σ} (hr : P.run s .setE = some (g, k, s1)) :
    Calls Tryz.prog 81 #[.iface P.ty P.ptr, .agg #[.int .i64 12, y1, y2, y3, y4, y5, y6]] w (TellsG P {} k s1 S w) := by
  obtain ⟨hm, hn, hen⟩ := P.m_setE
  have hc := ctx_any
  have hfit := P.fits hr
  have hO : ∀ W, Step [] [] w W → Calls Tryz.prog (P.fn "ReadSetEnd") #[P.ptr, ctxV] W (TellsV P.Is (fun ev => ev) k s1 S W) := fun W hW => P.at_ h hr W hW

  have HO := Lib.hid hO
  have HF := Lib.hid (P.lt h)


  clear hO hfit hr h
  go_enter Tryz.func81, Tryz.ntmps81
  go_wp2_with (fail)
  go_region_held3 (fun _ => True) (trivial)
    (first
      | (go_at_call 53; refine (hc _).mono ?_; rintro e w' ⟨rfl, rfl⟩)
      | (refine (HO.out _ ?_).mono ?_; exact ((((Step.refl _ _).alloc _).alloc _).alloc _).drew; rintro e W1 ⟨ev, S1, rfl, he, hI, hs⟩; have hbx := (hs.block (w.heap.size + 1) (by simp) (fun hm => by have := HF.out _ hm; omega)).trans (heap_alloc_old (heap_alloc_at (by simp) _) _); have hbg := (hs.block (w.heap.size + 1 + 1) (by simp) (fun hm => by have := HF.out _ hm; omega)).trans (heap_alloc_at (by simp) _); have c0 : W1.cell? ⟨w.heap.size + 1, 0, none⟩ = some (.int .i64 0) := (cell_heap hbx _).trans rfl; have c1 : W1.cell? ⟨w.heap.size + 1, 1, none⟩ = some (.int .i64 0) := (cell_heap hbx _).trans rfl; have c2 : W1.cell? ⟨w.heap.size + 1, 2, none⟩ = some (.int .i64 0) := (cell_heap hbx _).trans rfl; have c3 : W1.cell? ⟨w.heap.size + 1, 3, none⟩ = some (.int .i64 0) := (cell_heap hbx _).trans rfl; have c4 : W1.cell? ⟨w.heap.size + 1, 4, none⟩ = some (.int .i64 0) := (cell_heap hbx _).trans rfl; have c5 : W1.cell? ⟨w.heap.size + 1, 5, none⟩ = some (.int .i64 0) := (cell_heap hbx _).trans rfl; have c6 : W1.cell? ⟨w.heap.size + 1, 6, none⟩ = some (.slice none 0 0) := (cell_heap hbx _).trans rfl; have d0 : W1.cell? ⟨w.heap.size + 1 + 1, 0, none⟩ = some (.int .i64 0) := (cell_heap hbg _).trans rfl; have d1 : W1.cell? ⟨w.heap.size + 1 + 1, 1, none⟩ = some (.int .i64 0) := (cell_heap hbg _).trans rfl; have d2 : W1.cell? ⟨w.heap.size + 1 + 1, 2, none⟩ = some (.int .i64 0) := (cell_heap hbg _).trans rfl; have d3 : W1.cell? ⟨w.heap.size + 1 + 1, 3, none⟩ = some (.int .i64 0) := (cell_heap hbg _).trans rfl; have d4 : W1.cell? ⟨w.heap.size + 1 + 1, 4, none⟩ = some (.int .i64 0) := (cell_heap hbg _).trans rfl; have d5 : W1.cell? ⟨w.heap.size + 1 + 1, 5, none⟩ = some (.int .i64 0) := (cell_heap hbg _).trans rfl; have d6 : W1.cell? ⟨w.heap.size + 1 + 1, 6, none⟩ = some (.slice none 0 0) := (cell_heap hbg _).trans rfl; have hfz := frozen_heap hbx; have hfg := frozen_heap hbg; have hbl := lt_heap hbx; have HX := Lib.hid hbx; have HG := Lib.hid hbg; have HE := Lib.hid he; have HI := Lib.hid hI; have HS := Lib.hid hs; clear he hI hs hbx hbg))
  all_goals go_wp2
  all_goals (
    have hx' : ((W1.setCell ⟨w.heap.size + 1 + 1, 1, none⟩ (.int .i64 0)).setCell ⟨w.heap.size + 1 + 1, 2, none⟩ (.int .i64 0)).heap[w.heap.size + 1]? = some (.cells #[.int .i64 0, .int .i64 0, .int .i64 0, .int .i64 0, .int .i64 0, .int .i64 0, .slice none 0 0] 68 (0, 0)) :=
      heap_set_other (heap_set_other HX.out (by show w.heap.size + 1 ≠ w.heap.size + 1 + 1; omega) _) (by show w.heap.size + 1 ≠ w.heap.size + 1 + 1; omega) _
    have hs1 : Step [w.heap.size + 1, w.heap.size + 1 + 1] [w.heap.size + 1, w.heap.size + 1 + 1] W1 ((W1.setCell ⟨w.heap.size + 1 + 1, 1, none⟩ (.int .i64 0)).setCell ⟨w.heap.size + 1 + 1, 2, none⟩ (.int .i64 0)) :=
      ((Step.refl _ W1).setCell (p := ⟨w.heap.size + 1 + 1, 1, none⟩) (.inl (by simp)) _).setCell (p := ⟨w.heap.size + 1 + 1, 2, none⟩) (.inl (by simp)) _
    obtain ⟨W3, e2, h3, hs2⟩ := set7 hx' (.int .i64 0) (.int .i64 0) (.int .i64 0) (.int .i64 0) (.int .i64 0) (.int .i64 0) (.slice none 0 0)
    rw [e2]
    have hs3 := hs1.trans (hs2.more (S1 := [w.heap.size + 1, w.heap.size + 1 + 1]) (T1 := [w.heap.size + 1, w.heap.size + 1 + 1]) (by simp) (fun k hk => .inr (.inl hk)))
    clear e2 hs1 hs2 hx'
    have r0 : W3.cell? ⟨w.heap.size + 1, 0, none⟩ = some (.int .i64 0) := (cell_heap h3 _).trans rfl
    have r1 : W3.cell? ⟨w.heap.size + 1, 1, none⟩ = some (.int .i64 0) := (cell_heap h3 _).trans rfl
    have r2 : W3.cell? ⟨w.heap.size + 1, 2, none⟩ = some (.int .i64 0) := (cell_heap h3 _).trans rfl
    have r3 : W3.cell? ⟨w.heap.size + 1, 3, none⟩ = some (.int .i64 0) := (cell_heap h3 _).trans rfl
    have r4 : W3.cell? ⟨w.heap.size + 1, 4, none⟩ = some (.int .i64 0) := (cell_heap h3 _).trans rfl
    have r5 : W3.cell? ⟨w.heap.size + 1, 5, none⟩ = some (.int .i64 0) := (cell_heap h3 _).trans rfl
    have r6 : W3.cell? ⟨w.heap.size + 1, 6, none⟩ = some (.slice none 0 0) := (cell_heap h3 _).trans rfl
    refine bodyPost_ret (v := .tuple #[gotV {} (.slice none 0 0), ev]) (by simp [results, Tryz.results81, go_sem, *]) rfl ?_
    have hsz : ∀ j, j ∈ S1 → j ∉ [w.heap.size + 1, w.heap.size + 1 + 1] := fun j hj hm => by
      simp only [List.mem_cons, List.not_mem_nil, or_false] at hm
      rcases HS.out.own j hj with h' | h'
      · have := HF.out _ h'; omega
      · simp at h'; omega
    have hI3 := P.step HI.out hs3 hsz
    have hwl := HS.out.size
    simp at hwl
    exact ⟨ev, .slice none 0 0, W3.heap.size, S1, rfl, ⟨0, .inl ⟨rfl, rfl⟩⟩, by have := hs3.size; omega, fun hm => Nat.lt_irrefl _ (P.lt hI3 _ hm), HE.out.step_at hs3 (fun b hb => by
      simp only [List.mem_cons, List.not_mem_nil, or_false] at hb
      rcases hb with rfl | rfl
      · exact ⟨_, _, _, HX.out, by decide⟩
      · exact ⟨_, _, _, HG.out, by decide⟩), hI3, ((((((Step.refl _ _).alloc _).alloc _).alloc _).drew).trans HS.out).fresh hs3 (fun k hk => by simp only [List.mem_cons, List.not_mem_nil, or_false] at hk; omega)⟩)

end Go.Proofs.YtelocgemofghaaaGreatDoor

/-! A list or a set is read by whatever protocol. -/
namespace Go.Proofs.YtelocgemofghaaaGreatDoor

open Go.RowKit Go.Deep

set_option linter.unusedVariables false

set_option linter.unusedSimpArgs false

open Go.Proofs.YtelocgemofghaaaGreatDoorW.PrintWords

/-- An error, of the library or of the thin package, and its kind. -/
def IsErrG (k : Nat) (ev : Value) (w : World) : Prop := IsErr k ev w ∨ (50 ≤ k ∧ k ≤ 54 ∧ ev = .iface 123 (.int .i64 (k : Nat)))

/-- Behind a reading of a value. -/
def GotV (P : PR) (r : Val × Nat × P.σ) (S : List Nat) (w : World) (e : Ending) (w' : World) : Prop :=
  ∃ ev cs S', e = .returned (.tuple #[.agg cs.toArray, ev]) ∧ HasO (fun b => w.heap.size ≤ b ∧ b ∉ S') w' r.1 cs ∧ IsErrG r.2.1 ev w' ∧ P.Is S' r.2.2 w' ∧ Step S S' w w'

/-- Reading a value of a type, so deep. -/
def Gets (P : PR) (gv : Int → P.σ → Option (Val × Nat × P.σ)) (D : Int) : Prop :=
  ∀ (S : List Nat) (s : P.σ) (w : World) (t : Int), P.Is S s w → 0 ≤ t → t < 256 → ∀ r, gv t s = some r → Calls Tryz.prog 41 #[.iface P.ty P.ptr, .int .u8 t, .int .i64 D] w (GotV P r S w)

theorem gotV_end {P : PR} {S S1 B : List Nat} {s1 : P.σ} {w W1 W' : World} (hsw : Step S S1 w W1) (hI : P.Is S1 s1 W1) (hB : ∀ b, b ∈ B → w.heap.size ≤ b ∧ b ∉ S1) (hs3 : Step B B W1 W') : P.Is S1 s1 W' ∧ Step S S1 w W' :=
  ⟨P.step hI hs3 (fun j hj hb => (hB j hb).2 hj), hsw.fresh hs3 (fun b hb => (hB b hb).1)⟩

theorem infoVal : (Tryz.prog.info? 34).map (fun i => (i.zero, i.size, i.bytes)) = some (some (.agg #[.int .i64 0, .int .i64 0, .slice none 0 0, .int .i64 0, .int .i64 0, .slice none 0 0, .slice none 0 0]), 7, 104) := by kernel_rfl

/-- The row that is made so far, behind a reading of one value more and the making of two blocks. -/
theorem RowO.carry {P : PR} {S2 S3 : List Nat} {s3 : P.σ} {wr W3 : World} {n GB base : Nat} {u : Value} {xs : List Val} (h : RowO (fun b => n < b ∧ b ∉ S2 ∧ b ≠ GB) wr base u xs) (hs : Step S2 S3 wr W3) (o1 o2 : Obj) :
    RowO (fun b => n < b ∧ b ∉ S3 ∧ b ≠ GB) ((W3.alloc o1).alloc o2) base u xs ∧ (∀ k, u.ownBlock = some k → k < wr.heap.size) ∧ ∀ k, u.ownBlock = some k → ∃ cells, W3.heap[k]? = some (.cells cells 34 (0, 0)) := by
  have h1 : ∀ k, u.ownBlock = some k → k < wr.heap.size := fun k hk => by
    obtain ⟨_, inner, ho, _⟩ := h
    exact own_lt ho k hk
  have h2 : RowO (fun b => (n < b ∧ b ∉ S3 ∧ b ≠ GB) ∧ b ∉ S2) wr base u xs := h.mono (fun b hb hlt => ⟨⟨hb.1, fun hm => by
    rcases hs.own b hm with h3 | h3
    · exact hb.2.1 h3
    · omega, hb.2.2⟩, hb.2.1⟩)
  have h3 : RowO (fun b => (n < b ∧ b ∉ S3 ∧ b ≠ GB) ∧ b ∉ S2) W3 base u xs := h2.move (fun b hb hlt => hs.block b hlt hb.2) hs.size
  refine ⟨?_, h1, fun k hk => by
    obtain ⟨_, inner, ho, _⟩ := h3
    exact own_typed ho k hk⟩
  have h4 := h3.move (w1 := (W3.alloc o1).alloc o2) (fun b hb hlt => by rw [Below.heap_alloc _ _ _ (by simp; omega), Below.heap_alloc _ _ _ hlt]) (by simp <;> omega)
  exact h4.mono (fun b hb _ => hb.1)

/-- What was read now lies apart from that row. -/
theorem HasO.apart {S3 : List Nat} {wr W3 : World} {n GB : Nat} {u : Value} {v : Val} {cs : List Value} (h : HasO (fun b => wr.heap.size ≤ b ∧ b ∉ S3) W3 v cs) (hn : n < wr.heap.size) (hGB : GB < wr.heap.size) (hu : ∀ k, u.ownBlock = some k → k < wr.heap.size) (o1 o2 : Obj) :
    HasO (fun b => (n < b ∧ b ∉ S3 ∧ b ≠ GB) ∧ some b ≠ u.ownBlock) ((W3.alloc o1).alloc o2) v cs := by
  have h1 := h.move (w1 := (W3.alloc o1).alloc o2) (fun b hb hlt => by rw [Below.heap_alloc _ _ _ (by simp; omega), Below.heap_alloc _ _ _ hlt]) (by simp <;> omega)
  exact h1.mono (fun b hb _ => ⟨⟨by omega, hb.2, by omega⟩, fun e => by have := hu b e.symm; omega⟩)

/-- Behind an append and a store. -/
theorem app_step {W3 W4 : World} {o1 o2 : Obj} {own : Option Nat} (hg : ((W3.alloc o1).alloc o2).grownBy W4 own) (b i : Nat) (v : Value) : Step (b :: own.toList) (b :: own.toList) W3 (W4.setCell ⟨b, i, none⟩ v) := by
  have h0 : Step (b :: own.toList) (b :: own.toList) W3 ((W3.alloc o1).alloc o2) := ((Step.refl _ W3).alloc _).alloc _
  refine ⟨hg.os.trans h0.os, hg.tape.trans h0.tape, hg.output.trans h0.output, ?_, fun k hk hn => ?_, fun k hk => .inl hk⟩
  · have := Nat.le_trans h0.size hg.size
    simpa [World.setCell] using this
  · simp only [List.mem_cons, Option.mem_toList, not_or] at hn
    rw [Below.heap_setCell _ _ _ _ hn.1, hg.block k (Nat.lt_of_lt_of_le hk h0.size) (fun e => hn.2 e.symm)]
    exact h0.block k hk (by simp only [List.mem_cons, Option.mem_toList, not_or]; exact hn)

theorem IsErrG.step_at {k : Nat} {ev : Value} {w w1 : World} {S T : List Nat} (h : IsErrG k ev w) (hs : Step S T w w1) (hS : ∀ b, b ∈ S → ∃ cs t f, w.heap[b]? = some (.cells cs t f) ∧ t ≠ 224) : IsErrG k ev w1 := by
  rcases h with h | h
  · exact .inl (h.step_at hs hS)
  · exact .inr h

set_option maxRecDepth 100000 in
set_option maxHeartbeats 2000000 in
theorem getLst_any (P : PR) (gv : Int → P.σ → Option (Val × Nat × P.σ)) (D : Int) (hD : 1 ≤ D ∧ D < 9223372036854775808) (hG : Gets P gv (D - 1)) {S : List Nat} {s : P.σ} {w : World} (h : P.Is S s w) {r : Val × Nat × P.σ} (hr : getList P.run gv 15 .lstB .lstE s = some r) :
    Calls Tryz.prog 63 #[.iface P.ty P.ptr, .agg #[.int .i64 15, .int .i64 0, .slice none 0 0, .int .i64 0, .int .i64 0, .slice none 0 0, .slice none 0 0], .int .i64 9, .int .i64 D] w (GotV P r S w) := by
  unfold getList at hr
  rw [Option.bind_eq_some_iff] at hr
  obtain ⟨⟨g, k, s1⟩, hg, hr⟩ := hr
  dsimp only at hr
  have hfit := P.fits hg
  have HO := Lib.hid (fun W (hW : Step [] [] w W) => begun_lst P (.int .i64 0) (.int .i64 0) (.int .i64 0) (.int .i64 0) (.int .i64 0) (.slice none 0 0) (P.step h hW (by simp)) hg)
  have HR := Lib.hid hr
  have HF := Lib.hid (P.lt h)
  have HG := Lib.hid hG
  clear hr hg hG
  go_enter Tryz.func63, Tryz.ntmps63
  go_wp2_with (fail)
  refine (HO.out _ (((Step.refl [] w).alloc _).alloc _)).mono ?_
  rintro e W1 ⟨ev, vb, kb, S1, rfl, hB, hkb, hkS, he, hI, hs⟩
  have hbv := (hs.block w.heap.size (by simp <;> omega) (fun hm => by have := HF.out _ hm; omega)).trans (heap_alloc_old (heap_alloc_new w _) _)
  have hbr := (hs.block (w.heap.size + 1) (by simp) (fun hm => by have := HF.out _ hm; omega)).trans (heap_alloc_at (by simp) _)
  have c0 : W1.cell? ⟨w.heap.size, 0, none⟩ = some (.int .i64 15) := (cell_heap hbv _).trans rfl
  have c1 : W1.cell? ⟨w.heap.size, 1, none⟩ = some (.int .i64 0) := (cell_heap hbv _).trans rfl
  have c2 : W1.cell? ⟨w.heap.size, 2, none⟩ = some (.slice none 0 0) := (cell_heap hbv _).trans rfl
  have c3 : W1.cell? ⟨w.heap.size, 3, none⟩ = some (.int .i64 0) := (cell_heap hbv _).trans rfl
  have c4 : W1.cell? ⟨w.heap.size, 4, none⟩ = some (.int .i64 0) := (cell_heap hbv _).trans rfl
  have c5 : W1.cell? ⟨w.heap.size, 5, none⟩ = some (.slice none 0 0) := (cell_heap hbv _).trans rfl
  have c6 : W1.cell? ⟨w.heap.size, 6, none⟩ = some (.slice none 0 0) := (cell_heap hbv _).trans rfl
  have d0 : W1.cell? ⟨w.heap.size + 1, 0, none⟩ = some (.int .i64 0) := (cell_heap hbr _).trans rfl
  have d1 : W1.cell? ⟨w.heap.size + 1, 1, none⟩ = some (.int .i64 0) := (cell_heap hbr _).trans rfl
  have d2 : W1.cell? ⟨w.heap.size + 1, 2, none⟩ = some (.slice none 0 0) := (cell_heap hbr _).trans rfl
  have d3 : W1.cell? ⟨w.heap.size + 1, 3, none⟩ = some (.int .i64 0) := (cell_heap hbr _).trans rfl
  have d4 : W1.cell? ⟨w.heap.size + 1, 4, none⟩ = some (.int .i64 0) := (cell_heap hbr _).trans rfl
  have d5 : W1.cell? ⟨w.heap.size + 1, 5, none⟩ = some (.slice none 0 0) := (cell_heap hbr _).trans rfl
  have d6 : W1.cell? ⟨w.heap.size + 1, 6, none⟩ = some (.slice none 0 0) := (cell_heap hbr _).trans rfl
  have hfz := frozen_heap hbv
  have hfr := frozen_heap hbr
  have hlv := lt_heap hbv
  have hlr := lt_heap hbr
  have HBV := Lib.hid hbv
  have HBR := Lib.hid hbr
  have HI := Lib.hid hI
  have HSW := Lib.hid ((((Step.refl S w).alloc _).alloc _).trans hs)
  have HOB := Lib.hid (show ∀ b, b ∈ [w.heap.size, w.heap.size + 1] → w.heap.size ≤ b ∧ b ∉ S1 from fun b hb => by
    simp only [List.mem_cons, List.not_mem_nil, or_false] at hb
    refine ⟨by omega, fun hm => ?_⟩
    rcases hs.own b hm with h1 | h1
    · have := HF.out _ h1; omega
    · simp at h1; omega)
  have HET := Lib.hid (show ∀ b, b ∈ [w.heap.size, w.heap.size + 1] → ∃ cs t f, W1.heap[b]? = some (.cells cs t f) ∧ t ≠ 224 from fun b hb => by
    simp only [List.mem_cons, List.not_mem_nil, or_false] at hb
    rcases hb with rfl | rfl
    · exact ⟨_, _, _, HBV.out, by decide⟩
    · exact ⟨_, _, _, HBR.out, by decide⟩)
  have HE := Lib.hid he
  obtain ⟨ao, ac, rfl, _, _⟩ := hB.ints
  clear hbv hbr hI hs hB hkb hkS
  rcases he with ⟨rfl, rfl⟩ | hne
  case inr =>
    obtain ⟨bb, tt, er, ms, hk1, hk2, rfl, hbb⟩ := hne
    go_wp2_with (fail)
    obtain ⟨W3, e2, h3, hs3⟩ := set7 (HBR.out) (.int .i64 15) (.int .i64 0) (.slice none 0 0) (.int .i64 0) (.int .i64 0) (.slice none 0 0) (.slice none 0 0)
    rw [e2]
    have h4 : (W3.alloc (.cells #[.int .i64 0, .int .i64 g.t, .int .i64 0, .int .i64 g.size, .int .i64 0, .int .i64 0, .slice ao (ints []).length ac] 68)).heap[w.heap.size + 1]? = some (.cells #[.int .i64 15, .int .i64 0, .slice none 0 0, .int .i64 0, .int .i64 0, .slice none 0 0, .slice none 0 0] 34 (0, 0)) := heap_alloc_old h3 _
    have r0 : (W3.alloc (.cells #[.int .i64 0, .int .i64 g.t, .int .i64 0, .int .i64 g.size, .int .i64 0, .int .i64 0, .slice ao (ints []).length ac] 68)).cell? ⟨w.heap.size + 1, 0, none⟩ = some (.int .i64 15) := (cell_heap h4 _).trans rfl
    have r1 : (W3.alloc (.cells #[.int .i64 0, .int .i64 g.t, .int .i64 0, .int .i64 g.size, .int .i64 0, .int .i64 0, .slice ao (ints []).length ac] 68)).cell? ⟨w.heap.size + 1, 1, none⟩ = some (.int .i64 0) := (cell_heap h4 _).trans rfl
    have r2 : (W3.alloc (.cells #[.int .i64 0, .int .i64 g.t, .int .i64 0, .int .i64 g.size, .int .i64 0, .int .i64 0, .slice ao (ints []).length ac] 68)).cell? ⟨w.heap.size + 1, 2, none⟩ = some (.slice none 0 0) := (cell_heap h4 _).trans rfl
    have r3 : (W3.alloc (.cells #[.int .i64 0, .int .i64 g.t, .int .i64 0, .int .i64 g.size, .int .i64 0, .int .i64 0, .slice ao (ints []).length ac] 68)).cell? ⟨w.heap.size + 1, 3, none⟩ = some (.int .i64 0) := (cell_heap h4 _).trans rfl
    have r4 : (W3.alloc (.cells #[.int .i64 0, .int .i64 g.t, .int .i64 0, .int .i64 g.size, .int .i64 0, .int .i64 0, .slice ao (ints []).length ac] 68)).cell? ⟨w.heap.size + 1, 4, none⟩ = some (.int .i64 0) := (cell_heap h4 _).trans rfl
    have r5 : (W3.alloc (.cells #[.int .i64 0, .int .i64 g.t, .int .i64 0, .int .i64 g.size, .int .i64 0, .int .i64 0, .slice ao (ints []).length ac] 68)).cell? ⟨w.heap.size + 1, 5, none⟩ = some (.slice none 0 0) := (cell_heap h4 _).trans rfl
    have r6 : (W3.alloc (.cells #[.int .i64 0, .int .i64 g.t, .int .i64 0, .int .i64 g.size, .int .i64 0, .int .i64 0, .slice ao (ints []).length ac] 68)).cell? ⟨w.heap.size + 1, 6, none⟩ = some (.slice none 0 0) := (cell_heap h4 _).trans rfl
    refine bodyPost_ret (v := .tuple #[.agg #[.int .i64 15, .int .i64 0, .slice none 0 0, .int .i64 0, .int .i64 0, .slice none 0 0, .slice none 0 0], .iface 221 (.pointer (some ⟨bb, 0, none⟩))]) (by simp [results, Tryz.results63, go_sem, *]) rfl ?_
    have hs13 : Step [w.heap.size, w.heap.size + 1] [w.heap.size, w.heap.size + 1] W1 (W3.alloc (.cells #[.int .i64 0, .int .i64 g.t, .int .i64 0, .int .i64 g.size, .int .i64 0, .int .i64 0, .slice ao (ints []).length ac] 68)) := ((hs3.more (S1 := [w.heap.size, w.heap.size + 1]) (T1 := [w.heap.size, w.heap.size + 1]) (by simp) (fun k hk => .inr (.inl hk)))).alloc _
    obtain ⟨hI4, hs4⟩ := gotV_end HSW.out HI.out HOB.out hs13
    have hrr := HR.out
    rw [if_neg (by omega)] at hrr
    injection hrr with hrr
    subst hrr
    exact ⟨_, [.int .i64 15, .int .i64 0, .slice none 0 0, .int .i64 0, .int .i64 0, .slice none 0 0, .slice none 0 0], _, rfl, (RowO.nil _ _ 0).val 15 0 0, .inl (HE.out.step_at hs13 HET.out), hI4, hs4⟩
  case inl =>
    clear HE
    have hgt := hfit.1 (by decide)
    have hgs := hfit.2.2.2.2.1 rfl
    have HR := Lib.hid ((if_pos rfl).symm.trans HR.out)
    by_cases hbig : 100000 < g.size
    case pos =>
      go_wp2_with (fail)
      obtain ⟨W3, e2, h3, hs3⟩ := set7 (heap_set_other (p := ⟨w.heap.size, 4, none⟩) HBR.out (by show w.heap.size + 1 ≠ w.heap.size; omega) (.int .i64 g.t)) (.int .i64 15) (.int .i64 0) (.slice none 0 0) (.int .i64 0) (.int .i64 g.t) (.slice none 0 0) (.slice none 0 0)
      rw [e2]
      have h4 : (W3.alloc (.cells #[.int .i64 0, .int .i64 g.t, .int .i64 0, .int .i64 g.size, .int .i64 0, .int .i64 0, .slice ao (ints []).length ac] 68)).heap[w.heap.size + 1]? = some (.cells #[.int .i64 15, .int .i64 0, .slice none 0 0, .int .i64 0, .int .i64 g.t, .slice none 0 0, .slice none 0 0] 34 (0, 0)) := heap_alloc_old h3 _
      have r0 : (W3.alloc (.cells #[.int .i64 0, .int .i64 g.t, .int .i64 0, .int .i64 g.size, .int .i64 0, .int .i64 0, .slice ao (ints []).length ac] 68)).cell? ⟨w.heap.size + 1, 0, none⟩ = some (.int .i64 15) := (cell_heap h4 _).trans rfl
      have r1 : (W3.alloc (.cells #[.int .i64 0, .int .i64 g.t, .int .i64 0, .int .i64 g.size, .int .i64 0, .int .i64 0, .slice ao (ints []).length ac] 68)).cell? ⟨w.heap.size + 1, 1, none⟩ = some (.int .i64 0) := (cell_heap h4 _).trans rfl
      have r2 : (W3.alloc (.cells #[.int .i64 0, .int .i64 g.t, .int .i64 0, .int .i64 g.size, .int .i64 0, .int .i64 0, .slice ao (ints []).length ac] 68)).cell? ⟨w.heap.size + 1, 2, none⟩ = some (.slice none 0 0) := (cell_heap h4 _).trans rfl
      have r3 : (W3.alloc (.cells #[.int .i64 0, .int .i64 g.t, .int .i64 0, .int .i64 g.size, .int .i64 0, .int .i64 0, .slice ao (ints []).length ac] 68)).cell? ⟨w.heap.size + 1, 3, none⟩ = some (.int .i64 0) := (cell_heap h4 _).trans rfl
      have r4 : (W3.alloc (.cells #[.int .i64 0, .int .i64 g.t, .int .i64 0, .int .i64 g.size, .int .i64 0, .int .i64 0, .slice ao (ints []).length ac] 68)).cell? ⟨w.heap.size + 1, 4, none⟩ = some (.int .i64 g.t) := (cell_heap h4 _).trans rfl
      have r5 : (W3.alloc (.cells #[.int .i64 0, .int .i64 g.t, .int .i64 0, .int .i64 g.size, .int .i64 0, .int .i64 0, .slice ao (ints []).length ac] 68)).cell? ⟨w.heap.size + 1, 5, none⟩ = some (.slice none 0 0) := (cell_heap h4 _).trans rfl
      have r6 : (W3.alloc (.cells #[.int .i64 0, .int .i64 g.t, .int .i64 0, .int .i64 g.size, .int .i64 0, .int .i64 0, .slice ao (ints []).length ac] 68)).cell? ⟨w.heap.size + 1, 6, none⟩ = some (.slice none 0 0) := (cell_heap h4 _).trans rfl
      refine bodyPost_ret (v := .tuple #[.agg #[.int .i64 15, .int .i64 0, .slice none 0 0, .int .i64 0, .int .i64 g.t, .slice none 0 0, .slice none 0 0], .iface 123 (.int .i64 52)]) (by simp [results, Tryz.results63, go_sem, *]) rfl ?_
      have hs13 : Step [w.heap.size, w.heap.size + 1] [w.heap.size, w.heap.size + 1] W1 (W3.alloc (.cells #[.int .i64 0, .int .i64 g.t, .int .i64 0, .int .i64 g.size, .int .i64 0, .int .i64 0, .slice ao (ints []).length ac] 68)) := (((Step.refl [w.heap.size, w.heap.size + 1] W1).setCell (p := ⟨w.heap.size, 4, none⟩) (.inl (by simp)) _).trans (hs3.more (S1 := [w.heap.size, w.heap.size + 1]) (T1 := [w.heap.size, w.heap.size + 1]) (by simp) (fun k hk => .inr (.inl hk)))).alloc _
      obtain ⟨hI4, hs4⟩ := gotV_end HSW.out HI.out HOB.out hs13
      have hrr := HR.out
      rw [if_pos hbig] at hrr
      injection hrr with hrr
      subst hrr
      exact ⟨_, [.int .i64 15, .int .i64 0, .slice none 0 0, .int .i64 0, .int .i64 g.t, .slice none 0 0, .slice none 0 0], _, rfl, (RowO.nil _ _ 0).val 15 0 g.t, .inr ⟨Nat.le_of_ble_eq_true rfl, Nat.le_of_ble_eq_true rfl, rfl⟩, hI4, hs4⟩
    case neg =>
      have HR := Lib.hid ((if_neg hbig).symm.trans HR.out)
      obtain ⟨N, hN⟩ : ∃ N : Nat, g.size = N := ⟨g.size.toNat, by omega⟩
      have hN2 : N ≤ 100000 := by omega
      have hR0 := HR.out
      rw [hN, Int.toNat_natCast, Option.bind_eq_some_iff] at hR0
      obtain ⟨R, hR1, hR2⟩ := hR0
      have HR1 := Lib.hid hR1
      have HR2 := Lib.hid hR2
      clear hR1 hR2 HR
      go_wp2_with (fail)
      obtain ⟨WL, hWL⟩ : ∃ WL, WL = (W1.setCell ⟨w.heap.size, 4, none⟩ (.int .i64 g.t)).alloc (.cells #[.int .i64 0, .int .i64 g.t, .int .i64 0, .int .i64 (N : Nat), .int .i64 0, .int .i64 0, .slice ao (ints []).length ac] 68) := ⟨_, rfl⟩
      have hv5 : WL.heap[w.heap.size]? = some (.cells #[.int .i64 15, .int .i64 0, .slice none 0 0, .int .i64 0, .int .i64 g.t, .slice none 0 0, .slice none 0 0] 34 (0, 0)) := by rw [hWL]; exact heap_alloc_old ((heap_set_same (o := 4) HBV.out _).trans rfl) _
      have hr5 : WL.heap[w.heap.size + 1]? = some (.cells #[.int .i64 0, .int .i64 0, .slice none 0 0, .int .i64 0, .int .i64 0, .slice none 0 0, .slice none 0 0] 34 (0, 0)) := by rw [hWL]; exact heap_alloc_old (heap_set_other (p := ⟨w.heap.size, 4, none⟩) HBR.out (by show w.heap.size + 1 ≠ w.heap.size; omega) _) _
      have hg5 : WL.heap[W1.heap.size]? = some (.cells #[.int .i64 0, .int .i64 g.t, .int .i64 0, .int .i64 (N : Nat), .int .i64 0, .int .i64 0, .slice ao (ints []).length ac] 68 (0, 0)) := by rw [hWL]; exact heap_alloc_at (by simp) _
      have hst5 : Step [w.heap.size, w.heap.size + 1] [w.heap.size, w.heap.size + 1] W1 WL := by rw [hWL]; exact ((Step.refl _ W1).setCell (p := ⟨w.heap.size, 4, none⟩) (.inl (by simp)) _).alloc _
      obtain ⟨hI5, hs5⟩ := gotV_end HSW.out HI.out HOB.out hst5
      have HI5 := Lib.hid hI5
      have HS5 := Lib.hid hs5
      have HV5 := Lib.hid hv5
      have HRB5 := Lib.hid hr5
      have HG5 := Lib.hid hg5
      have HNS := Lib.hid (show w.heap.size ∉ S1 ∧ w.heap.size + 1 ∉ S1 ∧ W1.heap.size ∉ S1 from ⟨(HOB.out _ (by simp)).2, (HOB.out _ (by simp)).2, fun hm => Nat.lt_irrefl _ (P.lt HI.out _ hm)⟩)
      rw [← hWL]
      clear hWL hv5 hr5 hg5 hst5 hI5 hs5 c0 c1 c2 c3 c4 c5 c6 d0 d1 d2 d3 d4 d5 d6 hfz hfr
      have hgt2 : g.t % 256 = g.t := by omega
      go_loopw [35] (fun i wr => ∃ (j : Nat) (S2 : List Nat) (s2 : P.σ) (xs : List Val) (u : Value), i = .int .i64 (j : Nat) ∧ j ≤ N ∧ xs.length = j ∧ Hid (getL gv (List.replicate (N - j) g.t) xs s2 = some R) ∧ Hid (P.Is S2 s2 wr) ∧ Hid (Step S S2 w wr) ∧ Hid (RowO (fun b => w.heap.size + 1 < b ∧ b ∉ S2 ∧ b ≠ W1.heap.size) wr w.heap.size u xs) ∧ Hid (wr.heap[w.heap.size]? = some (.cells #[.int .i64 15, .int .i64 0, .slice none 0 0, .int .i64 0, .int .i64 g.t, .slice none 0 0, u] 34 (0, 0))) ∧ Hid (wr.heap[w.heap.size + 1]? = some (.cells #[.int .i64 0, .int .i64 0, .slice none 0 0, .int .i64 0, .int .i64 0, .slice none 0 0, .slice none 0 0] 34 (0, 0))) ∧ Hid (wr.heap[W1.heap.size]? = some (.cells #[.int .i64 0, .int .i64 g.t, .int .i64 0, .int .i64 (N : Nat), .int .i64 0, .int .i64 0, .slice ao (ints []).length ac] 68 (0, 0))) ∧ Hid (w.heap.size ∉ S2 ∧ w.heap.size + 1 ∉ S2 ∧ W1.heap.size ∉ S2)) (fun i _ => N - (intOf i).toNat)
      case atStart => exact ⟨0, S1, s1, [], .slice none 0 0, rfl, by omega, rfl, HR1, HI5, HS5, Lib.hid (RowO.nil _ _ _), HV5, HRB5, HG5, HNS⟩
      case round =>
        obtain ⟨j, S2, s2, xs, u, rfl, hj, rfl, hrun, HI2, HS2, HRO, HVB, HRB, HGB, HNS2⟩ := hrel
        by_cases hlt : xs.length < N
        case pos =>
          have hq := hrun.out
          rw [show N - xs.length = (N - (xs.length + 1)) + 1 by omega, List.replicate_succ, getL, Option.bind_eq_some_iff] at hq
          obtain ⟨q, hq1, hq2⟩ := hq
          have HQ2 := Lib.hid hq2
          have HGC := Lib.hid (fun W (hW : Step [] [] wr W) => HG.out S2 s2 W g.t (P.step HI2.out hW (by simp)) hgt.1 hgt.2 q hq1)
          obtain ⟨ui, uc, rfl⟩ : ∃ ui uc, u = .slice ui xs.length uc := by
            obtain ⟨A, c, h1, _⟩ := HRO.out.reads
            exact ⟨A, c, h1⟩
          clear hq1 hq2
          have c0 : wr.cell? ⟨w.heap.size, 0, none⟩ = some (.int .i64 15) := (cell_heap HVB.out _).trans rfl
          have c1 : wr.cell? ⟨w.heap.size, 1, none⟩ = some (.int .i64 0) := (cell_heap HVB.out _).trans rfl
          have c2 : wr.cell? ⟨w.heap.size, 2, none⟩ = some (.slice none 0 0) := (cell_heap HVB.out _).trans rfl
          have c3 : wr.cell? ⟨w.heap.size, 3, none⟩ = some (.int .i64 0) := (cell_heap HVB.out _).trans rfl
          have c4 : wr.cell? ⟨w.heap.size, 4, none⟩ = some (.int .i64 g.t) := (cell_heap HVB.out _).trans rfl
          have c5 : wr.cell? ⟨w.heap.size, 5, none⟩ = some (.slice none 0 0) := (cell_heap HVB.out _).trans rfl
          have c6 : wr.cell? ⟨w.heap.size, 6, none⟩ = some (.slice ui xs.length uc) := (cell_heap HVB.out _).trans rfl
          have g1 : wr.cell? ⟨W1.heap.size, 1, none⟩ = some (.int .i64 g.t) := (cell_heap HGB.out _).trans rfl
          go_wp2_with (fail)
          refine (typ_of _ _).mono ?_
          rintro e w' ⟨rfl, rfl⟩
          rw [hgt2]
          go_wp2_with (fail)
          refine (HGC.out wr (Step.refl [] wr)).mono ?_
          rintro e W3 ⟨ev3, cs3, S3, rfl, hO3, hE3, hI3, hs3⟩
          obtain ⟨A2, a2, A5, a5, A6, a6, hcs3, -⟩ := kVal_open hO3.now
          have hv3 := (hs3.block _ (lt_heap HVB.out) HNS2.out.1).trans HVB.out
          have hr3 := (hs3.block _ (lt_heap HRB.out) HNS2.out.2.1).trans HRB.out
          have hg3 := (hs3.block _ (lt_heap HGB.out) HNS2.out.2.2).trans HGB.out
          subst hcs3
          clear c0 c1 c2 c3 c4 c5 c6 g1
          have c0 : W3.cell? ⟨w.heap.size, 0, none⟩ = some (.int .i64 15) := (cell_heap hv3 _).trans rfl
          have c1 : W3.cell? ⟨w.heap.size, 1, none⟩ = some (.int .i64 0) := (cell_heap hv3 _).trans rfl
          have c2 : W3.cell? ⟨w.heap.size, 2, none⟩ = some (.slice none 0 0) := (cell_heap hv3 _).trans rfl
          have c3 : W3.cell? ⟨w.heap.size, 3, none⟩ = some (.int .i64 0) := (cell_heap hv3 _).trans rfl
          have c4 : W3.cell? ⟨w.heap.size, 4, none⟩ = some (.int .i64 g.t) := (cell_heap hv3 _).trans rfl
          have c5 : W3.cell? ⟨w.heap.size, 5, none⟩ = some (.slice none 0 0) := (cell_heap hv3 _).trans rfl
          have c6 : W3.cell? ⟨w.heap.size, 6, none⟩ = some (.slice ui xs.length uc) := (cell_heap hv3 _).trans rfl
          have hfz := frozen_heap hv3
          have HV3 := Lib.hid hv3
          have HR3 := Lib.hid hr3
          have HG3 := Lib.hid hg3
          have HO3 := Lib.hid hO3
          have HE3 := Lib.hid hE3
          have HI3 := Lib.hid hI3
          have HS3 := Lib.hid hs3
          have hlv3 := lt_heap hv3
          have hlr3 := lt_heap HRB.out
          have hlg3 := lt_heap HGB.out
          have hsz3 := hs3.size
          obtain ⟨hrow, hub, hot⟩ := RowO.carry (P := P) (s3 := q.2.2) HRO.out hs3 (.cells #[.int .i64 q.1.f0, .int .i64 q.1.f1, .slice A2 q.1.f2.length a2, .int .i64 q.1.f3, .int .i64 q.1.f4, .slice A5 q.1.f5.length a5, .slice A6 q.1.f6.length a6] 34) (.cells #[.int .i64 q.1.f0, .int .i64 q.1.f1, .slice A2 q.1.f2.length a2, .int .i64 q.1.f3, .int .i64 q.1.f4, .slice A5 q.1.f5.length a5, .slice A6 q.1.f6.length a6] 34)
          have hxa := HasO.apart (n := w.heap.size + 1) (GB := W1.heap.size) (u := .slice ui xs.length uc) hO3 hlr3 hlg3 hub (.cells #[.int .i64 q.1.f0, .int .i64 q.1.f1, .slice A2 q.1.f2.length a2, .int .i64 q.1.f3, .int .i64 q.1.f4, .slice A5 q.1.f5.length a5, .slice A6 q.1.f6.length a6] 34) (.cells #[.int .i64 q.1.f0, .int .i64 q.1.f1, .slice A2 q.1.f2.length a2, .int .i64 q.1.f3, .int .i64 q.1.f4, .slice A5 q.1.f5.length a5, .slice A6 q.1.f6.length a6] 34)
          obtain ⟨hrok, inner, hrown, hreps⟩ := hrow
          have HROK := Lib.hid hrok
          have HOT := Lib.hid hot
          have HROWN := Lib.hid hrown
          have HREPS := Lib.hid hreps
          have HXA := Lib.hid hxa
          obtain ⟨i0, hi, hz0, hz1, hz2⟩ := info_parts infoVal
          rcases hE3 with (⟨h0, rfl⟩ | ⟨bb, tt, er, ms, hk1, hk2, rfl, hbb⟩) | ⟨hk1, hk2, rfl⟩
          all_goals clear hv3 hr3 hg3 hO3 hI3 hs3 hrok hrown hreps hxa hub hot
          · go_wp2_with (at_builtin; (refine wpList_append_lies _ rfl _ _ _ rfl w.heap.size 34 i0 (.agg #[.int .i64 0, .int .i64 0, .slice none 0 0, .int .i64 0, .int .i64 0, .slice none 0 0, .slice none 0 0]) 7 104 Tryz.underlying32 hi hz0 hz1 hz2 rfl (by omega) _ _ _ rfl HROWN.out ⟨W3.heap.size + 1, 0, none⟩ 1 1 _ rfl ?_ (World.news_of_block (heap_alloc_at (by simp) _)) ?_ (by omega) ?_ ?_ ?_ _ rfl ?_); rfl; (intro x hx; simp at hx; rcases hx with rfl | rfl | rfl | rfl | rfl | rfl | rfl <;> rfl); (unfold maxLen; omega); omega; (simp <;> omega); intro g1 cap1 W4 hown hgrow hat hlt4; have hv4 := (hgrow.block w.heap.size (by simp <;> omega) (fun e => by have := (HROK.out _ e.symm).1; omega)).trans (heap_alloc_old (heap_alloc_old HV3.out _) _); have hr4 := (hgrow.block (w.heap.size + 1) (by simp <;> omega) (fun e => by have := (HROK.out _ e.symm).1; omega)).trans (heap_alloc_old (heap_alloc_old HR3.out _) _); have hg4 := (hgrow.block W1.heap.size (by simp <;> omega) (fun e => (HROK.out _ e.symm).2.2 rfl)).trans (heap_alloc_old (heap_alloc_old HG3.out _) _); have f0 : W4.cell? ⟨w.heap.size, 0, none⟩ = some (.int .i64 15) := (cell_heap hv4 _).trans rfl; have f1 : W4.cell? ⟨w.heap.size, 1, none⟩ = some (.int .i64 0) := (cell_heap hv4 _).trans rfl; have f2 : W4.cell? ⟨w.heap.size, 2, none⟩ = some (.slice none 0 0) := (cell_heap hv4 _).trans rfl; have f3 : W4.cell? ⟨w.heap.size, 3, none⟩ = some (.int .i64 0) := (cell_heap hv4 _).trans rfl; have f4 : W4.cell? ⟨w.heap.size, 4, none⟩ = some (.int .i64 g.t) := (cell_heap hv4 _).trans rfl; have f5 : W4.cell? ⟨w.heap.size, 5, none⟩ = some (.slice none 0 0) := (cell_heap hv4 _).trans rfl; have f6 : W4.cell? ⟨w.heap.size, 6, none⟩ = some (.slice ui xs.length uc) := (cell_heap hv4 _).trans rfl; have e0 : W4.cell? ⟨w.heap.size + 1, 0, none⟩ = some (.int .i64 0) := (cell_heap hr4 _).trans rfl; have e1 : W4.cell? ⟨w.heap.size + 1, 1, none⟩ = some (.int .i64 0) := (cell_heap hr4 _).trans rfl; have e2 : W4.cell? ⟨w.heap.size + 1, 2, none⟩ = some (.slice none 0 0) := (cell_heap hr4 _).trans rfl; have e3 : W4.cell? ⟨w.heap.size + 1, 3, none⟩ = some (.int .i64 0) := (cell_heap hr4 _).trans rfl; have e4 : W4.cell? ⟨w.heap.size + 1, 4, none⟩ = some (.int .i64 0) := (cell_heap hr4 _).trans rfl; have e5 : W4.cell? ⟨w.heap.size + 1, 5, none⟩ = some (.slice none 0 0) := (cell_heap hr4 _).trans rfl; have e6 : W4.cell? ⟨w.heap.size + 1, 6, none⟩ = some (.slice none 0 0) := (cell_heap hr4 _).trans rfl; have hfz4 := frozen_heap hv4; have hfr4 := frozen_heap hr4; have hpu := RowO.push HROK.out HREPS.out HXA.out ⟨by simp <;> omega, fun hm => by (have := P.lt HI3.out _ hm; simp at this; omega), by simp <;> omega⟩ hown hgrow hat; have hg4s := hgrow.size; have HPU := Lib.hid hpu; have HV4 := Lib.hid hv4; have HR4 := Lib.hid hr4; have HG4 := Lib.hid hg4; have HGR := Lib.hid hgrow; clear hv4 hr4 hg4 hpu hown hgrow hat)
            go_wp2
            have HS35 := Lib.hid (app_step HGR.out w.heap.size 6 (.slice (some ⟨g1, 0, none⟩) (xs.length + 1) cap1))
            have hnS3 : w.heap.size ∉ S3 ∧ w.heap.size + 1 ∉ S3 ∧ W1.heap.size ∉ S3 := by
              refine ⟨fun hm => ?_, fun hm => ?_, fun hm => ?_⟩
              · rcases HS3.out.own _ hm with h' | h'
                · exact HNS2.out.1 h'
                · omega
              · rcases HS3.out.own _ hm with h' | h'
                · exact HNS2.out.2.1 h'
                · omega
              · rcases HS3.out.own _ hm with h' | h'
                · exact HNS2.out.2.2 h'
                · omega
            have hOB : ∀ b, b ∈ w.heap.size :: (Value.slice ui xs.length uc).ownBlock.toList → w.heap.size ≤ b ∧ b ∉ S3 := fun b hb => by
              simp only [List.mem_cons, Option.mem_toList] at hb
              rcases hb with rfl | hb
              · exact ⟨Nat.le_refl _, hnS3.1⟩
              · have h' := HROK.out b hb
                exact ⟨by omega, h'.2.1⟩
            have hv5 : (W4.setCell ⟨w.heap.size, 6, none⟩ (.slice (some ⟨g1, 0, none⟩) (xs.length + 1) cap1)).heap[w.heap.size]? = some (.cells #[.int .i64 15, .int .i64 0, .slice none 0 0, .int .i64 0, .int .i64 g.t, .slice none 0 0, .slice (some ⟨g1, 0, none⟩) (xs.length + 1) cap1] 34 (0, 0)) := (heap_set_same (o := 6) HV4.out _).trans rfl
            have hr5 : (W4.setCell ⟨w.heap.size, 6, none⟩ (.slice (some ⟨g1, 0, none⟩) (xs.length + 1) cap1)).heap[w.heap.size + 1]? = some (.cells #[.int .i64 0, .int .i64 0, .slice none 0 0, .int .i64 0, .int .i64 0, .slice none 0 0, .slice none 0 0] 34 (0, 0)) := heap_set_other (p := ⟨w.heap.size, 6, none⟩) HR4.out (by show w.heap.size + 1 ≠ w.heap.size; omega) _
            have hg5 := heap_set_other (p := ⟨w.heap.size, 6, none⟩) HG4.out (by show W1.heap.size ≠ w.heap.size; omega) (.slice (some ⟨g1, 0, none⟩) (xs.length + 1) cap1)
            obtain ⟨hI5, hs5⟩ := gotV_end (HS2.out.trans HS3.out) HI3.out hOB HS35.out
            have hnx : getL gv (List.replicate (N - (xs.length + 1)) g.t) (xs ++ [q.1]) q.2.2 = some R := by
              have h' := HQ2.out
              rw [if_pos h0] at h'
              exact h'
            have hrow5 := HPU.out.move (w1 := W4.setCell ⟨w.heap.size, 6, none⟩ (.slice (some ⟨g1, 0, none⟩) (xs.length + 1) cap1)) (fun b hb _ => Below.heap_setCell _ _ _ _ (by show b ≠ w.heap.size; omega)) (by simp [World.setCell])
            exact ⟨⟨xs.length + 1, S3, q.2.2, xs ++ [q.1], _, by go_num, by omega, by simp, Lib.hid hnx, Lib.hid hI5, Lib.hid hs5, Lib.hid hrow5, Lib.hid hv5, Lib.hid hr5, Lib.hid hg5, Lib.hid hnS3⟩, by simp [intOf]; omega⟩
          · go_wp2_with (at_builtin; (refine wpList_append_lies _ rfl _ _ _ rfl w.heap.size 34 i0 (.agg #[.int .i64 0, .int .i64 0, .slice none 0 0, .int .i64 0, .int .i64 0, .slice none 0 0, .slice none 0 0]) 7 104 Tryz.underlying32 hi hz0 hz1 hz2 rfl (by omega) _ _ _ rfl HROWN.out ⟨W3.heap.size + 1, 0, none⟩ 1 1 _ rfl ?_ (World.news_of_block (heap_alloc_at (by simp) _)) ?_ (by omega) ?_ ?_ ?_ _ rfl ?_); rfl; (intro x hx; simp at hx; rcases hx with rfl | rfl | rfl | rfl | rfl | rfl | rfl <;> rfl); (unfold maxLen; omega); omega; (simp <;> omega); intro g1 cap1 W4 hown hgrow hat hlt4; have hv4 := (hgrow.block w.heap.size (by simp <;> omega) (fun e => by have := (HROK.out _ e.symm).1; omega)).trans (heap_alloc_old (heap_alloc_old HV3.out _) _); have hr4 := (hgrow.block (w.heap.size + 1) (by simp <;> omega) (fun e => by have := (HROK.out _ e.symm).1; omega)).trans (heap_alloc_old (heap_alloc_old HR3.out _) _); have hg4 := (hgrow.block W1.heap.size (by simp <;> omega) (fun e => (HROK.out _ e.symm).2.2 rfl)).trans (heap_alloc_old (heap_alloc_old HG3.out _) _); have f0 : W4.cell? ⟨w.heap.size, 0, none⟩ = some (.int .i64 15) := (cell_heap hv4 _).trans rfl; have f1 : W4.cell? ⟨w.heap.size, 1, none⟩ = some (.int .i64 0) := (cell_heap hv4 _).trans rfl; have f2 : W4.cell? ⟨w.heap.size, 2, none⟩ = some (.slice none 0 0) := (cell_heap hv4 _).trans rfl; have f3 : W4.cell? ⟨w.heap.size, 3, none⟩ = some (.int .i64 0) := (cell_heap hv4 _).trans rfl; have f4 : W4.cell? ⟨w.heap.size, 4, none⟩ = some (.int .i64 g.t) := (cell_heap hv4 _).trans rfl; have f5 : W4.cell? ⟨w.heap.size, 5, none⟩ = some (.slice none 0 0) := (cell_heap hv4 _).trans rfl; have f6 : W4.cell? ⟨w.heap.size, 6, none⟩ = some (.slice ui xs.length uc) := (cell_heap hv4 _).trans rfl; have e0 : W4.cell? ⟨w.heap.size + 1, 0, none⟩ = some (.int .i64 0) := (cell_heap hr4 _).trans rfl; have e1 : W4.cell? ⟨w.heap.size + 1, 1, none⟩ = some (.int .i64 0) := (cell_heap hr4 _).trans rfl; have e2 : W4.cell? ⟨w.heap.size + 1, 2, none⟩ = some (.slice none 0 0) := (cell_heap hr4 _).trans rfl; have e3 : W4.cell? ⟨w.heap.size + 1, 3, none⟩ = some (.int .i64 0) := (cell_heap hr4 _).trans rfl; have e4 : W4.cell? ⟨w.heap.size + 1, 4, none⟩ = some (.int .i64 0) := (cell_heap hr4 _).trans rfl; have e5 : W4.cell? ⟨w.heap.size + 1, 5, none⟩ = some (.slice none 0 0) := (cell_heap hr4 _).trans rfl; have e6 : W4.cell? ⟨w.heap.size + 1, 6, none⟩ = some (.slice none 0 0) := (cell_heap hr4 _).trans rfl; have hfz4 := frozen_heap hv4; have hfr4 := frozen_heap hr4; have hpu := RowO.push HROK.out HREPS.out HXA.out ⟨by simp <;> omega, fun hm => by (have := P.lt HI3.out _ hm; simp at this; omega), by simp <;> omega⟩ hown hgrow hat; have hg4s := hgrow.size; have HPU := Lib.hid hpu; have HV4 := Lib.hid hv4; have HR4 := Lib.hid hr4; have HG4 := Lib.hid hg4; have HGR := Lib.hid hgrow; clear hv4 hr4 hg4 hpu hown hgrow hat)
            go_wp2
            have HS35 := Lib.hid (app_step HGR.out w.heap.size 6 (.slice (some ⟨g1, 0, none⟩) (xs.length + 1) cap1))
            have hnS3 : w.heap.size ∉ S3 ∧ w.heap.size + 1 ∉ S3 ∧ W1.heap.size ∉ S3 := by
              refine ⟨fun hm => ?_, fun hm => ?_, fun hm => ?_⟩
              · rcases HS3.out.own _ hm with h' | h'
                · exact HNS2.out.1 h'
                · omega
              · rcases HS3.out.own _ hm with h' | h'
                · exact HNS2.out.2.1 h'
                · omega
              · rcases HS3.out.own _ hm with h' | h'
                · exact HNS2.out.2.2 h'
                · omega
            have hOB : ∀ b, b ∈ w.heap.size :: (Value.slice ui xs.length uc).ownBlock.toList → w.heap.size ≤ b ∧ b ∉ S3 := fun b hb => by
              simp only [List.mem_cons, Option.mem_toList] at hb
              rcases hb with rfl | hb
              · exact ⟨Nat.le_refl _, hnS3.1⟩
              · have h' := HROK.out b hb
                exact ⟨by omega, h'.2.1⟩
            have hv5 : (W4.setCell ⟨w.heap.size, 6, none⟩ (.slice (some ⟨g1, 0, none⟩) (xs.length + 1) cap1)).heap[w.heap.size]? = some (.cells #[.int .i64 15, .int .i64 0, .slice none 0 0, .int .i64 0, .int .i64 g.t, .slice none 0 0, .slice (some ⟨g1, 0, none⟩) (xs.length + 1) cap1] 34 (0, 0)) := (heap_set_same (o := 6) HV4.out _).trans rfl
            have hr5 : (W4.setCell ⟨w.heap.size, 6, none⟩ (.slice (some ⟨g1, 0, none⟩) (xs.length + 1) cap1)).heap[w.heap.size + 1]? = some (.cells #[.int .i64 0, .int .i64 0, .slice none 0 0, .int .i64 0, .int .i64 0, .slice none 0 0, .slice none 0 0] 34 (0, 0)) := heap_set_other (p := ⟨w.heap.size, 6, none⟩) HR4.out (by show w.heap.size + 1 ≠ w.heap.size; omega) _
            obtain ⟨W6, e2, h6, hs6⟩ := set7 hr5 (.int .i64 15) (.int .i64 0) (.slice none 0 0) (.int .i64 0) (.int .i64 g.t) (.slice none 0 0) (.slice (some ⟨g1, 0, none⟩) (xs.length + 1) cap1)
            rw [e2]
            have r0 : W6.cell? ⟨w.heap.size + 1, 0, none⟩ = some (.int .i64 15) := (cell_heap h6 _).trans rfl
            have r1 : W6.cell? ⟨w.heap.size + 1, 1, none⟩ = some (.int .i64 0) := (cell_heap h6 _).trans rfl
            have r2 : W6.cell? ⟨w.heap.size + 1, 2, none⟩ = some (.slice none 0 0) := (cell_heap h6 _).trans rfl
            have r3 : W6.cell? ⟨w.heap.size + 1, 3, none⟩ = some (.int .i64 0) := (cell_heap h6 _).trans rfl
            have r4 : W6.cell? ⟨w.heap.size + 1, 4, none⟩ = some (.int .i64 g.t) := (cell_heap h6 _).trans rfl
            have r5 : W6.cell? ⟨w.heap.size + 1, 5, none⟩ = some (.slice none 0 0) := (cell_heap h6 _).trans rfl
            have r6 : W6.cell? ⟨w.heap.size + 1, 6, none⟩ = some (.slice (some ⟨g1, 0, none⟩) (xs.length + 1) cap1) := (cell_heap h6 _).trans rfl
            refine bodyPost_ret (v := .tuple #[.agg #[.int .i64 15, .int .i64 0, .slice none 0 0, .int .i64 0, .int .i64 g.t, .slice none 0 0, .slice (some ⟨g1, 0, none⟩) (xs.length + 1) cap1], _]) (by simp [results, Tryz.results63, go_sem, *]; rfl) rfl ?_
            have hne : q.2.1 ≠ 0 := by omega
            have hha := HQ2.out
            rw [if_neg hne] at hha
            injection hha with hha
            subst hha
            have hrr := HR2.out
            rw [if_neg hne] at hrr
            injection hrr with hrr
            subst hrr
            have hs36 : Step ((w.heap.size + 1) :: w.heap.size :: (Value.slice ui xs.length uc).ownBlock.toList) ((w.heap.size + 1) :: w.heap.size :: (Value.slice ui xs.length uc).ownBlock.toList) W3 W6 := (HS35.out.more (S1 := ((w.heap.size + 1) :: w.heap.size :: (Value.slice ui xs.length uc).ownBlock.toList)) (T1 := ((w.heap.size + 1) :: w.heap.size :: (Value.slice ui xs.length uc).ownBlock.toList)) (fun k hk => List.mem_cons_of_mem _ hk) (fun k hk => .inr (.inl hk))).trans (hs6.more (S1 := ((w.heap.size + 1) :: w.heap.size :: (Value.slice ui xs.length uc).ownBlock.toList)) (T1 := ((w.heap.size + 1) :: w.heap.size :: (Value.slice ui xs.length uc).ownBlock.toList)) (fun k hk => by simp only [List.mem_cons, List.not_mem_nil, or_false] at hk; subst hk; exact List.mem_cons_self) (fun k hk => .inr (.inl hk)))
            obtain ⟨hI6, hs66⟩ := gotV_end (HS2.out.trans HS3.out) HI3.out (fun b hb => by
              rcases List.mem_cons.1 hb with rfl | hb
              · exact ⟨by omega, hnS3.2.1⟩
              · exact hOB b hb) hs36
            have hrow6 := HPU.out.move (w1 := W6) (fun b hb hlt => (hs6.block b (by simpa [World.setCell] using hlt) (by simp only [List.mem_cons, List.not_mem_nil, or_false]; omega)).trans (Below.heap_setCell _ _ _ _ (by show b ≠ w.heap.size; omega))) (by have := hs6.size; simpa [World.setCell] using this)
            exact ⟨_, [.int .i64 15, .int .i64 0, .slice none 0 0, .int .i64 0, .int .i64 g.t, .slice none 0 0, .slice (some ⟨g1, 0, none⟩) (xs.length + 1) cap1], S3, rfl, (hrow6.val 15 0 g.t).mono (fun b hb _ => ⟨by omega, hb.2.1⟩), HE3.out.step_at hs36 (fun b hb => by
              rcases List.mem_cons.1 hb with rfl | hb
              · exact ⟨_, _, _, HR3.out, by decide⟩
              rcases List.mem_cons.1 hb with rfl | hb
              · exact ⟨_, _, _, HV3.out, by decide⟩
              obtain ⟨cells, hcc⟩ := HOT.out b (Option.mem_toList.1 hb)
              exact ⟨_, _, _, hcc, by decide⟩), hI6, hs66⟩
          · go_wp2_with (at_builtin; (refine wpList_append_lies _ rfl _ _ _ rfl w.heap.size 34 i0 (.agg #[.int .i64 0, .int .i64 0, .slice none 0 0, .int .i64 0, .int .i64 0, .slice none 0 0, .slice none 0 0]) 7 104 Tryz.underlying32 hi hz0 hz1 hz2 rfl (by omega) _ _ _ rfl HROWN.out ⟨W3.heap.size + 1, 0, none⟩ 1 1 _ rfl ?_ (World.news_of_block (heap_alloc_at (by simp) _)) ?_ (by omega) ?_ ?_ ?_ _ rfl ?_); rfl; (intro x hx; simp at hx; rcases hx with rfl | rfl | rfl | rfl | rfl | rfl | rfl <;> rfl); (unfold maxLen; omega); omega; (simp <;> omega); intro g1 cap1 W4 hown hgrow hat hlt4; have hv4 := (hgrow.block w.heap.size (by simp <;> omega) (fun e => by have := (HROK.out _ e.symm).1; omega)).trans (heap_alloc_old (heap_alloc_old HV3.out _) _); have hr4 := (hgrow.block (w.heap.size + 1) (by simp <;> omega) (fun e => by have := (HROK.out _ e.symm).1; omega)).trans (heap_alloc_old (heap_alloc_old HR3.out _) _); have hg4 := (hgrow.block W1.heap.size (by simp <;> omega) (fun e => (HROK.out _ e.symm).2.2 rfl)).trans (heap_alloc_old (heap_alloc_old HG3.out _) _); have f0 : W4.cell? ⟨w.heap.size, 0, none⟩ = some (.int .i64 15) := (cell_heap hv4 _).trans rfl; have f1 : W4.cell? ⟨w.heap.size, 1, none⟩ = some (.int .i64 0) := (cell_heap hv4 _).trans rfl; have f2 : W4.cell? ⟨w.heap.size, 2, none⟩ = some (.slice none 0 0) := (cell_heap hv4 _).trans rfl; have f3 : W4.cell? ⟨w.heap.size, 3, none⟩ = some (.int .i64 0) := (cell_heap hv4 _).trans rfl; have f4 : W4.cell? ⟨w.heap.size, 4, none⟩ = some (.int .i64 g.t) := (cell_heap hv4 _).trans rfl; have f5 : W4.cell? ⟨w.heap.size, 5, none⟩ = some (.slice none 0 0) := (cell_heap hv4 _).trans rfl; have f6 : W4.cell? ⟨w.heap.size, 6, none⟩ = some (.slice ui xs.length uc) := (cell_heap hv4 _).trans rfl; have e0 : W4.cell? ⟨w.heap.size + 1, 0, none⟩ = some (.int .i64 0) := (cell_heap hr4 _).trans rfl; have e1 : W4.cell? ⟨w.heap.size + 1, 1, none⟩ = some (.int .i64 0) := (cell_heap hr4 _).trans rfl; have e2 : W4.cell? ⟨w.heap.size + 1, 2, none⟩ = some (.slice none 0 0) := (cell_heap hr4 _).trans rfl; have e3 : W4.cell? ⟨w.heap.size + 1, 3, none⟩ = some (.int .i64 0) := (cell_heap hr4 _).trans rfl; have e4 : W4.cell? ⟨w.heap.size + 1, 4, none⟩ = some (.int .i64 0) := (cell_heap hr4 _).trans rfl; have e5 : W4.cell? ⟨w.heap.size + 1, 5, none⟩ = some (.slice none 0 0) := (cell_heap hr4 _).trans rfl; have e6 : W4.cell? ⟨w.heap.size + 1, 6, none⟩ = some (.slice none 0 0) := (cell_heap hr4 _).trans rfl; have hfz4 := frozen_heap hv4; have hfr4 := frozen_heap hr4; have hpu := RowO.push HROK.out HREPS.out HXA.out ⟨by simp <;> omega, fun hm => by (have := P.lt HI3.out _ hm; simp at this; omega), by simp <;> omega⟩ hown hgrow hat; have hg4s := hgrow.size; have HPU := Lib.hid hpu; have HV4 := Lib.hid hv4; have HR4 := Lib.hid hr4; have HG4 := Lib.hid hg4; have HGR := Lib.hid hgrow; clear hv4 hr4 hg4 hpu hown hgrow hat)
            go_wp2
            have HS35 := Lib.hid (app_step HGR.out w.heap.size 6 (.slice (some ⟨g1, 0, none⟩) (xs.length + 1) cap1))
            have hnS3 : w.heap.size ∉ S3 ∧ w.heap.size + 1 ∉ S3 ∧ W1.heap.size ∉ S3 := by
              refine ⟨fun hm => ?_, fun hm => ?_, fun hm => ?_⟩
              · rcases HS3.out.own _ hm with h' | h'
                · exact HNS2.out.1 h'
                · omega
              · rcases HS3.out.own _ hm with h' | h'
                · exact HNS2.out.2.1 h'
                · omega
              · rcases HS3.out.own _ hm with h' | h'
                · exact HNS2.out.2.2 h'
                · omega
            have hOB : ∀ b, b ∈ w.heap.size :: (Value.slice ui xs.length uc).ownBlock.toList → w.heap.size ≤ b ∧ b ∉ S3 := fun b hb => by
              simp only [List.mem_cons, Option.mem_toList] at hb
              rcases hb with rfl | hb
              · exact ⟨Nat.le_refl _, hnS3.1⟩
              · have h' := HROK.out b hb
                exact ⟨by omega, h'.2.1⟩
            have hv5 : (W4.setCell ⟨w.heap.size, 6, none⟩ (.slice (some ⟨g1, 0, none⟩) (xs.length + 1) cap1)).heap[w.heap.size]? = some (.cells #[.int .i64 15, .int .i64 0, .slice none 0 0, .int .i64 0, .int .i64 g.t, .slice none 0 0, .slice (some ⟨g1, 0, none⟩) (xs.length + 1) cap1] 34 (0, 0)) := (heap_set_same (o := 6) HV4.out _).trans rfl
            have hr5 : (W4.setCell ⟨w.heap.size, 6, none⟩ (.slice (some ⟨g1, 0, none⟩) (xs.length + 1) cap1)).heap[w.heap.size + 1]? = some (.cells #[.int .i64 0, .int .i64 0, .slice none 0 0, .int .i64 0, .int .i64 0, .slice none 0 0, .slice none 0 0] 34 (0, 0)) := heap_set_other (p := ⟨w.heap.size, 6, none⟩) HR4.out (by show w.heap.size + 1 ≠ w.heap.size; omega) _
            obtain ⟨W6, e2, h6, hs6⟩ := set7 hr5 (.int .i64 15) (.int .i64 0) (.slice none 0 0) (.int .i64 0) (.int .i64 g.t) (.slice none 0 0) (.slice (some ⟨g1, 0, none⟩) (xs.length + 1) cap1)
            rw [e2]
            have r0 : W6.cell? ⟨w.heap.size + 1, 0, none⟩ = some (.int .i64 15) := (cell_heap h6 _).trans rfl
            have r1 : W6.cell? ⟨w.heap.size + 1, 1, none⟩ = some (.int .i64 0) := (cell_heap h6 _).trans rfl
            have r2 : W6.cell? ⟨w.heap.size + 1, 2, none⟩ = some (.slice none 0 0) := (cell_heap h6 _).trans rfl
            have r3 : W6.cell? ⟨w.heap.size + 1, 3, none⟩ = some (.int .i64 0) := (cell_heap h6 _).trans rfl
            have r4 : W6.cell? ⟨w.heap.size + 1, 4, none⟩ = some (.int .i64 g.t) := (cell_heap h6 _).trans rfl
            have r5 : W6.cell? ⟨w.heap.size + 1, 5, none⟩ = some (.slice none 0 0) := (cell_heap h6 _).trans rfl
            have r6 : W6.cell? ⟨w.heap.size + 1, 6, none⟩ = some (.slice (some ⟨g1, 0, none⟩) (xs.length + 1) cap1) := (cell_heap h6 _).trans rfl
            refine bodyPost_ret (v := .tuple #[.agg #[.int .i64 15, .int .i64 0, .slice none 0 0, .int .i64 0, .int .i64 g.t, .slice none 0 0, .slice (some ⟨g1, 0, none⟩) (xs.length + 1) cap1], _]) (by simp [results, Tryz.results63, go_sem, *]; rfl) rfl ?_
            have hne : q.2.1 ≠ 0 := by omega
            have hha := HQ2.out
            rw [if_neg hne] at hha
            injection hha with hha
            subst hha
            have hrr := HR2.out
            rw [if_neg hne] at hrr
            injection hrr with hrr
            subst hrr
            have hs36 : Step ((w.heap.size + 1) :: w.heap.size :: (Value.slice ui xs.length uc).ownBlock.toList) ((w.heap.size + 1) :: w.heap.size :: (Value.slice ui xs.length uc).ownBlock.toList) W3 W6 := (HS35.out.more (S1 := ((w.heap.size + 1) :: w.heap.size :: (Value.slice ui xs.length uc).ownBlock.toList)) (T1 := ((w.heap.size + 1) :: w.heap.size :: (Value.slice ui xs.length uc).ownBlock.toList)) (fun k hk => List.mem_cons_of_mem _ hk) (fun k hk => .inr (.inl hk))).trans (hs6.more (S1 := ((w.heap.size + 1) :: w.heap.size :: (Value.slice ui xs.length uc).ownBlock.toList)) (T1 := ((w.heap.size + 1) :: w.heap.size :: (Value.slice ui xs.length uc).ownBlock.toList)) (fun k hk => by simp only [List.mem_cons, List.not_mem_nil, or_false] at hk; subst hk; exact List.mem_cons_self) (fun k hk => .inr (.inl hk)))
            obtain ⟨hI6, hs66⟩ := gotV_end (HS2.out.trans HS3.out) HI3.out (fun b hb => by
              rcases List.mem_cons.1 hb with rfl | hb
              · exact ⟨by omega, hnS3.2.1⟩
              · exact hOB b hb) hs36
            have hrow6 := HPU.out.move (w1 := W6) (fun b hb hlt => (hs6.block b (by simpa [World.setCell] using hlt) (by simp only [List.mem_cons, List.not_mem_nil, or_false]; omega)).trans (Below.heap_setCell _ _ _ _ (by show b ≠ w.heap.size; omega))) (by have := hs6.size; simpa [World.setCell] using this)
            exact ⟨_, [.int .i64 15, .int .i64 0, .slice none 0 0, .int .i64 0, .int .i64 g.t, .slice none 0 0, .slice (some ⟨g1, 0, none⟩) (xs.length + 1) cap1], S3, rfl, (hrow6.val 15 0 g.t).mono (fun b hb _ => ⟨by omega, hb.2.1⟩), HE3.out.step_at hs36 (fun b hb => by
              rcases List.mem_cons.1 hb with rfl | hb
              · exact ⟨_, _, _, HR3.out, by decide⟩
              rcases List.mem_cons.1 hb with rfl | hb
              · exact ⟨_, _, _, HV3.out, by decide⟩
              obtain ⟨cells, hcc⟩ := HOT.out b (Option.mem_toList.1 hb)
              exact ⟨_, _, _, hcc, by decide⟩), hI6, hs66⟩
        case neg =>
          obtain ⟨ui, uc, rfl⟩ : ∃ ui uc, u = .slice ui xs.length uc := by
            obtain ⟨A, c, h1, _⟩ := HRO.out.reads
            exact ⟨A, c, h1⟩
          have hq := hrun.out
          rw [show N - xs.length = 0 by omega, List.replicate_zero, getL] at hq
          injection hq with hq
          subst hq
          have hrr := HR2.out
          rw [if_pos rfl, Option.map_eq_some_iff] at hrr
          obtain ⟨b, hb1, hrr⟩ := hrr
          subst hrr
          have HO9 := Lib.hid (fun W (hW : Step [] [] wr W) => begun_lstE P (.int .i64 0) (.int .i64 0) (.int .i64 0) (.int .i64 0) (.int .i64 0) (.slice none 0 0) (P.step HI2.out hW (by simp)) hb1)
          have c0 : wr.cell? ⟨w.heap.size, 0, none⟩ = some (.int .i64 15) := (cell_heap HVB.out _).trans rfl
          have c1 : wr.cell? ⟨w.heap.size, 1, none⟩ = some (.int .i64 0) := (cell_heap HVB.out _).trans rfl
          have c2 : wr.cell? ⟨w.heap.size, 2, none⟩ = some (.slice none 0 0) := (cell_heap HVB.out _).trans rfl
          have c3 : wr.cell? ⟨w.heap.size, 3, none⟩ = some (.int .i64 0) := (cell_heap HVB.out _).trans rfl
          have c4 : wr.cell? ⟨w.heap.size, 4, none⟩ = some (.int .i64 g.t) := (cell_heap HVB.out _).trans rfl
          have c5 : wr.cell? ⟨w.heap.size, 5, none⟩ = some (.slice none 0 0) := (cell_heap HVB.out _).trans rfl
          have c6 : wr.cell? ⟨w.heap.size, 6, none⟩ = some (.slice ui xs.length uc) := (cell_heap HVB.out _).trans rfl
          have d0 : wr.cell? ⟨w.heap.size + 1, 0, none⟩ = some (.int .i64 0) := (cell_heap HRB.out _).trans rfl
          have d1 : wr.cell? ⟨w.heap.size + 1, 1, none⟩ = some (.int .i64 0) := (cell_heap HRB.out _).trans rfl
          have d2 : wr.cell? ⟨w.heap.size + 1, 2, none⟩ = some (.slice none 0 0) := (cell_heap HRB.out _).trans rfl
          have d3 : wr.cell? ⟨w.heap.size + 1, 3, none⟩ = some (.int .i64 0) := (cell_heap HRB.out _).trans rfl
          have d4 : wr.cell? ⟨w.heap.size + 1, 4, none⟩ = some (.int .i64 0) := (cell_heap HRB.out _).trans rfl
          have d5 : wr.cell? ⟨w.heap.size + 1, 5, none⟩ = some (.slice none 0 0) := (cell_heap HRB.out _).trans rfl
          have d6 : wr.cell? ⟨w.heap.size + 1, 6, none⟩ = some (.slice none 0 0) := (cell_heap HRB.out _).trans rfl
          have hfz := frozen_heap HVB.out
          have hfr := frozen_heap HRB.out
          clear hb1
          go_wp2_with (fail)
          refine (HO9.out wr (Step.refl [] wr)).mono ?_
          rintro e W3 ⟨ev3, vb3, kb3, S3, rfl, hB3, hkb3, hkS3, he3, hI3, hs3⟩
          have hv3 := (hs3.block _ (lt_heap HVB.out) HNS2.out.1).trans HVB.out
          have hr3 := (hs3.block _ (lt_heap HRB.out) HNS2.out.2.1).trans HRB.out
          have hlr3 := lt_heap HRB.out
          have hrow2 : RowO (fun b => (w.heap.size + 1 < b ∧ b ∉ S3) ∧ b ∉ S2) wr w.heap.size (.slice ui xs.length uc) xs := HRO.out.mono (fun b hb hlt2 => ⟨⟨hb.1, fun hm => by
            rcases hs3.own b hm with h3 | h3
            · exact hb.2.1 h3
            · omega⟩, hb.2.1⟩)
          have hrow3 := hrow2.move (fun b hb hlt2 => hs3.block b hlt2 hb.2) hs3.size
          have hn3 : w.heap.size + 1 ∉ S3 := fun hm => by
            rcases hs3.own _ hm with h' | h'
            · exact HNS2.out.2.1 h'
            · omega
          have HV3 := Lib.hid hv3
          have HR3 := Lib.hid hr3
          have HROW3 := Lib.hid hrow3
          have HE3 := Lib.hid he3
          have HI3 := Lib.hid hI3
          have HS3 := Lib.hid hs3
          clear c0 c1 c2 c3 c4 c5 c6 d0 d1 d2 d3 d4 d5 d6 hfz hfr hB3 hkb3 hkS3 he3 hI3 hs3 hrow2 hrow3
          have c0 : W3.cell? ⟨w.heap.size, 0, none⟩ = some (.int .i64 15) := (cell_heap hv3 _).trans rfl
          have c1 : W3.cell? ⟨w.heap.size, 1, none⟩ = some (.int .i64 0) := (cell_heap hv3 _).trans rfl
          have c2 : W3.cell? ⟨w.heap.size, 2, none⟩ = some (.slice none 0 0) := (cell_heap hv3 _).trans rfl
          have c3 : W3.cell? ⟨w.heap.size, 3, none⟩ = some (.int .i64 0) := (cell_heap hv3 _).trans rfl
          have c4 : W3.cell? ⟨w.heap.size, 4, none⟩ = some (.int .i64 g.t) := (cell_heap hv3 _).trans rfl
          have c5 : W3.cell? ⟨w.heap.size, 5, none⟩ = some (.slice none 0 0) := (cell_heap hv3 _).trans rfl
          have c6 : W3.cell? ⟨w.heap.size, 6, none⟩ = some (.slice ui xs.length uc) := (cell_heap hv3 _).trans rfl
          have d0 : W3.cell? ⟨w.heap.size + 1, 0, none⟩ = some (.int .i64 0) := (cell_heap hr3 _).trans rfl
          have d1 : W3.cell? ⟨w.heap.size + 1, 1, none⟩ = some (.int .i64 0) := (cell_heap hr3 _).trans rfl
          have d2 : W3.cell? ⟨w.heap.size + 1, 2, none⟩ = some (.slice none 0 0) := (cell_heap hr3 _).trans rfl
          have d3 : W3.cell? ⟨w.heap.size + 1, 3, none⟩ = some (.int .i64 0) := (cell_heap hr3 _).trans rfl
          have d4 : W3.cell? ⟨w.heap.size + 1, 4, none⟩ = some (.int .i64 0) := (cell_heap hr3 _).trans rfl
          have d5 : W3.cell? ⟨w.heap.size + 1, 5, none⟩ = some (.slice none 0 0) := (cell_heap hr3 _).trans rfl
          have d6 : W3.cell? ⟨w.heap.size + 1, 6, none⟩ = some (.slice none 0 0) := (cell_heap hr3 _).trans rfl
          have hfz := frozen_heap hv3
          have hfr := frozen_heap hr3
          clear hv3 hr3
          go_wp2
          obtain ⟨W6, e2, h6, hs6⟩ := set7 HR3.out (.int .i64 15) (.int .i64 0) (.slice none 0 0) (.int .i64 0) (.int .i64 g.t) (.slice none 0 0) (.slice ui xs.length uc)
          rw [e2]
          have r0 : W6.cell? ⟨w.heap.size + 1, 0, none⟩ = some (.int .i64 15) := (cell_heap h6 _).trans rfl
          have r1 : W6.cell? ⟨w.heap.size + 1, 1, none⟩ = some (.int .i64 0) := (cell_heap h6 _).trans rfl
          have r2 : W6.cell? ⟨w.heap.size + 1, 2, none⟩ = some (.slice none 0 0) := (cell_heap h6 _).trans rfl
          have r3 : W6.cell? ⟨w.heap.size + 1, 3, none⟩ = some (.int .i64 0) := (cell_heap h6 _).trans rfl
          have r4 : W6.cell? ⟨w.heap.size + 1, 4, none⟩ = some (.int .i64 g.t) := (cell_heap h6 _).trans rfl
          have r5 : W6.cell? ⟨w.heap.size + 1, 5, none⟩ = some (.slice none 0 0) := (cell_heap h6 _).trans rfl
          have r6 : W6.cell? ⟨w.heap.size + 1, 6, none⟩ = some (.slice ui xs.length uc) := (cell_heap h6 _).trans rfl
          refine bodyPost_ret (v := .tuple #[.agg #[.int .i64 15, .int .i64 0, .slice none 0 0, .int .i64 0, .int .i64 g.t, .slice none 0 0, .slice ui xs.length uc], ev3]) (by simp [results, Tryz.results63, go_sem, *]) rfl ?_
          obtain ⟨hI6, hs66⟩ := gotV_end (HS2.out.trans HS3.out) HI3.out (fun b hb => by
            simp only [List.mem_cons, List.not_mem_nil, or_false] at hb
            subst hb
            exact ⟨by omega, hn3⟩) hs6
          have hrow6 := HROW3.out.move (w1 := W6) (fun b hb hlt2 => hs6.block b hlt2 (by simp only [List.mem_cons, List.not_mem_nil, or_false]; omega)) hs6.size
          exact ⟨_, [.int .i64 15, .int .i64 0, .slice none 0 0, .int .i64 0, .int .i64 g.t, .slice none 0 0, .slice ui xs.length uc], S3, rfl, (hrow6.val 15 0 g.t).mono (fun b hb _ => ⟨by omega, hb.1.2⟩), .inl (HE3.out.step_at hs6 (fun b hb => by
            simp only [List.mem_cons, List.not_mem_nil, or_false] at hb
            subst hb
            exact ⟨_, _, _, HR3.out, by decide⟩)), hI6, hs66⟩

end Go.Proofs.YtelocgemofghaaaGreatDoor

/-! A set is read by whatever protocol. -/
namespace Go.Proofs.YtelocgemofghaaaGreatDoor

open Go.RowKit Go.Deep

set_option linter.unusedVariables false

set_option linter.unusedSimpArgs false

open Go.Proofs.YtelocgemofghaaaGreatDoorW.PrintWords

set_option maxRecDepth 100000 in
set_option maxHeartbeats 2000000 in
theorem getSet_any (P : PR) (gv : Int → P.σ → Option (Val × Nat × P.σ)) (D : Int) (hD : 1 ≤ D ∧ D < 9223372036854775808) (hG : Gets P gv (D - 1)) {S : List Nat} {s : P.σ} {w : World} (h : P.Is S s w) {r : Val × Nat × P.σ} (hr : getList P.run gv 14 .setB .setE s = some r) :
    Calls Tryz.prog 63 #[.iface P.ty P.ptr, .agg #[.int .i64 14, .int .i64 0, .slice none 0 0, .int .i64 0, .int .i64 0, .slice none 0 0, .slice none 0 0], .int .i64 11, .int .i64 D] w (GotV P r S w) := by
  unfold getList at hr
  rw [Option.bind_eq_some_iff] at hr
  obtain ⟨⟨g, k, s1⟩, hg, hr⟩ := hr
  dsimp only at hr
  have hfit := P.fits hg
  have HO := Lib.hid (fun W (hW : Step [] [] w W) => begun_set P (.int .i64 0) (.int .i64 0) (.int .i64 0) (.int .i64 0) (.int .i64 0) (.slice none 0 0) (P.step h hW (by simp)) hg)
  have HR := Lib.hid hr
  have HF := Lib.hid (P.lt h)
  have HG := Lib.hid hG
  clear hr hg hG
  go_enter Tryz.func63, Tryz.ntmps63
  go_wp2_with (fail)
  refine (HO.out _ (((Step.refl [] w).alloc _).alloc _)).mono ?_
  rintro e W1 ⟨ev, vb, kb, S1, rfl, hB, hkb, hkS, he, hI, hs⟩
  have hbv := (hs.block w.heap.size (by simp <;> omega) (fun hm => by have := HF.out _ hm; omega)).trans (heap_alloc_old (heap_alloc_new w _) _)
  have hbr := (hs.block (w.heap.size + 1) (by simp) (fun hm => by have := HF.out _ hm; omega)).trans (heap_alloc_at (by simp) _)
  have c0 : W1.cell? ⟨w.heap.size, 0, none⟩ = some (.int .i64 14) := (cell_heap hbv _).trans rfl
  have c1 : W1.cell? ⟨w.heap.size, 1, none⟩ = some (.int .i64 0) := (cell_heap hbv _).trans rfl
  have c2 : W1.cell? ⟨w.heap.size, 2, none⟩ = some (.slice none 0 0) := (cell_heap hbv _).trans rfl
  have c3 : W1.cell? ⟨w.heap.size, 3, none⟩ = some (.int .i64 0) := (cell_heap hbv _).trans rfl
  have c4 : W1.cell? ⟨w.heap.size, 4, none⟩ = some (.int .i64 0) := (cell_heap hbv _).trans rfl
  have c5 : W1.cell? ⟨w.heap.size, 5, none⟩ = some (.slice none 0 0) := (cell_heap hbv _).trans rfl
  have c6 : W1.cell? ⟨w.heap.size, 6, none⟩ = some (.slice none 0 0) := (cell_heap hbv _).trans rfl
  have d0 : W1.cell? ⟨w.heap.size + 1, 0, none⟩ = some (.int .i64 0) := (cell_heap hbr _).trans rfl
  have d1 : W1.cell? ⟨w.heap.size + 1, 1, none⟩ = some (.int .i64 0) := (cell_heap hbr _).trans rfl
  have d2 : W1.cell? ⟨w.heap.size + 1, 2, none⟩ = some (.slice none 0 0) := (cell_heap hbr _).trans rfl
  have d3 : W1.cell? ⟨w.heap.size + 1, 3, none⟩ = some (.int .i64 0) := (cell_heap hbr _).trans rfl
  have d4 : W1.cell? ⟨w.heap.size + 1, 4, none⟩ = some (.int .i64 0) := (cell_heap hbr _).trans rfl
  have d5 : W1.cell? ⟨w.heap.size + 1, 5, none⟩ = some (.slice none 0 0) := (cell_heap hbr _).trans rfl
  have d6 : W1.cell? ⟨w.heap.size + 1, 6, none⟩ = some (.slice none 0 0) := (cell_heap hbr _).trans rfl
  have hfz := frozen_heap hbv
  have hfr := frozen_heap hbr
  have hlv := lt_heap hbv
  have hlr := lt_heap hbr
  have HBV := Lib.hid hbv
  have HBR := Lib.hid hbr
  have HI := Lib.hid hI
  have HSW := Lib.hid ((((Step.refl S w).alloc _).alloc _).trans hs)
  have HOB := Lib.hid (show ∀ b, b ∈ [w.heap.size, w.heap.size + 1] → w.heap.size ≤ b ∧ b ∉ S1 from fun b hb => by
    simp only [List.mem_cons, List.not_mem_nil, or_false] at hb
    refine ⟨by omega, fun hm => ?_⟩
    rcases hs.own b hm with h1 | h1
    · have := HF.out _ h1; omega
    · simp at h1; omega)
  have HET := Lib.hid (show ∀ b, b ∈ [w.heap.size, w.heap.size + 1] → ∃ cs t f, W1.heap[b]? = some (.cells cs t f) ∧ t ≠ 224 from fun b hb => by
    simp only [List.mem_cons, List.not_mem_nil, or_false] at hb
    rcases hb with rfl | rfl
    · exact ⟨_, _, _, HBV.out, by decide⟩
    · exact ⟨_, _, _, HBR.out, by decide⟩)
  have HE := Lib.hid he
  obtain ⟨ao, ac, rfl, _, _⟩ := hB.ints
  clear hbv hbr hI hs hB hkb hkS
  rcases he with ⟨rfl, rfl⟩ | hne
  case inr =>
    obtain ⟨bb, tt, er, ms, hk1, hk2, rfl, hbb⟩ := hne
    go_wp2_with (fail)
    obtain ⟨W3, e2, h3, hs3⟩ := set7 (HBR.out) (.int .i64 14) (.int .i64 0) (.slice none 0 0) (.int .i64 0) (.int .i64 0) (.slice none 0 0) (.slice none 0 0)
    rw [e2]
    have h4 : (W3.alloc (.cells #[.int .i64 0, .int .i64 g.t, .int .i64 0, .int .i64 g.size, .int .i64 0, .int .i64 0, .slice ao (ints []).length ac] 68)).heap[w.heap.size + 1]? = some (.cells #[.int .i64 14, .int .i64 0, .slice none 0 0, .int .i64 0, .int .i64 0, .slice none 0 0, .slice none 0 0] 34 (0, 0)) := heap_alloc_old h3 _
    have r0 : (W3.alloc (.cells #[.int .i64 0, .int .i64 g.t, .int .i64 0, .int .i64 g.size, .int .i64 0, .int .i64 0, .slice ao (ints []).length ac] 68)).cell? ⟨w.heap.size + 1, 0, none⟩ = some (.int .i64 14) := (cell_heap h4 _).trans rfl
    have r1 : (W3.alloc (.cells #[.int .i64 0, .int .i64 g.t, .int .i64 0, .int .i64 g.size, .int .i64 0, .int .i64 0, .slice ao (ints []).length ac] 68)).cell? ⟨w.heap.size + 1, 1, none⟩ = some (.int .i64 0) := (cell_heap h4 _).trans rfl
    have r2 : (W3.alloc (.cells #[.int .i64 0, .int .i64 g.t, .int .i64 0, .int .i64 g.size, .int .i64 0, .int .i64 0, .slice ao (ints []).length ac] 68)).cell? ⟨w.heap.size + 1, 2, none⟩ = some (.slice none 0 0) := (cell_heap h4 _).trans rfl
    have r3 : (W3.alloc (.cells #[.int .i64 0, .int .i64 g.t, .int .i64 0, .int .i64 g.size, .int .i64 0, .int .i64 0, .slice ao (ints []).length ac] 68)).cell? ⟨w.heap.size + 1, 3, none⟩ = some (.int .i64 0) := (cell_heap h4 _).trans rfl
    have r4 : (W3.alloc (.cells #[.int .i64 0, .int .i64 g.t, .int .i64 0, .int .i64 g.size, .int .i64 0, .int .i64 0, .slice ao (ints []).length ac] 68)).cell? ⟨w.heap.size + 1, 4, none⟩ = some (.int .i64 0) := (cell_heap h4 _).trans rfl
    have r5 : (W3.alloc (.cells #[.int .i64 0, .int .i64 g.t, .int .i64 0, .int .i64 g.size, .int .i64 0, .int .i64 0, .slice ao (ints []).length ac] 68)).cell? ⟨w.heap.size + 1, 5, none⟩ = some (.slice none 0 0) := (cell_heap h4 _).trans rfl
    have r6 : (W3.alloc (.cells #[.int .i64 0, .int .i64 g.t, .int .i64 0, .int .i64 g.size, .int .i64 0, .int .i64 0, .slice ao (ints []).length ac] 68)).cell? ⟨w.heap.size + 1, 6, none⟩ = some (.slice none 0 0) := (cell_heap h4 _).trans rfl
    refine bodyPost_ret (v := .tuple #[.agg #[.int .i64 14, .int .i64 0, .slice none 0 0, .int .i64 0, .int .i64 0, .slice none 0 0, .slice none 0 0], .iface 221 (.pointer (some ⟨bb, 0, none⟩))]) (by simp [results, Tryz.results63, go_sem, *]) rfl ?_
    have hs13 : Step [w.heap.size, w.heap.size + 1] [w.heap.size, w.heap.size + 1] W1 (W3.alloc (.cells #[.int .i64 0, .int .i64 g.t, .int .i64 0, .int .i64 g.size, .int .i64 0, .int .i64 0, .slice ao (ints []).length ac] 68)) := ((hs3.more (S1 := [w.heap.size, w.heap.size + 1]) (T1 := [w.heap.size, w.heap.size + 1]) (by simp) (fun k hk => .inr (.inl hk)))).alloc _
    obtain ⟨hI4, hs4⟩ := gotV_end HSW.out HI.out HOB.out hs13
    have hrr := HR.out
    rw [if_neg (by omega)] at hrr
    injection hrr with hrr
    subst hrr
    exact ⟨_, [.int .i64 14, .int .i64 0, .slice none 0 0, .int .i64 0, .int .i64 0, .slice none 0 0, .slice none 0 0], _, rfl, (RowO.nil _ _ 0).val 14 0 0, .inl (HE.out.step_at hs13 HET.out), hI4, hs4⟩
  case inl =>
    clear HE
    have hgt := hfit.1 (by decide)
    have hgs := hfit.2.2.2.2.1 rfl
    have HR := Lib.hid ((if_pos rfl).symm.trans HR.out)
    by_cases hbig : 100000 < g.size
    case pos =>
      go_wp2_with (fail)
      obtain ⟨W3, e2, h3, hs3⟩ := set7 (heap_set_other (p := ⟨w.heap.size, 4, none⟩) HBR.out (by show w.heap.size + 1 ≠ w.heap.size; omega) (.int .i64 g.t)) (.int .i64 14) (.int .i64 0) (.slice none 0 0) (.int .i64 0) (.int .i64 g.t) (.slice none 0 0) (.slice none 0 0)
      rw [e2]
      have h4 : (W3.alloc (.cells #[.int .i64 0, .int .i64 g.t, .int .i64 0, .int .i64 g.size, .int .i64 0, .int .i64 0, .slice ao (ints []).length ac] 68)).heap[w.heap.size + 1]? = some (.cells #[.int .i64 14, .int .i64 0, .slice none 0 0, .int .i64 0, .int .i64 g.t, .slice none 0 0, .slice none 0 0] 34 (0, 0)) := heap_alloc_old h3 _
      have r0 : (W3.alloc (.cells #[.int .i64 0, .int .i64 g.t, .int .i64 0, .int .i64 g.size, .int .i64 0, .int .i64 0, .slice ao (ints []).length ac] 68)).cell? ⟨w.heap.size + 1, 0, none⟩ = some (.int .i64 14) := (cell_heap h4 _).trans rfl
      have r1 : (W3.alloc (.cells #[.int .i64 0, .int .i64 g.t, .int .i64 0, .int .i64 g.size, .int .i64 0, .int .i64 0, .slice ao (ints []).length ac] 68)).cell? ⟨w.heap.size + 1, 1, none⟩ = some (.int .i64 0) := (cell_heap h4 _).trans rfl
      have r2 : (W3.alloc (.cells #[.int .i64 0, .int .i64 g.t, .int .i64 0, .int .i64 g.size, .int .i64 0, .int .i64 0, .slice ao (ints []).length ac] 68)).cell? ⟨w.heap.size + 1, 2, none⟩ = some (.slice none 0 0) := (cell_heap h4 _).trans rfl
      have r3 : (W3.alloc (.cells #[.int .i64 0, .int .i64 g.t, .int .i64 0, .int .i64 g.size, .int .i64 0, .int .i64 0, .slice ao (ints []).length ac] 68)).cell? ⟨w.heap.size + 1, 3, none⟩ = some (.int .i64 0) := (cell_heap h4 _).trans rfl
      have r4 : (W3.alloc (.cells #[.int .i64 0, .int .i64 g.t, .int .i64 0, .int .i64 g.size, .int .i64 0, .int .i64 0, .slice ao (ints []).length ac] 68)).cell? ⟨w.heap.size + 1, 4, none⟩ = some (.int .i64 g.t) := (cell_heap h4 _).trans rfl
      have r5 : (W3.alloc (.cells #[.int .i64 0, .int .i64 g.t, .int .i64 0, .int .i64 g.size, .int .i64 0, .int .i64 0, .slice ao (ints []).length ac] 68)).cell? ⟨w.heap.size + 1, 5, none⟩ = some (.slice none 0 0) := (cell_heap h4 _).trans rfl
      have r6 : (W3.alloc (.cells #[.int .i64 0, .int .i64 g.t, .int .i64 0, .int .i64 g.size, .int .i64 0, .int .i64 0, .slice ao (ints []).length ac] 68)).cell? ⟨w.heap.size + 1, 6, none⟩ = some (.slice none 0 0) := (cell_heap h4 _).trans rfl
      refine bodyPost_ret (v := .tuple #[.agg #[.int .i64 14, .int .i64 0, .slice none 0 0, .int .i64 0, .int .i64 g.t, .slice none 0 0, .slice none 0 0], .iface 123 (.int .i64 52)]) (by simp [results, Tryz.results63, go_sem, *]) rfl ?_
      have hs13 : Step [w.heap.size, w.heap.size + 1] [w.heap.size, w.heap.size + 1] W1 (W3.alloc (.cells #[.int .i64 0, .int .i64 g.t, .int .i64 0, .int .i64 g.size, .int .i64 0, .int .i64 0, .slice ao (ints []).length ac] 68)) := (((Step.refl [w.heap.size, w.heap.size + 1] W1).setCell (p := ⟨w.heap.size, 4, none⟩) (.inl (by simp)) _).trans (hs3.more (S1 := [w.heap.size, w.heap.size + 1]) (T1 := [w.heap.size, w.heap.size + 1]) (by simp) (fun k hk => .inr (.inl hk)))).alloc _
      obtain ⟨hI4, hs4⟩ := gotV_end HSW.out HI.out HOB.out hs13
      have hrr := HR.out
      rw [if_pos hbig] at hrr
      injection hrr with hrr
      subst hrr
      exact ⟨_, [.int .i64 14, .int .i64 0, .slice none 0 0, .int .i64 0, .int .i64 g.t, .slice none 0 0, .slice none 0 0], _, rfl, (RowO.nil _ _ 0).val 14 0 g.t, .inr ⟨Nat.le_of_ble_eq_true rfl, Nat.le_of_ble_eq_true rfl, rfl⟩, hI4, hs4⟩
    case neg =>
      have HR := Lib.hid ((if_neg hbig).symm.trans HR.out)
      obtain ⟨N, hN⟩ : ∃ N : Nat, g.size = N := ⟨g.size.toNat, by omega⟩
      have hN2 : N ≤ 100000 := by omega
      have hR0 := HR.out
      rw [hN, Int.toNat_natCast, Option.bind_eq_some_iff] at hR0
      obtain ⟨R, hR1, hR2⟩ := hR0
      have HR1 := Lib.hid hR1
      have HR2 := Lib.hid hR2
      clear hR1 hR2 HR
      go_wp2_with (fail)
      obtain ⟨WL, hWL⟩ : ∃ WL, WL = (W1.setCell ⟨w.heap.size, 4, none⟩ (.int .i64 g.t)).alloc (.cells #[.int .i64 0, .int .i64 g.t, .int .i64 0, .int .i64 (N : Nat), .int .i64 0, .int .i64 0, .slice ao (ints []).length ac] 68) := ⟨_, rfl⟩
      have hv5 : WL.heap[w.heap.size]? = some (.cells #[.int .i64 14, .int .i64 0, .slice none 0 0, .int .i64 0, .int .i64 g.t, .slice none 0 0, .slice none 0 0] 34 (0, 0)) := by rw [hWL]; exact heap_alloc_old ((heap_set_same (o := 4) HBV.out _).trans rfl) _
      have hr5 : WL.heap[w.heap.size + 1]? = some (.cells #[.int .i64 0, .int .i64 0, .slice none 0 0, .int .i64 0, .int .i64 0, .slice none 0 0, .slice none 0 0] 34 (0, 0)) := by rw [hWL]; exact heap_alloc_old (heap_set_other (p := ⟨w.heap.size, 4, none⟩) HBR.out (by show w.heap.size + 1 ≠ w.heap.size; omega) _) _
      have hg5 : WL.heap[W1.heap.size]? = some (.cells #[.int .i64 0, .int .i64 g.t, .int .i64 0, .int .i64 (N : Nat), .int .i64 0, .int .i64 0, .slice ao (ints []).length ac] 68 (0, 0)) := by rw [hWL]; exact heap_alloc_at (by simp) _
      have hst5 : Step [w.heap.size, w.heap.size + 1] [w.heap.size, w.heap.size + 1] W1 WL := by rw [hWL]; exact ((Step.refl _ W1).setCell (p := ⟨w.heap.size, 4, none⟩) (.inl (by simp)) _).alloc _
      obtain ⟨hI5, hs5⟩ := gotV_end HSW.out HI.out HOB.out hst5
      have HI5 := Lib.hid hI5
      have HS5 := Lib.hid hs5
      have HV5 := Lib.hid hv5
      have HRB5 := Lib.hid hr5
      have HG5 := Lib.hid hg5
      have HNS := Lib.hid (show w.heap.size ∉ S1 ∧ w.heap.size + 1 ∉ S1 ∧ W1.heap.size ∉ S1 from ⟨(HOB.out _ (by simp)).2, (HOB.out _ (by simp)).2, fun hm => Nat.lt_irrefl _ (P.lt HI.out _ hm)⟩)
      rw [← hWL]
      clear hWL hv5 hr5 hg5 hst5 hI5 hs5 c0 c1 c2 c3 c4 c5 c6 d0 d1 d2 d3 d4 d5 d6 hfz hfr
      have hgt2 : g.t % 256 = g.t := by omega
      go_loopw [35] (fun i wr => ∃ (j : Nat) (S2 : List Nat) (s2 : P.σ) (xs : List Val) (u : Value), i = .int .i64 (j : Nat) ∧ j ≤ N ∧ xs.length = j ∧ Hid (getL gv (List.replicate (N - j) g.t) xs s2 = some R) ∧ Hid (P.Is S2 s2 wr) ∧ Hid (Step S S2 w wr) ∧ Hid (RowO (fun b => w.heap.size + 1 < b ∧ b ∉ S2 ∧ b ≠ W1.heap.size) wr w.heap.size u xs) ∧ Hid (wr.heap[w.heap.size]? = some (.cells #[.int .i64 14, .int .i64 0, .slice none 0 0, .int .i64 0, .int .i64 g.t, .slice none 0 0, u] 34 (0, 0))) ∧ Hid (wr.heap[w.heap.size + 1]? = some (.cells #[.int .i64 0, .int .i64 0, .slice none 0 0, .int .i64 0, .int .i64 0, .slice none 0 0, .slice none 0 0] 34 (0, 0))) ∧ Hid (wr.heap[W1.heap.size]? = some (.cells #[.int .i64 0, .int .i64 g.t, .int .i64 0, .int .i64 (N : Nat), .int .i64 0, .int .i64 0, .slice ao (ints []).length ac] 68 (0, 0))) ∧ Hid (w.heap.size ∉ S2 ∧ w.heap.size + 1 ∉ S2 ∧ W1.heap.size ∉ S2)) (fun i _ => N - (intOf i).toNat)
      case atStart => exact ⟨0, S1, s1, [], .slice none 0 0, rfl, by omega, rfl, HR1, HI5, HS5, Lib.hid (RowO.nil _ _ _), HV5, HRB5, HG5, HNS⟩
      case round =>
        obtain ⟨j, S2, s2, xs, u, rfl, hj, rfl, hrun, HI2, HS2, HRO, HVB, HRB, HGB, HNS2⟩ := hrel
        by_cases hlt : xs.length < N
        case pos =>
          have hq := hrun.out
          rw [show N - xs.length = (N - (xs.length + 1)) + 1 by omega, List.replicate_succ, getL, Option.bind_eq_some_iff] at hq
          obtain ⟨q, hq1, hq2⟩ := hq
          have HQ2 := Lib.hid hq2
          have HGC := Lib.hid (fun W (hW : Step [] [] wr W) => HG.out S2 s2 W g.t (P.step HI2.out hW (by simp)) hgt.1 hgt.2 q hq1)
          obtain ⟨ui, uc, rfl⟩ : ∃ ui uc, u = .slice ui xs.length uc := by
            obtain ⟨A, c, h1, _⟩ := HRO.out.reads
            exact ⟨A, c, h1⟩
          clear hq1 hq2
          have c0 : wr.cell? ⟨w.heap.size, 0, none⟩ = some (.int .i64 14) := (cell_heap HVB.out _).trans rfl
          have c1 : wr.cell? ⟨w.heap.size, 1, none⟩ = some (.int .i64 0) := (cell_heap HVB.out _).trans rfl
          have c2 : wr.cell? ⟨w.heap.size, 2, none⟩ = some (.slice none 0 0) := (cell_heap HVB.out _).trans rfl
          have c3 : wr.cell? ⟨w.heap.size, 3, none⟩ = some (.int .i64 0) := (cell_heap HVB.out _).trans rfl
          have c4 : wr.cell? ⟨w.heap.size, 4, none⟩ = some (.int .i64 g.t) := (cell_heap HVB.out _).trans rfl
          have c5 : wr.cell? ⟨w.heap.size, 5, none⟩ = some (.slice none 0 0) := (cell_heap HVB.out _).trans rfl
          have c6 : wr.cell? ⟨w.heap.size, 6, none⟩ = some (.slice ui xs.length uc) := (cell_heap HVB.out _).trans rfl
          have g1 : wr.cell? ⟨W1.heap.size, 1, none⟩ = some (.int .i64 g.t) := (cell_heap HGB.out _).trans rfl
          go_wp2_with (fail)
          refine (typ_of _ _).mono ?_
          rintro e w' ⟨rfl, rfl⟩
          rw [hgt2]
          go_wp2_with (fail)
          refine (HGC.out wr (Step.refl [] wr)).mono ?_
          rintro e W3 ⟨ev3, cs3, S3, rfl, hO3, hE3, hI3, hs3⟩
          obtain ⟨A2, a2, A5, a5, A6, a6, hcs3, -⟩ := kVal_open hO3.now
          have hv3 := (hs3.block _ (lt_heap HVB.out) HNS2.out.1).trans HVB.out
          have hr3 := (hs3.block _ (lt_heap HRB.out) HNS2.out.2.1).trans HRB.out
          have hg3 := (hs3.block _ (lt_heap HGB.out) HNS2.out.2.2).trans HGB.out
          subst hcs3
          clear c0 c1 c2 c3 c4 c5 c6 g1
          have c0 : W3.cell? ⟨w.heap.size, 0, none⟩ = some (.int .i64 14) := (cell_heap hv3 _).trans rfl
          have c1 : W3.cell? ⟨w.heap.size, 1, none⟩ = some (.int .i64 0) := (cell_heap hv3 _).trans rfl
          have c2 : W3.cell? ⟨w.heap.size, 2, none⟩ = some (.slice none 0 0) := (cell_heap hv3 _).trans rfl
          have c3 : W3.cell? ⟨w.heap.size, 3, none⟩ = some (.int .i64 0) := (cell_heap hv3 _).trans rfl
          have c4 : W3.cell? ⟨w.heap.size, 4, none⟩ = some (.int .i64 g.t) := (cell_heap hv3 _).trans rfl
          have c5 : W3.cell? ⟨w.heap.size, 5, none⟩ = some (.slice none 0 0) := (cell_heap hv3 _).trans rfl
          have c6 : W3.cell? ⟨w.heap.size, 6, none⟩ = some (.slice ui xs.length uc) := (cell_heap hv3 _).trans rfl
          have hfz := frozen_heap hv3
          have HV3 := Lib.hid hv3
          have HR3 := Lib.hid hr3
          have HG3 := Lib.hid hg3
          have HO3 := Lib.hid hO3
          have HE3 := Lib.hid hE3
          have HI3 := Lib.hid hI3
          have HS3 := Lib.hid hs3
          have hlv3 := lt_heap hv3
          have hlr3 := lt_heap HRB.out
          have hlg3 := lt_heap HGB.out
          have hsz3 := hs3.size
          obtain ⟨hrow, hub, hot⟩ := RowO.carry (P := P) (s3 := q.2.2) HRO.out hs3 (.cells #[.int .i64 q.1.f0, .int .i64 q.1.f1, .slice A2 q.1.f2.length a2, .int .i64 q.1.f3, .int .i64 q.1.f4, .slice A5 q.1.f5.length a5, .slice A6 q.1.f6.length a6] 34) (.cells #[.int .i64 q.1.f0, .int .i64 q.1.f1, .slice A2 q.1.f2.length a2, .int .i64 q.1.f3, .int .i64 q.1.f4, .slice A5 q.1.f5.length a5, .slice A6 q.1.f6.length a6] 34)
          have hxa := HasO.apart (n := w.heap.size + 1) (GB := W1.heap.size) (u := .slice ui xs.length uc) hO3 hlr3 hlg3 hub (.cells #[.int .i64 q.1.f0, .int .i64 q.1.f1, .slice A2 q.1.f2.length a2, .int .i64 q.1.f3, .int .i64 q.1.f4, .slice A5 q.1.f5.length a5, .slice A6 q.1.f6.length a6] 34) (.cells #[.int .i64 q.1.f0, .int .i64 q.1.f1, .slice A2 q.1.f2.length a2, .int .i64 q.1.f3, .int .i64 q.1.f4, .slice A5 q.1.f5.length a5, .slice A6 q.1.f6.length a6] 34)
          obtain ⟨hrok, inner, hrown, hreps⟩ := hrow
          have HROK := Lib.hid hrok
          have HOT := Lib.hid hot
          have HROWN := Lib.hid hrown
          have HREPS := Lib.hid hreps
          have HXA := Lib.hid hxa
          obtain ⟨i0, hi, hz0, hz1, hz2⟩ := info_parts infoVal
          rcases hE3 with (⟨h0, rfl⟩ | ⟨bb, tt, er, ms, hk1, hk2, rfl, hbb⟩) | ⟨hk1, hk2, rfl⟩
          all_goals clear hv3 hr3 hg3 hO3 hI3 hs3 hrok hrown hreps hxa hub hot
          · go_wp2_with (at_builtin; (refine wpList_append_lies _ rfl _ _ _ rfl w.heap.size 34 i0 (.agg #[.int .i64 0, .int .i64 0, .slice none 0 0, .int .i64 0, .int .i64 0, .slice none 0 0, .slice none 0 0]) 7 104 Tryz.underlying32 hi hz0 hz1 hz2 rfl (by omega) _ _ _ rfl HROWN.out ⟨W3.heap.size + 1, 0, none⟩ 1 1 _ rfl ?_ (World.news_of_block (heap_alloc_at (by simp) _)) ?_ (by omega) ?_ ?_ ?_ _ rfl ?_); rfl; (intro x hx; simp at hx; rcases hx with rfl | rfl | rfl | rfl | rfl | rfl | rfl <;> rfl); (unfold maxLen; omega); omega; (simp <;> omega); intro g1 cap1 W4 hown hgrow hat hlt4; have hv4 := (hgrow.block w.heap.size (by simp <;> omega) (fun e => by have := (HROK.out _ e.symm).1; omega)).trans (heap_alloc_old (heap_alloc_old HV3.out _) _); have hr4 := (hgrow.block (w.heap.size + 1) (by simp <;> omega) (fun e => by have := (HROK.out _ e.symm).1; omega)).trans (heap_alloc_old (heap_alloc_old HR3.out _) _); have hg4 := (hgrow.block W1.heap.size (by simp <;> omega) (fun e => (HROK.out _ e.symm).2.2 rfl)).trans (heap_alloc_old (heap_alloc_old HG3.out _) _); have f0 : W4.cell? ⟨w.heap.size, 0, none⟩ = some (.int .i64 14) := (cell_heap hv4 _).trans rfl; have f1 : W4.cell? ⟨w.heap.size, 1, none⟩ = some (.int .i64 0) := (cell_heap hv4 _).trans rfl; have f2 : W4.cell? ⟨w.heap.size, 2, none⟩ = some (.slice none 0 0) := (cell_heap hv4 _).trans rfl; have f3 : W4.cell? ⟨w.heap.size, 3, none⟩ = some (.int .i64 0) := (cell_heap hv4 _).trans rfl; have f4 : W4.cell? ⟨w.heap.size, 4, none⟩ = some (.int .i64 g.t) := (cell_heap hv4 _).trans rfl; have f5 : W4.cell? ⟨w.heap.size, 5, none⟩ = some (.slice none 0 0) := (cell_heap hv4 _).trans rfl; have f6 : W4.cell? ⟨w.heap.size, 6, none⟩ = some (.slice ui xs.length uc) := (cell_heap hv4 _).trans rfl; have e0 : W4.cell? ⟨w.heap.size + 1, 0, none⟩ = some (.int .i64 0) := (cell_heap hr4 _).trans rfl; have e1 : W4.cell? ⟨w.heap.size + 1, 1, none⟩ = some (.int .i64 0) := (cell_heap hr4 _).trans rfl; have e2 : W4.cell? ⟨w.heap.size + 1, 2, none⟩ = some (.slice none 0 0) := (cell_heap hr4 _).trans rfl; have e3 : W4.cell? ⟨w.heap.size + 1, 3, none⟩ = some (.int .i64 0) := (cell_heap hr4 _).trans rfl; have e4 : W4.cell? ⟨w.heap.size + 1, 4, none⟩ = some (.int .i64 0) := (cell_heap hr4 _).trans rfl; have e5 : W4.cell? ⟨w.heap.size + 1, 5, none⟩ = some (.slice none 0 0) := (cell_heap hr4 _).trans rfl; have e6 : W4.cell? ⟨w.heap.size + 1, 6, none⟩ = some (.slice none 0 0) := (cell_heap hr4 _).trans rfl; have hfz4 := frozen_heap hv4; have hfr4 := frozen_heap hr4; have hpu := RowO.push HROK.out HREPS.out HXA.out ⟨by simp <;> omega, fun hm => by (have := P.lt HI3.out _ hm; simp at this; omega), by simp <;> omega⟩ hown hgrow hat; have hg4s := hgrow.size; have HPU := Lib.hid hpu; have HV4 := Lib.hid hv4; have HR4 := Lib.hid hr4; have HG4 := Lib.hid hg4; have HGR := Lib.hid hgrow; clear hv4 hr4 hg4 hpu hown hgrow hat)
            go_wp2
            have HS35 := Lib.hid (app_step HGR.out w.heap.size 6 (.slice (some ⟨g1, 0, none⟩) (xs.length + 1) cap1))
            have hnS3 : w.heap.size ∉ S3 ∧ w.heap.size + 1 ∉ S3 ∧ W1.heap.size ∉ S3 := by
              refine ⟨fun hm => ?_, fun hm => ?_, fun hm => ?_⟩
              · rcases HS3.out.own _ hm with h' | h'
                · exact HNS2.out.1 h'
                · omega
              · rcases HS3.out.own _ hm with h' | h'
                · exact HNS2.out.2.1 h'
                · omega
              · rcases HS3.out.own _ hm with h' | h'
                · exact HNS2.out.2.2 h'
                · omega
            have hOB : ∀ b, b ∈ w.heap.size :: (Value.slice ui xs.length uc).ownBlock.toList → w.heap.size ≤ b ∧ b ∉ S3 := fun b hb => by
              simp only [List.mem_cons, Option.mem_toList] at hb
              rcases hb with rfl | hb
              · exact ⟨Nat.le_refl _, hnS3.1⟩
              · have h' := HROK.out b hb
                exact ⟨by omega, h'.2.1⟩
            have hv5 : (W4.setCell ⟨w.heap.size, 6, none⟩ (.slice (some ⟨g1, 0, none⟩) (xs.length + 1) cap1)).heap[w.heap.size]? = some (.cells #[.int .i64 14, .int .i64 0, .slice none 0 0, .int .i64 0, .int .i64 g.t, .slice none 0 0, .slice (some ⟨g1, 0, none⟩) (xs.length + 1) cap1] 34 (0, 0)) := (heap_set_same (o := 6) HV4.out _).trans rfl
            have hr5 : (W4.setCell ⟨w.heap.size, 6, none⟩ (.slice (some ⟨g1, 0, none⟩) (xs.length + 1) cap1)).heap[w.heap.size + 1]? = some (.cells #[.int .i64 0, .int .i64 0, .slice none 0 0, .int .i64 0, .int .i64 0, .slice none 0 0, .slice none 0 0] 34 (0, 0)) := heap_set_other (p := ⟨w.heap.size, 6, none⟩) HR4.out (by show w.heap.size + 1 ≠ w.heap.size; omega) _
            have hg5 := heap_set_other (p := ⟨w.heap.size, 6, none⟩) HG4.out (by show W1.heap.size ≠ w.heap.size; omega) (.slice (some ⟨g1, 0, none⟩) (xs.length + 1) cap1)
            obtain ⟨hI5, hs5⟩ := gotV_end (HS2.out.trans HS3.out) HI3.out hOB HS35.out
            have hnx : getL gv (List.replicate (N - (xs.length + 1)) g.t) (xs ++ [q.1]) q.2.2 = some R := by
              have h' := HQ2.out
              rw [if_pos h0] at h'
              exact h'
            have hrow5 := HPU.out.move (w1 := W4.setCell ⟨w.heap.size, 6, none⟩ (.slice (some ⟨g1, 0, none⟩) (xs.length + 1) cap1)) (fun b hb _ => Below.heap_setCell _ _ _ _ (by show b ≠ w.heap.size; omega)) (by simp [World.setCell])
            exact ⟨⟨xs.length + 1, S3, q.2.2, xs ++ [q.1], _, by go_num, by omega, by simp, Lib.hid hnx, Lib.hid hI5, Lib.hid hs5, Lib.hid hrow5, Lib.hid hv5, Lib.hid hr5, Lib.hid hg5, Lib.hid hnS3⟩, by simp [intOf]; omega⟩
          · go_wp2_with (at_builtin; (refine wpList_append_lies _ rfl _ _ _ rfl w.heap.size 34 i0 (.agg #[.int .i64 0, .int .i64 0, .slice none 0 0, .int .i64 0, .int .i64 0, .slice none 0 0, .slice none 0 0]) 7 104 Tryz.underlying32 hi hz0 hz1 hz2 rfl (by omega) _ _ _ rfl HROWN.out ⟨W3.heap.size + 1, 0, none⟩ 1 1 _ rfl ?_ (World.news_of_block (heap_alloc_at (by simp) _)) ?_ (by omega) ?_ ?_ ?_ _ rfl ?_); rfl; (intro x hx; simp at hx; rcases hx with rfl | rfl | rfl | rfl | rfl | rfl | rfl <;> rfl); (unfold maxLen; omega); omega; (simp <;> omega); intro g1 cap1 W4 hown hgrow hat hlt4; have hv4 := (hgrow.block w.heap.size (by simp <;> omega) (fun e => by have := (HROK.out _ e.symm).1; omega)).trans (heap_alloc_old (heap_alloc_old HV3.out _) _); have hr4 := (hgrow.block (w.heap.size + 1) (by simp <;> omega) (fun e => by have := (HROK.out _ e.symm).1; omega)).trans (heap_alloc_old (heap_alloc_old HR3.out _) _); have hg4 := (hgrow.block W1.heap.size (by simp <;> omega) (fun e => (HROK.out _ e.symm).2.2 rfl)).trans (heap_alloc_old (heap_alloc_old HG3.out _) _); have f0 : W4.cell? ⟨w.heap.size, 0, none⟩ = some (.int .i64 14) := (cell_heap hv4 _).trans rfl; have f1 : W4.cell? ⟨w.heap.size, 1, none⟩ = some (.int .i64 0) := (cell_heap hv4 _).trans rfl; have f2 : W4.cell? ⟨w.heap.size, 2, none⟩ = some (.slice none 0 0) := (cell_heap hv4 _).trans rfl; have f3 : W4.cell? ⟨w.heap.size, 3, none⟩ = some (.int .i64 0) := (cell_heap hv4 _).trans rfl; have f4 : W4.cell? ⟨w.heap.size, 4, none⟩ = some (.int .i64 g.t) := (cell_heap hv4 _).trans rfl; have f5 : W4.cell? ⟨w.heap.size, 5, none⟩ = some (.slice none 0 0) := (cell_heap hv4 _).trans rfl; have f6 : W4.cell? ⟨w.heap.size, 6, none⟩ = some (.slice ui xs.length uc) := (cell_heap hv4 _).trans rfl; have e0 : W4.cell? ⟨w.heap.size + 1, 0, none⟩ = some (.int .i64 0) := (cell_heap hr4 _).trans rfl; have e1 : W4.cell? ⟨w.heap.size + 1, 1, none⟩ = some (.int .i64 0) := (cell_heap hr4 _).trans rfl; have e2 : W4.cell? ⟨w.heap.size + 1, 2, none⟩ = some (.slice none 0 0) := (cell_heap hr4 _).trans rfl; have e3 : W4.cell? ⟨w.heap.size + 1, 3, none⟩ = some (.int .i64 0) := (cell_heap hr4 _).trans rfl; have e4 : W4.cell? ⟨w.heap.size + 1, 4, none⟩ = some (.int .i64 0) := (cell_heap hr4 _).trans rfl; have e5 : W4.cell? ⟨w.heap.size + 1, 5, none⟩ = some (.slice none 0 0) := (cell_heap hr4 _).trans rfl; have e6 : W4.cell? ⟨w.heap.size + 1, 6, none⟩ = some (.slice none 0 0) := (cell_heap hr4 _).trans rfl; have hfz4 := frozen_heap hv4; have hfr4 := frozen_heap hr4; have hpu := RowO.push HROK.out HREPS.out HXA.out ⟨by simp <;> omega, fun hm => by (have := P.lt HI3.out _ hm; simp at this; omega), by simp <;> omega⟩ hown hgrow hat; have hg4s := hgrow.size; have HPU := Lib.hid hpu; have HV4 := Lib.hid hv4; have HR4 := Lib.hid hr4; have HG4 := Lib.hid hg4; have HGR := Lib.hid hgrow; clear hv4 hr4 hg4 hpu hown hgrow hat)
            go_wp2
            have HS35 := Lib.hid (app_step HGR.out w.heap.size 6 (.slice (some ⟨g1, 0, none⟩) (xs.length + 1) cap1))
            have hnS3 : w.heap.size ∉ S3 ∧ w.heap.size + 1 ∉ S3 ∧ W1.heap.size ∉ S3 := by
              refine ⟨fun hm => ?_, fun hm => ?_, fun hm => ?_⟩
              · rcases HS3.out.own _ hm with h' | h'
                · exact HNS2.out.1 h'
                · omega
              · rcases HS3.out.own _ hm with h' | h'
                · exact HNS2.out.2.1 h'
                · omega
              · rcases HS3.out.own _ hm with h' | h'
                · exact HNS2.out.2.2 h'
                · omega
            have hOB : ∀ b, b ∈ w.heap.size :: (Value.slice ui xs.length uc).ownBlock.toList → w.heap.size ≤ b ∧ b ∉ S3 := fun b hb => by
              simp only [List.mem_cons, Option.mem_toList] at hb
              rcases hb with rfl | hb
              · exact ⟨Nat.le_refl _, hnS3.1⟩
              · have h' := HROK.out b hb
                exact ⟨by omega, h'.2.1⟩
            have hv5 : (W4.setCell ⟨w.heap.size, 6, none⟩ (.slice (some ⟨g1, 0, none⟩) (xs.length + 1) cap1)).heap[w.heap.size]? = some (.cells #[.int .i64 14, .int .i64 0, .slice none 0 0, .int .i64 0, .int .i64 g.t, .slice none 0 0, .slice (some ⟨g1, 0, none⟩) (xs.length + 1) cap1] 34 (0, 0)) := (heap_set_same (o := 6) HV4.out _).trans rfl
            have hr5 : (W4.setCell ⟨w.heap.size, 6, none⟩ (.slice (some ⟨g1, 0, none⟩) (xs.length + 1) cap1)).heap[w.heap.size + 1]? = some (.cells #[.int .i64 0, .int .i64 0, .slice none 0 0, .int .i64 0, .int .i64 0, .slice none 0 0, .slice none 0 0] 34 (0, 0)) := heap_set_other (p := ⟨w.heap.size, 6, none⟩) HR4.out (by show w.heap.size + 1 ≠ w.heap.size; omega) _
            obtain ⟨W6, e2, h6, hs6⟩ := set7 hr5 (.int .i64 14) (.int .i64 0) (.slice none 0 0) (.int .i64 0) (.int .i64 g.t) (.slice none 0 0) (.slice (some ⟨g1, 0, none⟩) (xs.length + 1) cap1)
            rw [e2]
            have r0 : W6.cell? ⟨w.heap.size + 1, 0, none⟩ = some (.int .i64 14) := (cell_heap h6 _).trans rfl
            have r1 : W6.cell? ⟨w.heap.size + 1, 1, none⟩ = some (.int .i64 0) := (cell_heap h6 _).trans rfl
            have r2 : W6.cell? ⟨w.heap.size + 1, 2, none⟩ = some (.slice none 0 0) := (cell_heap h6 _).trans rfl
            have r3 : W6.cell? ⟨w.heap.size + 1, 3, none⟩ = some (.int .i64 0) := (cell_heap h6 _).trans rfl
            have r4 : W6.cell? ⟨w.heap.size + 1, 4, none⟩ = some (.int .i64 g.t) := (cell_heap h6 _).trans rfl
            have r5 : W6.cell? ⟨w.heap.size + 1, 5, none⟩ = some (.slice none 0 0) := (cell_heap h6 _).trans rfl
            have r6 : W6.cell? ⟨w.heap.size + 1, 6, none⟩ = some (.slice (some ⟨g1, 0, none⟩) (xs.length + 1) cap1) := (cell_heap h6 _).trans rfl
            refine bodyPost_ret (v := .tuple #[.agg #[.int .i64 14, .int .i64 0, .slice none 0 0, .int .i64 0, .int .i64 g.t, .slice none 0 0, .slice (some ⟨g1, 0, none⟩) (xs.length + 1) cap1], _]) (by simp [results, Tryz.results63, go_sem, *]; rfl) rfl ?_
            have hne : q.2.1 ≠ 0 := by omega
            have hha := HQ2.out
            rw [if_neg hne] at hha
            injection hha with hha
            subst hha
            have hrr := HR2.out
            rw [if_neg hne] at hrr
            injection hrr with hrr
            subst hrr
            have hs36 : Step ((w.heap.size + 1) :: w.heap.size :: (Value.slice ui xs.length uc).ownBlock.toList) ((w.heap.size + 1) :: w.heap.size :: (Value.slice ui xs.length uc).ownBlock.toList) W3 W6 := (HS35.out.more (S1 := ((w.heap.size + 1) :: w.heap.size :: (Value.slice ui xs.length uc).ownBlock.toList)) (T1 := ((w.heap.size + 1) :: w.heap.size :: (Value.slice ui xs.length uc).ownBlock.toList)) (fun k hk => List.mem_cons_of_mem _ hk) (fun k hk => .inr (.inl hk))).trans (hs6.more (S1 := ((w.heap.size + 1) :: w.heap.size :: (Value.slice ui xs.length uc).ownBlock.toList)) (T1 := ((w.heap.size + 1) :: w.heap.size :: (Value.slice ui xs.length uc).ownBlock.toList)) (fun k hk => by simp only [List.mem_cons, List.not_mem_nil, or_false] at hk; subst hk; exact List.mem_cons_self) (fun k hk => .inr (.inl hk)))
            obtain ⟨hI6, hs66⟩ := gotV_end (HS2.out.trans HS3.out) HI3.out (fun b hb => by
              rcases List.mem_cons.1 hb with rfl | hb
              · exact ⟨by omega, hnS3.2.1⟩
              · exact hOB b hb) hs36
            have hrow6 := HPU.out.move (w1 := W6) (fun b hb hlt => (hs6.block b (by simpa [World.setCell] using hlt) (by simp only [List.mem_cons, List.not_mem_nil, or_false]; omega)).trans (Below.heap_setCell _ _ _ _ (by show b ≠ w.heap.size; omega))) (by have := hs6.size; simpa [World.setCell] using this)
            exact ⟨_, [.int .i64 14, .int .i64 0, .slice none 0 0, .int .i64 0, .int .i64 g.t, .slice none 0 0, .slice (some ⟨g1, 0, none⟩) (xs.length + 1) cap1], S3, rfl, (hrow6.val 14 0 g.t).mono (fun b hb _ => ⟨by omega, hb.2.1⟩), HE3.out.step_at hs36 (fun b hb => by
              rcases List.mem_cons.1 hb with rfl | hb
              · exact ⟨_, _, _, HR3.out, by decide⟩
              rcases List.mem_cons.1 hb with rfl | hb
              · exact ⟨_, _, _, HV3.out, by decide⟩
              obtain ⟨cells, hcc⟩ := HOT.out b (Option.mem_toList.1 hb)
              exact ⟨_, _, _, hcc, by decide⟩), hI6, hs66⟩
          · go_wp2_with (at_builtin; (refine wpList_append_lies _ rfl _ _ _ rfl w.heap.size 34 i0 (.agg #[.int .i64 0, .int .i64 0, .slice none 0 0, .int .i64 0, .int .i64 0, .slice none 0 0, .slice none 0 0]) 7 104 Tryz.underlying32 hi hz0 hz1 hz2 rfl (by omega) _ _ _ rfl HROWN.out ⟨W3.heap.size + 1, 0, none⟩ 1 1 _ rfl ?_ (World.news_of_block (heap_alloc_at (by simp) _)) ?_ (by omega) ?_ ?_ ?_ _ rfl ?_); rfl; (intro x hx; simp at hx; rcases hx with rfl | rfl | rfl | rfl | rfl | rfl | rfl <;> rfl); (unfold maxLen; omega); omega; (simp <;> omega); intro g1 cap1 W4 hown hgrow hat hlt4; have hv4 := (hgrow.block w.heap.size (by simp <;> omega) (fun e => by have := (HROK.out _ e.symm).1; omega)).trans (heap_alloc_old (heap_alloc_old HV3.out _) _); have hr4 := (hgrow.block (w.heap.size + 1) (by simp <;> omega) (fun e => by have := (HROK.out _ e.symm).1; omega)).trans (heap_alloc_old (heap_alloc_old HR3.out _) _); have hg4 := (hgrow.block W1.heap.size (by simp <;> omega) (fun e => (HROK.out _ e.symm).2.2 rfl)).trans (heap_alloc_old (heap_alloc_old HG3.out _) _); have f0 : W4.cell? ⟨w.heap.size, 0, none⟩ = some (.int .i64 14) := (cell_heap hv4 _).trans rfl; have f1 : W4.cell? ⟨w.heap.size, 1, none⟩ = some (.int .i64 0) := (cell_heap hv4 _).trans rfl; have f2 : W4.cell? ⟨w.heap.size, 2, none⟩ = some (.slice none 0 0) := (cell_heap hv4 _).trans rfl; have f3 : W4.cell? ⟨w.heap.size, 3, none⟩ = some (.int .i64 0) := (cell_heap hv4 _).trans rfl; have f4 : W4.cell? ⟨w.heap.size, 4, none⟩ = some (.int .i64 g.t) := (cell_heap hv4 _).trans rfl; have f5 : W4.cell? ⟨w.heap.size, 5, none⟩ = some (.slice none 0 0) := (cell_heap hv4 _).trans rfl; have f6 : W4.cell? ⟨w.heap.size, 6, none⟩ = some (.slice ui xs.length uc) := (cell_heap hv4 _).trans rfl; have e0 : W4.cell? ⟨w.heap.size + 1, 0, none⟩ = some (.int .i64 0) := (cell_heap hr4 _).trans rfl; have e1 : W4.cell? ⟨w.heap.size + 1, 1, none⟩ = some (.int .i64 0) := (cell_heap hr4 _).trans rfl; have e2 : W4.cell? ⟨w.heap.size + 1, 2, none⟩ = some (.slice none 0 0) := (cell_heap hr4 _).trans rfl; have e3 : W4.cell? ⟨w.heap.size + 1, 3, none⟩ = some (.int .i64 0) := (cell_heap hr4 _).trans rfl; have e4 : W4.cell? ⟨w.heap.size + 1, 4, none⟩ = some (.int .i64 0) := (cell_heap hr4 _).trans rfl; have e5 : W4.cell? ⟨w.heap.size + 1, 5, none⟩ = some (.slice none 0 0) := (cell_heap hr4 _).trans rfl; have e6 : W4.cell? ⟨w.heap.size + 1, 6, none⟩ = some (.slice none 0 0) := (cell_heap hr4 _).trans rfl; have hfz4 := frozen_heap hv4; have hfr4 := frozen_heap hr4; have hpu := RowO.push HROK.out HREPS.out HXA.out ⟨by simp <;> omega, fun hm => by (have := P.lt HI3.out _ hm; simp at this; omega), by simp <;> omega⟩ hown hgrow hat; have hg4s := hgrow.size; have HPU := Lib.hid hpu; have HV4 := Lib.hid hv4; have HR4 := Lib.hid hr4; have HG4 := Lib.hid hg4; have HGR := Lib.hid hgrow; clear hv4 hr4 hg4 hpu hown hgrow hat)
            go_wp2
            have HS35 := Lib.hid (app_step HGR.out w.heap.size 6 (.slice (some ⟨g1, 0, none⟩) (xs.length + 1) cap1))
            have hnS3 : w.heap.size ∉ S3 ∧ w.heap.size + 1 ∉ S3 ∧ W1.heap.size ∉ S3 := by
              refine ⟨fun hm => ?_, fun hm => ?_, fun hm => ?_⟩
              · rcases HS3.out.own _ hm with h' | h'
                · exact HNS2.out.1 h'
                · omega
              · rcases HS3.out.own _ hm with h' | h'
                · exact HNS2.out.2.1 h'
                · omega
              · rcases HS3.out.own _ hm with h' | h'
                · exact HNS2.out.2.2 h'
                · omega
            have hOB : ∀ b, b ∈ w.heap.size :: (Value.slice ui xs.length uc).ownBlock.toList → w.heap.size ≤ b ∧ b ∉ S3 := fun b hb => by
              simp only [List.mem_cons, Option.mem_toList] at hb
              rcases hb with rfl | hb
              · exact ⟨Nat.le_refl _, hnS3.1⟩
              · have h' := HROK.out b hb
                exact ⟨by omega, h'.2.1⟩
            have hv5 : (W4.setCell ⟨w.heap.size, 6, none⟩ (.slice (some ⟨g1, 0, none⟩) (xs.length + 1) cap1)).heap[w.heap.size]? = some (.cells #[.int .i64 14, .int .i64 0, .slice none 0 0, .int .i64 0, .int .i64 g.t, .slice none 0 0, .slice (some ⟨g1, 0, none⟩) (xs.length + 1) cap1] 34 (0, 0)) := (heap_set_same (o := 6) HV4.out _).trans rfl
            have hr5 : (W4.setCell ⟨w.heap.size, 6, none⟩ (.slice (some ⟨g1, 0, none⟩) (xs.length + 1) cap1)).heap[w.heap.size + 1]? = some (.cells #[.int .i64 0, .int .i64 0, .slice none 0 0, .int .i64 0, .int .i64 0, .slice none 0 0, .slice none 0 0] 34 (0, 0)) := heap_set_other (p := ⟨w.heap.size, 6, none⟩) HR4.out (by show w.heap.size + 1 ≠ w.heap.size; omega) _
            obtain ⟨W6, e2, h6, hs6⟩ := set7 hr5 (.int .i64 14) (.int .i64 0) (.slice none 0 0) (.int .i64 0) (.int .i64 g.t) (.slice none 0 0) (.slice (some ⟨g1, 0, none⟩) (xs.length + 1) cap1)
            rw [e2]
            have r0 : W6.cell? ⟨w.heap.size + 1, 0, none⟩ = some (.int .i64 14) := (cell_heap h6 _).trans rfl
            have r1 : W6.cell? ⟨w.heap.size + 1, 1, none⟩ = some (.int .i64 0) := (cell_heap h6 _).trans rfl
            have r2 : W6.cell? ⟨w.heap.size + 1, 2, none⟩ = some (.slice none 0 0) := (cell_heap h6 _).trans rfl
            have r3 : W6.cell? ⟨w.heap.size + 1, 3, none⟩ = some (.int .i64 0) := (cell_heap h6 _).trans rfl
            have r4 : W6.cell? ⟨w.heap.size + 1, 4, none⟩ = some (.int .i64 g.t) := (cell_heap h6 _).trans rfl
            have r5 : W6.cell? ⟨w.heap.size + 1, 5, none⟩ = some (.slice none 0 0) := (cell_heap h6 _).trans rfl
            have r6 : W6.cell? ⟨w.heap.size + 1, 6, none⟩ = some (.slice (some ⟨g1, 0, none⟩) (xs.length + 1) cap1) := (cell_heap h6 _).trans rfl
            refine bodyPost_ret (v := .tuple #[.agg #[.int .i64 14, .int .i64 0, .slice none 0 0, .int .i64 0, .int .i64 g.t, .slice none 0 0, .slice (some ⟨g1, 0, none⟩) (xs.length + 1) cap1], _]) (by simp [results, Tryz.results63, go_sem, *]; rfl) rfl ?_
            have hne : q.2.1 ≠ 0 := by omega
            have hha := HQ2.out
            rw [if_neg hne] at hha
            injection hha with hha
            subst hha
            have hrr := HR2.out
            rw [if_neg hne] at hrr
            injection hrr with hrr
            subst hrr
            have hs36 : Step ((w.heap.size + 1) :: w.heap.size :: (Value.slice ui xs.length uc).ownBlock.toList) ((w.heap.size + 1) :: w.heap.size :: (Value.slice ui xs.length uc).ownBlock.toList) W3 W6 := (HS35.out.more (S1 := ((w.heap.size + 1) :: w.heap.size :: (Value.slice ui xs.length uc).ownBlock.toList)) (T1 := ((w.heap.size + 1) :: w.heap.size :: (Value.slice ui xs.length uc).ownBlock.toList)) (fun k hk => List.mem_cons_of_mem _ hk) (fun k hk => .inr (.inl hk))).trans (hs6.more (S1 := ((w.heap.size + 1) :: w.heap.size :: (Value.slice ui xs.length uc).ownBlock.toList)) (T1 := ((w.heap.size + 1) :: w.heap.size :: (Value.slice ui xs.length uc).ownBlock.toList)) (fun k hk => by simp only [List.mem_cons, List.not_mem_nil, or_false] at hk; subst hk; exact List.mem_cons_self) (fun k hk => .inr (.inl hk)))
            obtain ⟨hI6, hs66⟩ := gotV_end (HS2.out.trans HS3.out) HI3.out (fun b hb => by
              rcases List.mem_cons.1 hb with rfl | hb
              · exact ⟨by omega, hnS3.2.1⟩
              · exact hOB b hb) hs36
            have hrow6 := HPU.out.move (w1 := W6) (fun b hb hlt => (hs6.block b (by simpa [World.setCell] using hlt) (by simp only [List.mem_cons, List.not_mem_nil, or_false]; omega)).trans (Below.heap_setCell _ _ _ _ (by show b ≠ w.heap.size; omega))) (by have := hs6.size; simpa [World.setCell] using this)
            exact ⟨_, [.int .i64 14, .int .i64 0, .slice none 0 0, .int .i64 0, .int .i64 g.t, .slice none 0 0, .slice (some ⟨g1, 0, none⟩) (xs.length + 1) cap1], S3, rfl, (hrow6.val 14 0 g.t).mono (fun b hb _ => ⟨by omega, hb.2.1⟩), HE3.out.step_at hs36 (fun b hb => by
              rcases List.mem_cons.1 hb with rfl | hb
              · exact ⟨_, _, _, HR3.out, by decide⟩
              rcases List.mem_cons.1 hb with rfl | hb
              · exact ⟨_, _, _, HV3.out, by decide⟩
              obtain ⟨cells, hcc⟩ := HOT.out b (Option.mem_toList.1 hb)
              exact ⟨_, _, _, hcc, by decide⟩), hI6, hs66⟩
        case neg =>
          obtain ⟨ui, uc, rfl⟩ : ∃ ui uc, u = .slice ui xs.length uc := by
            obtain ⟨A, c, h1, _⟩ := HRO.out.reads
            exact ⟨A, c, h1⟩
          have hq := hrun.out
          rw [show N - xs.length = 0 by omega, List.replicate_zero, getL] at hq
          injection hq with hq
          subst hq
          have hrr := HR2.out
          rw [if_pos rfl, Option.map_eq_some_iff] at hrr
          obtain ⟨b, hb1, hrr⟩ := hrr
          subst hrr
          have HO9 := Lib.hid (fun W (hW : Step [] [] wr W) => begun_setE P (.int .i64 0) (.int .i64 0) (.int .i64 0) (.int .i64 0) (.int .i64 0) (.slice none 0 0) (P.step HI2.out hW (by simp)) hb1)
          have c0 : wr.cell? ⟨w.heap.size, 0, none⟩ = some (.int .i64 14) := (cell_heap HVB.out _).trans rfl
          have c1 : wr.cell? ⟨w.heap.size, 1, none⟩ = some (.int .i64 0) := (cell_heap HVB.out _).trans rfl
          have c2 : wr.cell? ⟨w.heap.size, 2, none⟩ = some (.slice none 0 0) := (cell_heap HVB.out _).trans rfl
          have c3 : wr.cell? ⟨w.heap.size, 3, none⟩ = some (.int .i64 0) := (cell_heap HVB.out _).trans rfl
          have c4 : wr.cell? ⟨w.heap.size, 4, none⟩ = some (.int .i64 g.t) := (cell_heap HVB.out _).trans rfl
          have c5 : wr.cell? ⟨w.heap.size, 5, none⟩ = some (.slice none 0 0) := (cell_heap HVB.out _).trans rfl
          have c6 : wr.cell? ⟨w.heap.size, 6, none⟩ = some (.slice ui xs.length uc) := (cell_heap HVB.out _).trans rfl
          have d0 : wr.cell? ⟨w.heap.size + 1, 0, none⟩ = some (.int .i64 0) := (cell_heap HRB.out _).trans rfl
          have d1 : wr.cell? ⟨w.heap.size + 1, 1, none⟩ = some (.int .i64 0) := (cell_heap HRB.out _).trans rfl
          have d2 : wr.cell? ⟨w.heap.size + 1, 2, none⟩ = some (.slice none 0 0) := (cell_heap HRB.out _).trans rfl
          have d3 : wr.cell? ⟨w.heap.size + 1, 3, none⟩ = some (.int .i64 0) := (cell_heap HRB.out _).trans rfl
          have d4 : wr.cell? ⟨w.heap.size + 1, 4, none⟩ = some (.int .i64 0) := (cell_heap HRB.out _).trans rfl
          have d5 : wr.cell? ⟨w.heap.size + 1, 5, none⟩ = some (.slice none 0 0) := (cell_heap HRB.out _).trans rfl
          have d6 : wr.cell? ⟨w.heap.size + 1, 6, none⟩ = some (.slice none 0 0) := (cell_heap HRB.out _).trans rfl
          have hfz := frozen_heap HVB.out
          have hfr := frozen_heap HRB.out
          clear hb1
          go_wp2_with (fail)
          refine (HO9.out wr (Step.refl [] wr)).mono ?_
          rintro e W3 ⟨ev3, vb3, kb3, S3, rfl, hB3, hkb3, hkS3, he3, hI3, hs3⟩
          have hv3 := (hs3.block _ (lt_heap HVB.out) HNS2.out.1).trans HVB.out
          have hr3 := (hs3.block _ (lt_heap HRB.out) HNS2.out.2.1).trans HRB.out
          have hlr3 := lt_heap HRB.out
          have hrow2 : RowO (fun b => (w.heap.size + 1 < b ∧ b ∉ S3) ∧ b ∉ S2) wr w.heap.size (.slice ui xs.length uc) xs := HRO.out.mono (fun b hb hlt2 => ⟨⟨hb.1, fun hm => by
            rcases hs3.own b hm with h3 | h3
            · exact hb.2.1 h3
            · omega⟩, hb.2.1⟩)
          have hrow3 := hrow2.move (fun b hb hlt2 => hs3.block b hlt2 hb.2) hs3.size
          have hn3 : w.heap.size + 1 ∉ S3 := fun hm => by
            rcases hs3.own _ hm with h' | h'
            · exact HNS2.out.2.1 h'
            · omega
          have HV3 := Lib.hid hv3
          have HR3 := Lib.hid hr3
          have HROW3 := Lib.hid hrow3
          have HE3 := Lib.hid he3
          have HI3 := Lib.hid hI3
          have HS3 := Lib.hid hs3
          clear c0 c1 c2 c3 c4 c5 c6 d0 d1 d2 d3 d4 d5 d6 hfz hfr hB3 hkb3 hkS3 he3 hI3 hs3 hrow2 hrow3
          have c0 : W3.cell? ⟨w.heap.size, 0, none⟩ = some (.int .i64 14) := (cell_heap hv3 _).trans rfl
          have c1 : W3.cell? ⟨w.heap.size, 1, none⟩ = some (.int .i64 0) := (cell_heap hv3 _).trans rfl
          have c2 : W3.cell? ⟨w.heap.size, 2, none⟩ = some (.slice none 0 0) := (cell_heap hv3 _).trans rfl
          have c3 : W3.cell? ⟨w.heap.size, 3, none⟩ = some (.int .i64 0) := (cell_heap hv3 _).trans rfl
          have c4 : W3.cell? ⟨w.heap.size, 4, none⟩ = some (.int .i64 g.t) := (cell_heap hv3 _).trans rfl
          have c5 : W3.cell? ⟨w.heap.size, 5, none⟩ = some (.slice none 0 0) := (cell_heap hv3 _).trans rfl
          have c6 : W3.cell? ⟨w.heap.size, 6, none⟩ = some (.slice ui xs.length uc) := (cell_heap hv3 _).trans rfl
          have d0 : W3.cell? ⟨w.heap.size + 1, 0, none⟩ = some (.int .i64 0) := (cell_heap hr3 _).trans rfl
          have d1 : W3.cell? ⟨w.heap.size + 1, 1, none⟩ = some (.int .i64 0) := (cell_heap hr3 _).trans rfl
          have d2 : W3.cell? ⟨w.heap.size + 1, 2, none⟩ = some (.slice none 0 0) := (cell_heap hr3 _).trans rfl
          have d3 : W3.cell? ⟨w.heap.size + 1, 3, none⟩ = some (.int .i64 0) := (cell_heap hr3 _).trans rfl
          have d4 : W3.cell? ⟨w.heap.size + 1, 4, none⟩ = some (.int .i64 0) := (cell_heap hr3 _).trans rfl
          have d5 : W3.cell? ⟨w.heap.size + 1, 5, none⟩ = some (.slice none 0 0) := (cell_heap hr3 _).trans rfl
          have d6 : W3.cell? ⟨w.heap.size + 1, 6, none⟩ = some (.slice none 0 0) := (cell_heap hr3 _).trans rfl
          have hfz := frozen_heap hv3
          have hfr := frozen_heap hr3
          clear hv3 hr3
          go_wp2
          obtain ⟨W6, e2, h6, hs6⟩ := set7 HR3.out (.int .i64 14) (.int .i64 0) (.slice none 0 0) (.int .i64 0) (.int .i64 g.t) (.slice none 0 0) (.slice ui xs.length uc)
          rw [e2]
          have r0 : W6.cell? ⟨w.heap.size + 1, 0, none⟩ = some (.int .i64 14) := (cell_heap h6 _).trans rfl
          have r1 : W6.cell? ⟨w.heap.size + 1, 1, none⟩ = some (.int .i64 0) := (cell_heap h6 _).trans rfl
          have r2 : W6.cell? ⟨w.heap.size + 1, 2, none⟩ = some (.slice none 0 0) := (cell_heap h6 _).trans rfl
          have r3 : W6.cell? ⟨w.heap.size + 1, 3, none⟩ = some (.int .i64 0) := (cell_heap h6 _).trans rfl
          have r4 : W6.cell? ⟨w.heap.size + 1, 4, none⟩ = some (.int .i64 g.t) := (cell_heap h6 _).trans rfl
          have r5 : W6.cell? ⟨w.heap.size + 1, 5, none⟩ = some (.slice none 0 0) := (cell_heap h6 _).trans rfl
          have r6 : W6.cell? ⟨w.heap.size + 1, 6, none⟩ = some (.slice ui xs.length uc) := (cell_heap h6 _).trans rfl
          refine bodyPost_ret (v := .tuple #[.agg #[.int .i64 14, .int .i64 0, .slice none 0 0, .int .i64 0, .int .i64 g.t, .slice none 0 0, .slice ui xs.length uc], ev3]) (by simp [results, Tryz.results63, go_sem, *]) rfl ?_
          obtain ⟨hI6, hs66⟩ := gotV_end (HS2.out.trans HS3.out) HI3.out (fun b hb => by
            simp only [List.mem_cons, List.not_mem_nil, or_false] at hb
            subst hb
            exact ⟨by omega, hn3⟩) hs6
          have hrow6 := HROW3.out.move (w1 := W6) (fun b hb hlt2 => hs6.block b hlt2 (by simp only [List.mem_cons, List.not_mem_nil, or_false]; omega)) hs6.size
          exact ⟨_, [.int .i64 14, .int .i64 0, .slice none 0 0, .int .i64 0, .int .i64 g.t, .slice none 0 0, .slice ui xs.length uc], S3, rfl, (hrow6.val 14 0 g.t).mono (fun b hb _ => ⟨by omega, hb.1.2⟩), .inl (HE3.out.step_at hs6 (fun b hb => by
            simp only [List.mem_cons, List.not_mem_nil, or_false] at hb
            subst hb
            exact ⟨_, _, _, HR3.out, by decide⟩)), hI6, hs66⟩

end Go.Proofs.YtelocgemofghaaaGreatDoor

/-! A map's begin that is refused; values of a plain type are got by whatever protocol. -/
namespace Go.Proofs.YtelocgemofghaaaGreatDoor

open Go.RowKit Go.Deep

set_option linter.unusedVariables false

set_option linter.unusedSimpArgs false

open Go.Proofs.YtelocgemofghaaaGreatDoorW.PrintWords

set_option maxRecDepth 100000 in
set_option maxHeartbeats 2000000 in
theorem getMap_bad (P : PR) (D : Int) {S : List Nat} {s : P.σ} {w : World} (h : P.Is S s w) {g : RGot} {k : Nat} {s1 : P.σ} (hk : k ≠ 0) (hr : P.run s .mapB = some (g, k, s1)) :
    Calls Tryz.prog 62 #[.iface P.ty P.ptr, .int .i64 D] w (GotV P (⟨13, 0, [], 0, 0, [], []⟩, k, s1) S w) := by
  obtain ⟨hm, hn, hen⟩ := P.m_mapB
  have hc := ctx_any
  have hO : ∀ W, Step [] [] w W → Calls Tryz.prog (P.fn "ReadMapBegin") #[P.ptr, ctxV] W (TellsV P.Is (fun ev => .tuple #[.int .u8 g.k, .int .u8 g.t, .int .i64 g.size, ev]) k s1 S W) := fun W hW => P.at_ h hr W hW
  have HO := Lib.hid hO
  have HF := Lib.hid (P.lt h)
  clear hO hr h
  go_enter Tryz.func62, Tryz.ntmps62
  go_wp2_with (fail)
  go_region_held3 (fun _ => True) (trivial)
    (first
      | (go_at_call 53; refine (hc _).mono ?_; rintro e w' ⟨rfl, rfl⟩)
      | (refine (HO.out _ ?_).mono ?_; exact (((Step.refl _ _).alloc _).alloc _).drew; rintro e W1 ⟨ev, S1, rfl, he, hI, hs⟩; have hbr := (hs.block w.heap.size (by simp <;> omega) (fun hm => by have := HF.out _ hm; omega)).trans (heap_alloc_old (heap_alloc_new w _) _); have hbv := (hs.block (w.heap.size + 1) (by simp) (fun hm => by have := HF.out _ hm; omega)).trans (heap_alloc_at (by simp) _); have d0 : W1.cell? ⟨w.heap.size, 0, none⟩ = some (.int .i64 0) := (cell_heap hbr _).trans rfl; have d1 : W1.cell? ⟨w.heap.size, 1, none⟩ = some (.int .i64 0) := (cell_heap hbr _).trans rfl; have d2 : W1.cell? ⟨w.heap.size, 2, none⟩ = some (.slice none 0 0) := (cell_heap hbr _).trans rfl; have d3 : W1.cell? ⟨w.heap.size, 3, none⟩ = some (.int .i64 0) := (cell_heap hbr _).trans rfl; have d4 : W1.cell? ⟨w.heap.size, 4, none⟩ = some (.int .i64 0) := (cell_heap hbr _).trans rfl; have d5 : W1.cell? ⟨w.heap.size, 5, none⟩ = some (.slice none 0 0) := (cell_heap hbr _).trans rfl; have d6 : W1.cell? ⟨w.heap.size, 6, none⟩ = some (.slice none 0 0) := (cell_heap hbr _).trans rfl; have c0 : W1.cell? ⟨w.heap.size + 1, 0, none⟩ = some (.int .i64 13) := (cell_heap hbv _).trans rfl; have c1 : W1.cell? ⟨w.heap.size + 1, 1, none⟩ = some (.int .i64 0) := (cell_heap hbv _).trans rfl; have c2 : W1.cell? ⟨w.heap.size + 1, 2, none⟩ = some (.slice none 0 0) := (cell_heap hbv _).trans rfl; have c3 : W1.cell? ⟨w.heap.size + 1, 3, none⟩ = some (.int .i64 0) := (cell_heap hbv _).trans rfl; have c4 : W1.cell? ⟨w.heap.size + 1, 4, none⟩ = some (.int .i64 0) := (cell_heap hbv _).trans rfl; have c5 : W1.cell? ⟨w.heap.size + 1, 5, none⟩ = some (.slice none 0 0) := (cell_heap hbv _).trans rfl; have c6 : W1.cell? ⟨w.heap.size + 1, 6, none⟩ = some (.slice none 0 0) := (cell_heap hbv _).trans rfl; have hfr := frozen_heap hbr; have hfz := frozen_heap hbv; have hlr := lt_heap hbr; have hlv := lt_heap hbv; have HBR := Lib.hid hbr; have HBV := Lib.hid hbv; have HE := Lib.hid he; have HI := Lib.hid hI; have HS := Lib.hid hs; clear hI hs hbr hbv))
  all_goals (
    rcases he with ⟨h0, _⟩ | ⟨bb, tt, er, ms, hk1, hk2, rfl, hbb⟩
    · exact absurd h0 hk
    go_wp2
    obtain ⟨W6, e2, h6, hs6⟩ := set7 HBR.out (.int .i64 13) (.int .i64 0) (.slice none 0 0) (.int .i64 0) (.int .i64 0) (.slice none 0 0) (.slice none 0 0)
    rw [e2]
    have r0 : W6.cell? ⟨w.heap.size, 0, none⟩ = some (.int .i64 13) := (cell_heap h6 _).trans rfl
    have r1 : W6.cell? ⟨w.heap.size, 1, none⟩ = some (.int .i64 0) := (cell_heap h6 _).trans rfl
    have r2 : W6.cell? ⟨w.heap.size, 2, none⟩ = some (.slice none 0 0) := (cell_heap h6 _).trans rfl
    have r3 : W6.cell? ⟨w.heap.size, 3, none⟩ = some (.int .i64 0) := (cell_heap h6 _).trans rfl
    have r4 : W6.cell? ⟨w.heap.size, 4, none⟩ = some (.int .i64 0) := (cell_heap h6 _).trans rfl
    have r5 : W6.cell? ⟨w.heap.size, 5, none⟩ = some (.slice none 0 0) := (cell_heap h6 _).trans rfl
    have r6 : W6.cell? ⟨w.heap.size, 6, none⟩ = some (.slice none 0 0) := (cell_heap h6 _).trans rfl
    refine bodyPost_ret (v := .tuple #[.agg #[.int .i64 13, .int .i64 0, .slice none 0 0, .int .i64 0, .int .i64 0, .slice none 0 0, .slice none 0 0], .iface 221 (.pointer (some ⟨bb, 0, none⟩))]) (by simp [results, Tryz.results62, go_sem, *]) rfl ?_
    obtain ⟨hI6, hs66⟩ := gotV_end ((((Step.refl S w).alloc _).alloc _).drew.trans HS.out) HI.out (fun b hb => by
      simp only [List.mem_cons, List.not_mem_nil, or_false] at hb
      subst hb
      refine ⟨Nat.le_refl _, fun hm => ?_⟩
      rcases HS.out.own _ hm with h1 | h1
      · have := HF.out _ h1; omega
      · simp at h1; omega) hs6
    exact ⟨_, [.int .i64 13, .int .i64 0, .slice none 0 0, .int .i64 0, .int .i64 0, .slice none 0 0, .slice none 0 0], S1, rfl, (RowO.nil _ _ 0).val 13 0 0, .inl (HE.out.step_at hs6 (fun b hb => by
      simp only [List.mem_cons, List.not_mem_nil, or_false] at hb
      subst hb
      exact ⟨_, _, _, HBR.out, by decide⟩)), hI6, hs66⟩)

end Go.Proofs.YtelocgemofghaaaGreatDoor

/-! Values of some types are got by whatever protocol. -/
namespace Go.Proofs.YtelocgemofghaaaGreatDoor

open Go.RowKit Go.Deep

set_option linter.unusedVariables false

set_option linter.unusedSimpArgs false

open Go.Proofs.YtelocgemofghaaaGreatDoorW.PrintWords

theorem GotV.back {P : PR} {r : Val × Nat × P.σ} {S : List Nat} {w W w' : World} {e : Ending} (h : GotV P r S W e w') (hW : Step [] [] w W) : GotV P r S w e w' := by
  obtain ⟨ev, cs, S', h1, h2, h3, h4, h5⟩ := h
  exact ⟨ev, cs, S', h1, h2.mono (fun b hb _ => ⟨Nat.le_trans hW.size hb.1, hb.2⟩), h3, h4, (hW.more (S1 := S) (T1 := S) (by simp) (fun k hk => .inr (.inl hk))).trans h5⟩

set_option maxRecDepth 100000 in
set_option maxHeartbeats 2000000 in
theorem get_lst (P : PR) (D : Int) (hD : 1 ≤ D ∧ D < 9223372036854775808) {S : List Nat} {s : P.σ} {w : World} (h : P.Is S s w) {r : Val × Nat × P.σ}
    (hc : ∀ W, Step [] [] w W → Calls Tryz.prog 63 #[.iface P.ty P.ptr, .agg #[.int .i64 15, .int .i64 0, .slice none 0 0, .int .i64 0, .int .i64 0, .slice none 0 0, .slice none 0 0], .int .i64 9, .int .i64 D] W (GotV P r S W)) :
    Calls Tryz.prog 41 #[.iface P.ty P.ptr, .int .u8 15, .int .i64 D] w (GotV P r S w) := by
  have HC := Lib.hid hc
  have HF := Lib.hid (P.lt h)
  clear hc h
  go_enter Tryz.func41, Tryz.ntmps41
  go_wp2_with (fail)
  refine (HC.out _ ((((Step.refl [] w).alloc _).alloc _).alloc _)).mono ?_
  rintro e W1 ⟨ev, cs, S1, rfl, hO, hE, hI, hs⟩
  obtain ⟨A2, a2, A5, a5, A6, a6, rfl, -⟩ := kVal_open hO.now
  have hbr := (hs.block w.heap.size (by simp <;> omega) (fun hm => by have := HF.out _ hm; omega)).trans (heap_alloc_old (heap_alloc_old (heap_alloc_new w _) _) _)
  have d0 : W1.cell? ⟨w.heap.size, 0, none⟩ = some (.int .i64 0) := (cell_heap hbr _).trans rfl
  have d1 : W1.cell? ⟨w.heap.size, 1, none⟩ = some (.int .i64 0) := (cell_heap hbr _).trans rfl
  have d2 : W1.cell? ⟨w.heap.size, 2, none⟩ = some (.slice none 0 0) := (cell_heap hbr _).trans rfl
  have d3 : W1.cell? ⟨w.heap.size, 3, none⟩ = some (.int .i64 0) := (cell_heap hbr _).trans rfl
  have d4 : W1.cell? ⟨w.heap.size, 4, none⟩ = some (.int .i64 0) := (cell_heap hbr _).trans rfl
  have d5 : W1.cell? ⟨w.heap.size, 5, none⟩ = some (.slice none 0 0) := (cell_heap hbr _).trans rfl
  have d6 : W1.cell? ⟨w.heap.size, 6, none⟩ = some (.slice none 0 0) := (cell_heap hbr _).trans rfl
  have hfr := frozen_heap hbr
  have hlr := lt_heap hbr
  have HBR := Lib.hid hbr
  have HO := Lib.hid hO
  have HE := Lib.hid hE
  have HI := Lib.hid hI
  have HS := Lib.hid hs
  clear hbr hO hE hI hs
  go_wp2
  obtain ⟨W6, e2, h6, hs6⟩ := set7 HBR.out (.int .i64 r.1.f0) (.int .i64 r.1.f1) (.slice A2 r.1.f2.length a2) (.int .i64 r.1.f3) (.int .i64 r.1.f4) (.slice A5 r.1.f5.length a5) (.slice A6 r.1.f6.length a6)
  rw [e2]
  have r0 : W6.cell? ⟨w.heap.size, 0, none⟩ = some (.int .i64 r.1.f0) := (cell_heap h6 _).trans rfl
  have r1 : W6.cell? ⟨w.heap.size, 1, none⟩ = some (.int .i64 r.1.f1) := (cell_heap h6 _).trans rfl
  have r2 : W6.cell? ⟨w.heap.size, 2, none⟩ = some (.slice A2 r.1.f2.length a2) := (cell_heap h6 _).trans rfl
  have r3 : W6.cell? ⟨w.heap.size, 3, none⟩ = some (.int .i64 r.1.f3) := (cell_heap h6 _).trans rfl
  have r4 : W6.cell? ⟨w.heap.size, 4, none⟩ = some (.int .i64 r.1.f4) := (cell_heap h6 _).trans rfl
  have r5 : W6.cell? ⟨w.heap.size, 5, none⟩ = some (.slice A5 r.1.f5.length a5) := (cell_heap h6 _).trans rfl
  have r6 : W6.cell? ⟨w.heap.size, 6, none⟩ = some (.slice A6 r.1.f6.length a6) := (cell_heap h6 _).trans rfl
  refine bodyPost_ret (v := .tuple #[.agg #[.int .i64 r.1.f0, .int .i64 r.1.f1, .slice A2 r.1.f2.length a2, .int .i64 r.1.f3, .int .i64 r.1.f4, .slice A5 r.1.f5.length a5, .slice A6 r.1.f6.length a6], ev]) (by simp [results, Tryz.results41, go_sem, *]) rfl ?_
  obtain ⟨hI6, hs66⟩ := gotV_end (((((Step.refl S w).alloc _).alloc _).alloc _).trans HS.out) HI.out (fun b hb => by
    simp only [List.mem_cons, List.not_mem_nil, or_false] at hb
    subst hb
    refine ⟨Nat.le_refl _, fun hm => ?_⟩
    rcases HS.out.own _ hm with h1 | h1
    · have := HF.out _ h1; omega
    · simp at h1; omega) hs6
  have hO6 := HO.out.move (w1 := W6) (fun b hb hlt => hs6.block b hlt (by simp only [List.mem_cons, List.not_mem_nil, or_false]; have := hb.1; simp at this; omega)) hs6.size
  exact ⟨_, [.int .i64 r.1.f0, .int .i64 r.1.f1, .slice A2 r.1.f2.length a2, .int .i64 r.1.f3, .int .i64 r.1.f4, .slice A5 r.1.f5.length a5, .slice A6 r.1.f6.length a6], S1, rfl, hO6.mono (fun b hb _ => ⟨by have := hb.1; simp at this; omega, hb.2⟩), HE.out.step_at hs6 (fun b hb => by
    simp only [List.mem_cons, List.not_mem_nil, or_false] at hb
    subst hb
    exact ⟨_, _, _, HBR.out, by decide⟩), hI6, hs66⟩

set_option maxRecDepth 100000 in
set_option maxHeartbeats 2000000 in
theorem get_set (P : PR) (D : Int) (hD : 1 ≤ D ∧ D < 9223372036854775808) {S : List Nat} {s : P.σ} {w : World} (h : P.Is S s w) {r : Val × Nat × P.σ}
    (hc : ∀ W, Step [] [] w W → Calls Tryz.prog 63 #[.iface P.ty P.ptr, .agg #[.int .i64 14, .int .i64 0, .slice none 0 0, .int .i64 0, .int .i64 0, .slice none 0 0, .slice none 0 0], .int .i64 11, .int .i64 D] W (GotV P r S W)) :
    Calls Tryz.prog 41 #[.iface P.ty P.ptr, .int .u8 14, .int .i64 D] w (GotV P r S w) := by
  have HC := Lib.hid hc
  have HF := Lib.hid (P.lt h)
  clear hc h
  go_enter Tryz.func41, Tryz.ntmps41
  go_wp2_with (fail)
  refine (HC.out _ ((((Step.refl [] w).alloc _).alloc _).alloc _)).mono ?_
  rintro e W1 ⟨ev, cs, S1, rfl, hO, hE, hI, hs⟩
  obtain ⟨A2, a2, A5, a5, A6, a6, rfl, -⟩ := kVal_open hO.now
  have hbr := (hs.block w.heap.size (by simp <;> omega) (fun hm => by have := HF.out _ hm; omega)).trans (heap_alloc_old (heap_alloc_old (heap_alloc_new w _) _) _)
  have d0 : W1.cell? ⟨w.heap.size, 0, none⟩ = some (.int .i64 0) := (cell_heap hbr _).trans rfl
  have d1 : W1.cell? ⟨w.heap.size, 1, none⟩ = some (.int .i64 0) := (cell_heap hbr _).trans rfl
  have d2 : W1.cell? ⟨w.heap.size, 2, none⟩ = some (.slice none 0 0) := (cell_heap hbr _).trans rfl
  have d3 : W1.cell? ⟨w.heap.size, 3, none⟩ = some (.int .i64 0) := (cell_heap hbr _).trans rfl
  have d4 : W1.cell? ⟨w.heap.size, 4, none⟩ = some (.int .i64 0) := (cell_heap hbr _).trans rfl
  have d5 : W1.cell? ⟨w.heap.size, 5, none⟩ = some (.slice none 0 0) := (cell_heap hbr _).trans rfl
  have d6 : W1.cell? ⟨w.heap.size, 6, none⟩ = some (.slice none 0 0) := (cell_heap hbr _).trans rfl
  have hfr := frozen_heap hbr
  have hlr := lt_heap hbr
  have HBR := Lib.hid hbr
  have HO := Lib.hid hO
  have HE := Lib.hid hE
  have HI := Lib.hid hI
  have HS := Lib.hid hs
  clear hbr hO hE hI hs
  go_wp2
  obtain ⟨W6, e2, h6, hs6⟩ := set7 HBR.out (.int .i64 r.1.f0) (.int .i64 r.1.f1) (.slice A2 r.1.f2.length a2) (.int .i64 r.1.f3) (.int .i64 r.1.f4) (.slice A5 r.1.f5.length a5) (.slice A6 r.1.f6.length a6)
  rw [e2]
  have r0 : W6.cell? ⟨w.heap.size, 0, none⟩ = some (.int .i64 r.1.f0) := (cell_heap h6 _).trans rfl
  have r1 : W6.cell? ⟨w.heap.size, 1, none⟩ = some (.int .i64 r.1.f1) := (cell_heap h6 _).trans rfl
  have r2 : W6.cell? ⟨w.heap.size, 2, none⟩ = some (.slice A2 r.1.f2.length a2) := (cell_heap h6 _).trans rfl
  have r3 : W6.cell? ⟨w.heap.size, 3, none⟩ = some (.int .i64 r.1.f3) := (cell_heap h6 _).trans rfl
  have r4 : W6.cell? ⟨w.heap.size, 4, none⟩ = some (.int .i64 r.1.f4) := (cell_heap h6 _).trans rfl
  have r5 : W6.cell? ⟨w.heap.size, 5, none⟩ = some (.slice A5 r.1.f5.length a5) := (cell_heap h6 _).trans rfl
  have r6 : W6.cell? ⟨w.heap.size, 6, none⟩ = some (.slice A6 r.1.f6.length a6) := (cell_heap h6 _).trans rfl
  refine bodyPost_ret (v := .tuple #[.agg #[.int .i64 r.1.f0, .int .i64 r.1.f1, .slice A2 r.1.f2.length a2, .int .i64 r.1.f3, .int .i64 r.1.f4, .slice A5 r.1.f5.length a5, .slice A6 r.1.f6.length a6], ev]) (by simp [results, Tryz.results41, go_sem, *]) rfl ?_
  obtain ⟨hI6, hs66⟩ := gotV_end (((((Step.refl S w).alloc _).alloc _).alloc _).trans HS.out) HI.out (fun b hb => by
    simp only [List.mem_cons, List.not_mem_nil, or_false] at hb
    subst hb
    refine ⟨Nat.le_refl _, fun hm => ?_⟩
    rcases HS.out.own _ hm with h1 | h1
    · have := HF.out _ h1; omega
    · simp at h1; omega) hs6
  have hO6 := HO.out.move (w1 := W6) (fun b hb hlt => hs6.block b hlt (by simp only [List.mem_cons, List.not_mem_nil, or_false]; have := hb.1; simp at this; omega)) hs6.size
  exact ⟨_, [.int .i64 r.1.f0, .int .i64 r.1.f1, .slice A2 r.1.f2.length a2, .int .i64 r.1.f3, .int .i64 r.1.f4, .slice A5 r.1.f5.length a5, .slice A6 r.1.f6.length a6], S1, rfl, hO6.mono (fun b hb _ => ⟨by have := hb.1; simp at this; omega, hb.2⟩), HE.out.step_at hs6 (fun b hb => by
    simp only [List.mem_cons, List.not_mem_nil, or_false] at hb
    subst hb
    exact ⟨_, _, _, HBR.out, by decide⟩), hI6, hs66⟩

set_option maxRecDepth 100000 in
set_option maxHeartbeats 2000000 in
theorem get_map (P : PR) (D : Int) (hD : 1 ≤ D ∧ D < 9223372036854775808) {S : List Nat} {s : P.σ} {w : World} (h : P.Is S s w) {r : Val × Nat × P.σ}
    (hc : ∀ W, Step [] [] w W → Calls Tryz.prog 62 #[.iface P.ty P.ptr, .int .i64 D] W (GotV P r S W)) :
    Calls Tryz.prog 41 #[.iface P.ty P.ptr, .int .u8 13, .int .i64 D] w (GotV P r S w) := by
  have HC := Lib.hid hc
  have HF := Lib.hid (P.lt h)
  clear hc h
  go_enter Tryz.func41, Tryz.ntmps41
  go_wp2_with (fail)
  refine (HC.out _ ((((Step.refl [] w).alloc _).alloc _).alloc _)).mono ?_
  rintro e W1 ⟨ev, cs, S1, rfl, hO, hE, hI, hs⟩
  obtain ⟨A2, a2, A5, a5, A6, a6, rfl, -⟩ := kVal_open hO.now
  have hbr := (hs.block w.heap.size (by simp <;> omega) (fun hm => by have := HF.out _ hm; omega)).trans (heap_alloc_old (heap_alloc_old (heap_alloc_new w _) _) _)
  have d0 : W1.cell? ⟨w.heap.size, 0, none⟩ = some (.int .i64 0) := (cell_heap hbr _).trans rfl
  have d1 : W1.cell? ⟨w.heap.size, 1, none⟩ = some (.int .i64 0) := (cell_heap hbr _).trans rfl
  have d2 : W1.cell? ⟨w.heap.size, 2, none⟩ = some (.slice none 0 0) := (cell_heap hbr _).trans rfl
  have d3 : W1.cell? ⟨w.heap.size, 3, none⟩ = some (.int .i64 0) := (cell_heap hbr _).trans rfl
  have d4 : W1.cell? ⟨w.heap.size, 4, none⟩ = some (.int .i64 0) := (cell_heap hbr _).trans rfl
  have d5 : W1.cell? ⟨w.heap.size, 5, none⟩ = some (.slice none 0 0) := (cell_heap hbr _).trans rfl
  have d6 : W1.cell? ⟨w.heap.size, 6, none⟩ = some (.slice none 0 0) := (cell_heap hbr _).trans rfl
  have hfr := frozen_heap hbr
  have hlr := lt_heap hbr
  have HBR := Lib.hid hbr
  have HO := Lib.hid hO
  have HE := Lib.hid hE
  have HI := Lib.hid hI
  have HS := Lib.hid hs
  clear hbr hO hE hI hs
  go_wp2
  obtain ⟨W6, e2, h6, hs6⟩ := set7 HBR.out (.int .i64 r.1.f0) (.int .i64 r.1.f1) (.slice A2 r.1.f2.length a2) (.int .i64 r.1.f3) (.int .i64 r.1.f4) (.slice A5 r.1.f5.length a5) (.slice A6 r.1.f6.length a6)
  rw [e2]
  have r0 : W6.cell? ⟨w.heap.size, 0, none⟩ = some (.int .i64 r.1.f0) := (cell_heap h6 _).trans rfl
  have r1 : W6.cell? ⟨w.heap.size, 1, none⟩ = some (.int .i64 r.1.f1) := (cell_heap h6 _).trans rfl
  have r2 : W6.cell? ⟨w.heap.size, 2, none⟩ = some (.slice A2 r.1.f2.length a2) := (cell_heap h6 _).trans rfl
  have r3 : W6.cell? ⟨w.heap.size, 3, none⟩ = some (.int .i64 r.1.f3) := (cell_heap h6 _).trans rfl
  have r4 : W6.cell? ⟨w.heap.size, 4, none⟩ = some (.int .i64 r.1.f4) := (cell_heap h6 _).trans rfl
  have r5 : W6.cell? ⟨w.heap.size, 5, none⟩ = some (.slice A5 r.1.f5.length a5) := (cell_heap h6 _).trans rfl
  have r6 : W6.cell? ⟨w.heap.size, 6, none⟩ = some (.slice A6 r.1.f6.length a6) := (cell_heap h6 _).trans rfl
  refine bodyPost_ret (v := .tuple #[.agg #[.int .i64 r.1.f0, .int .i64 r.1.f1, .slice A2 r.1.f2.length a2, .int .i64 r.1.f3, .int .i64 r.1.f4, .slice A5 r.1.f5.length a5, .slice A6 r.1.f6.length a6], ev]) (by simp [results, Tryz.results41, go_sem, *]) rfl ?_
  obtain ⟨hI6, hs66⟩ := gotV_end (((((Step.refl S w).alloc _).alloc _).alloc _).trans HS.out) HI.out (fun b hb => by
    simp only [List.mem_cons, List.not_mem_nil, or_false] at hb
    subst hb
    refine ⟨Nat.le_refl _, fun hm => ?_⟩
    rcases HS.out.own _ hm with h1 | h1
    · have := HF.out _ h1; omega
    · simp at h1; omega) hs6
  have hO6 := HO.out.move (w1 := W6) (fun b hb hlt => hs6.block b hlt (by simp only [List.mem_cons, List.not_mem_nil, or_false]; have := hb.1; simp at this; omega)) hs6.size
  exact ⟨_, [.int .i64 r.1.f0, .int .i64 r.1.f1, .slice A2 r.1.f2.length a2, .int .i64 r.1.f3, .int .i64 r.1.f4, .slice A5 r.1.f5.length a5, .slice A6 r.1.f6.length a6], S1, rfl, hO6.mono (fun b hb _ => ⟨by have := hb.1; simp at this; omega, hb.2⟩), HE.out.step_at hs6 (fun b hb => by
    simp only [List.mem_cons, List.not_mem_nil, or_false] at hb
    subst hb
    exact ⟨_, _, _, HBR.out, by decide⟩), hI6, hs66⟩

set_option maxRecDepth 100000 in
set_option maxHeartbeats 2000000 in
theorem get_str (P : PR) (D : Int) (hD : 1 ≤ D ∧ D < 9223372036854775808) {S : List Nat} {s : P.σ} {w : World} (h : P.Is S s w) {g : RGot} {k : Nat} {s1 : P.σ} (hr : P.run s .str = some (g, k, s1)) :
    Calls Tryz.prog 41 #[.iface P.ty P.ptr, .int .u8 11, .int .i64 D] w (GotV P (⟨11, 0, ints g.s, 0, 0, [], []⟩, k, s1) S w) := by
  have HC := Lib.hid (fun W (hW : Step [] [] w W) => read_str P (.int .i64 0) (.int .i64 0) (.int .i64 0) (.int .i64 0) (.int .i64 0) (.slice none 0 0) (P.step h hW (by simp)) hr)
  have HF := Lib.hid (P.lt h)
  clear hr h
  go_enter Tryz.func41, Tryz.ntmps41
  go_wp2_with (fail)
  refine (HC.out _ ((((Step.refl [] w).alloc _).alloc _).alloc _)).mono ?_
  rintro e W1 ⟨ev, vb, kb, S1, rfl, hB, hkb, hkS, hE, hI, hs⟩
  obtain ⟨vo, vc, hv, _, _⟩ := hB.ints
  subst hv
  have hn : ∀ b, w.heap.size ≤ b → b < w.heap.size + 3 → b ∉ S1 := fun b h1 h2 hm => by
    rcases hs.own b hm with h3 | h3
    · have := HF.out _ h3; omega
    · simp at h3; omega
  have hbr := (hs.block w.heap.size (by simp <;> omega) (fun hm => by have := HF.out _ hm; omega)).trans (heap_alloc_old (heap_alloc_old (heap_alloc_new w _) _) _)
  have hbv := (hs.block (w.heap.size + 1) (by simp <;> omega) (fun hm => by have := HF.out _ hm; omega)).trans (heap_alloc_old (heap_alloc_at (by simp) _) _)
  have hbg := (hs.block (w.heap.size + 1 + 1) (by simp) (fun hm => by have := HF.out _ hm; omega)).trans (heap_alloc_at (by simp) _)
  have d0 : W1.cell? ⟨w.heap.size, 0, none⟩ = some (.int .i64 0) := (cell_heap hbr _).trans rfl
  have d1 : W1.cell? ⟨w.heap.size, 1, none⟩ = some (.int .i64 0) := (cell_heap hbr _).trans rfl
  have d2 : W1.cell? ⟨w.heap.size, 2, none⟩ = some (.slice none 0 0) := (cell_heap hbr _).trans rfl
  have d3 : W1.cell? ⟨w.heap.size, 3, none⟩ = some (.int .i64 0) := (cell_heap hbr _).trans rfl
  have d4 : W1.cell? ⟨w.heap.size, 4, none⟩ = some (.int .i64 0) := (cell_heap hbr _).trans rfl
  have d5 : W1.cell? ⟨w.heap.size, 5, none⟩ = some (.slice none 0 0) := (cell_heap hbr _).trans rfl
  have d6 : W1.cell? ⟨w.heap.size, 6, none⟩ = some (.slice none 0 0) := (cell_heap hbr _).trans rfl
  have c0 : W1.cell? ⟨w.heap.size + 1, 0, none⟩ = some (.int .i64 11) := (cell_heap hbv _).trans rfl
  have c1 : W1.cell? ⟨w.heap.size + 1, 1, none⟩ = some (.int .i64 0) := (cell_heap hbv _).trans rfl
  have c2 : W1.cell? ⟨w.heap.size + 1, 2, none⟩ = some (.slice none 0 0) := (cell_heap hbv _).trans rfl
  have c3 : W1.cell? ⟨w.heap.size + 1, 3, none⟩ = some (.int .i64 0) := (cell_heap hbv _).trans rfl
  have c4 : W1.cell? ⟨w.heap.size + 1, 4, none⟩ = some (.int .i64 0) := (cell_heap hbv _).trans rfl
  have c5 : W1.cell? ⟨w.heap.size + 1, 5, none⟩ = some (.slice none 0 0) := (cell_heap hbv _).trans rfl
  have c6 : W1.cell? ⟨w.heap.size + 1, 6, none⟩ = some (.slice none 0 0) := (cell_heap hbv _).trans rfl
  have b0 : W1.cell? ⟨w.heap.size + 1 + 1, 0, none⟩ = some (.int .i64 0) := (cell_heap hbg _).trans rfl
  have b1 : W1.cell? ⟨w.heap.size + 1 + 1, 1, none⟩ = some (.int .i64 0) := (cell_heap hbg _).trans rfl
  have b2 : W1.cell? ⟨w.heap.size + 1 + 1, 2, none⟩ = some (.int .i64 0) := (cell_heap hbg _).trans rfl
  have b3 : W1.cell? ⟨w.heap.size + 1 + 1, 3, none⟩ = some (.int .i64 0) := (cell_heap hbg _).trans rfl
  have b4 : W1.cell? ⟨w.heap.size + 1 + 1, 4, none⟩ = some (.int .i64 0) := (cell_heap hbg _).trans rfl
  have b5 : W1.cell? ⟨w.heap.size + 1 + 1, 5, none⟩ = some (.int .i64 0) := (cell_heap hbg _).trans rfl
  have b6 : W1.cell? ⟨w.heap.size + 1 + 1, 6, none⟩ = some (.slice none 0 0) := (cell_heap hbg _).trans rfl
  have hfr := frozen_heap hbr
  have hfv := frozen_heap hbv
  have hfg := frozen_heap hbg
  have hlr := lt_heap hbr
  have hlv := lt_heap hbv
  have hlg := lt_heap hbg
  have HBR := Lib.hid hbr
  have HBV := Lib.hid hbv
  have HBG := Lib.hid hbg
  have HB := Lib.hid hB
  have HN := Lib.hid hn
  have HKB := Lib.hid (And.intro hkb hkS)
  have HE := Lib.hid hE
  have HI := Lib.hid hI
  have HS := Lib.hid hs
  clear hbr hbv hbg hB hn hkb hkS hE hI hs
  go_wp2
  obtain ⟨Wg, eg, hg, hsg⟩ := set7 HBG.out (.int .i64 0) (.int .i64 0) (.int .i64 0) (.int .i64 0) (.int .i64 0) (.int .i64 0) (.slice vo (ints g.s).length vc)
  rw [eg]
  have hv2 := (hsg.block (w.heap.size + 1) hlv (by simp)).trans HBV.out
  have hr2 := (hsg.block w.heap.size hlr (by simp <;> omega)).trans HBR.out
  have hlg2 := lt_heap hg
  clear d0 d1 d2 d3 d4 d5 d6 c0 c1 c2 c3 c4 c5 c6 b0 b1 b2 b3 b4 b5 b6 hfr hfv hfg eg
  have c0 : Wg.cell? ⟨w.heap.size + 1, 0, none⟩ = some (.int .i64 11) := (cell_heap hv2 _).trans rfl
  have c1 : Wg.cell? ⟨w.heap.size + 1, 1, none⟩ = some (.int .i64 0) := (cell_heap hv2 _).trans rfl
  have c2 : Wg.cell? ⟨w.heap.size + 1, 2, none⟩ = some (.slice none 0 0) := (cell_heap hv2 _).trans rfl
  have c3 : Wg.cell? ⟨w.heap.size + 1, 3, none⟩ = some (.int .i64 0) := (cell_heap hv2 _).trans rfl
  have c4 : Wg.cell? ⟨w.heap.size + 1, 4, none⟩ = some (.int .i64 0) := (cell_heap hv2 _).trans rfl
  have c5 : Wg.cell? ⟨w.heap.size + 1, 5, none⟩ = some (.slice none 0 0) := (cell_heap hv2 _).trans rfl
  have c6 : Wg.cell? ⟨w.heap.size + 1, 6, none⟩ = some (.slice none 0 0) := (cell_heap hv2 _).trans rfl
  have d0 : Wg.cell? ⟨w.heap.size, 0, none⟩ = some (.int .i64 0) := (cell_heap hr2 _).trans rfl
  have d1 : Wg.cell? ⟨w.heap.size, 1, none⟩ = some (.int .i64 0) := (cell_heap hr2 _).trans rfl
  have d2 : Wg.cell? ⟨w.heap.size, 2, none⟩ = some (.slice none 0 0) := (cell_heap hr2 _).trans rfl
  have d3 : Wg.cell? ⟨w.heap.size, 3, none⟩ = some (.int .i64 0) := (cell_heap hr2 _).trans rfl
  have d4 : Wg.cell? ⟨w.heap.size, 4, none⟩ = some (.int .i64 0) := (cell_heap hr2 _).trans rfl
  have d5 : Wg.cell? ⟨w.heap.size, 5, none⟩ = some (.slice none 0 0) := (cell_heap hr2 _).trans rfl
  have d6 : Wg.cell? ⟨w.heap.size, 6, none⟩ = some (.slice none 0 0) := (cell_heap hr2 _).trans rfl
  have b0 : Wg.cell? ⟨w.heap.size + 1 + 1, 0, none⟩ = some (.int .i64 0) := (cell_heap hg _).trans rfl
  have b1 : Wg.cell? ⟨w.heap.size + 1 + 1, 1, none⟩ = some (.int .i64 0) := (cell_heap hg _).trans rfl
  have b2 : Wg.cell? ⟨w.heap.size + 1 + 1, 2, none⟩ = some (.int .i64 0) := (cell_heap hg _).trans rfl
  have b3 : Wg.cell? ⟨w.heap.size + 1 + 1, 3, none⟩ = some (.int .i64 0) := (cell_heap hg _).trans rfl
  have b4 : Wg.cell? ⟨w.heap.size + 1 + 1, 4, none⟩ = some (.int .i64 0) := (cell_heap hg _).trans rfl
  have b5 : Wg.cell? ⟨w.heap.size + 1 + 1, 5, none⟩ = some (.int .i64 0) := (cell_heap hg _).trans rfl
  have b6 : Wg.cell? ⟨w.heap.size + 1 + 1, 6, none⟩ = some (.slice vo (ints g.s).length vc) := (cell_heap hg _).trans rfl
  have hfv := frozen_heap hv2
  have hfr := frozen_heap hr2
  have HV2 := Lib.hid hv2
  have HR2 := Lib.hid hr2
  have HSG := Lib.hid hsg
  clear hv2 hr2 hsg hg
  go_region_held3 (fun W' => W'.cell? ⟨w.heap.size + 1 + 1, 5, none⟩ = some (.int .i64 0) ∧ W'.cell? ⟨w.heap.size + 1 + 1, 6, none⟩ = some (.slice vo (ints g.s).length vc)) (first | exact ⟨b5, b6⟩ | (simp [go_sem, *]; done))
    (fail)
  all_goals go_wp2
  all_goals (
    obtain ⟨W6, e2, h6, hs6⟩ := set7 (heap_set_other (p := ⟨w.heap.size + 1, 2, none⟩) (heap_set_other (p := ⟨w.heap.size + 1, 1, none⟩) HR2.out (by show w.heap.size ≠ w.heap.size + 1; omega) (.int .i64 0)) (by show w.heap.size ≠ w.heap.size + 1; omega) (.slice vo (ints g.s).length vc)) (.int .i64 11) (.int .i64 0) (.slice vo (ints g.s).length vc) (.int .i64 0) (.int .i64 0) (.slice none 0 0) (.slice none 0 0)
    rw [e2]
    have h7 : W6.drew.heap[w.heap.size]? = some (.cells #[.int .i64 11, .int .i64 0, .slice vo (ints g.s).length vc, .int .i64 0, .int .i64 0, .slice none 0 0, .slice none 0 0] 34 (0, 0)) := h6
    have r0 : W6.drew.cell? ⟨w.heap.size, 0, none⟩ = some (.int .i64 11) := (cell_heap h7 _).trans rfl
    have r1 : W6.drew.cell? ⟨w.heap.size, 1, none⟩ = some (.int .i64 0) := (cell_heap h7 _).trans rfl
    have r2 : W6.drew.cell? ⟨w.heap.size, 2, none⟩ = some (.slice vo (ints g.s).length vc) := (cell_heap h7 _).trans rfl
    have r3 : W6.drew.cell? ⟨w.heap.size, 3, none⟩ = some (.int .i64 0) := (cell_heap h7 _).trans rfl
    have r4 : W6.drew.cell? ⟨w.heap.size, 4, none⟩ = some (.int .i64 0) := (cell_heap h7 _).trans rfl
    have r5 : W6.drew.cell? ⟨w.heap.size, 5, none⟩ = some (.slice none 0 0) := (cell_heap h7 _).trans rfl
    have r6 : W6.drew.cell? ⟨w.heap.size, 6, none⟩ = some (.slice none 0 0) := (cell_heap h7 _).trans rfl
    refine bodyPost_ret (v := .tuple #[.agg #[.int .i64 11, .int .i64 0, .slice vo (ints g.s).length vc, .int .i64 0, .int .i64 0, .slice none 0 0, .slice none 0 0], ev]) (by simp [results, Tryz.results41, go_sem, *]) rfl ?_
    have hs16 : Step [w.heap.size, w.heap.size + 1, w.heap.size + 1 + 1] [w.heap.size, w.heap.size + 1, w.heap.size + 1 + 1] W1 W6.drew := ((((HSG.out.more (S1 := [w.heap.size, w.heap.size + 1, w.heap.size + 1 + 1]) (T1 := [w.heap.size, w.heap.size + 1, w.heap.size + 1 + 1]) (by simp) (fun k hk => .inr (.inl hk))).setCell (p := ⟨w.heap.size + 1, 1, none⟩) (.inl (by simp)) _).setCell (p := ⟨w.heap.size + 1, 2, none⟩) (.inl (by simp)) _).trans (hs6.more (S1 := [w.heap.size, w.heap.size + 1, w.heap.size + 1 + 1]) (T1 := [w.heap.size, w.heap.size + 1, w.heap.size + 1 + 1]) (by simp) (fun k hk => .inr (.inl hk)))).drew
    obtain ⟨hI6, hs66⟩ := gotV_end (((((Step.refl S w).alloc _).alloc _).alloc _).trans HS.out) HI.out (fun b hb => by
      simp only [List.mem_cons, List.not_mem_nil, or_false] at hb
      exact ⟨by omega, HN.out b (by omega) (by omega)⟩) hs16
    have hkb1 := HKB.out.1
    simp at hkb1
    have hB6 := HB.out.step hs16 (by simp only [List.mem_cons, List.not_mem_nil, or_false]; omega)
    refine ⟨_, [.int .i64 11, .int .i64 0, .slice vo (ints g.s).length vc, .int .i64 0, .int .i64 0, .slice none 0 0, .slice none 0 0], S1, rfl, ⟨_, HasV.plain 11 0 g.s _ kb hB6, fun b hb => ⟨by omega, by rw [hb.1]; exact HKB.out.2⟩⟩, .inl (HE.out.step_at hs16 (fun b hb => by
      simp only [List.mem_cons, List.not_mem_nil, or_false] at hb
      rcases hb with rfl | rfl | rfl
      · exact ⟨_, _, _, HBR.out, by decide⟩
      · exact ⟨_, _, _, HBV.out, by decide⟩
      · exact ⟨_, _, _, HBG.out, by decide⟩)), hI6, hs66⟩)

end Go.Proofs.YtelocgemofghaaaGreatDoor

/-! A value is got of a memory buffer that has bytes, whatever the configuration. -/
namespace Go.Proofs.YtelocgemofghaaaGreatDoor

open Go.RowKit Go.Deep

set_option linter.unusedVariables false

set_option linter.unusedSimpArgs false

open Go.Proofs.YtelocgemofghaaaGreatDoorW.PrintWords

set_option maxRecDepth 100000 in
set_option maxHeartbeats 2000000 in
theorem Get_C (proto : Int) (plain rb sb : Bool) (ms ct fr : Int) (hf : (cfgOf plain rb sb ms ct fr).fit) (t D : Int)
    (B : Option Addr) (cB : Nat) (xs : List Int) (w : World) (hE : EofAt w) (hB : (Kd.int .u8).C w B xs.length xs) (h8 : ∀ x ∈ xs, 0 ≤ x ∧ x < 256) (hn1 : 1 ≤ xs.length) (hlim : xs.length ≤ 140737488355328)
    {V : Val} {k : Nat} (hk : k < 50) {st' : CSt} {rest : List UInt8}
    (hg : ∀ (m : Nat) (R : RP proto (cfgOf plain rb sb ms ct fr) m) (S : List Nat) (W : World), R.P.Is S (R.st (CR0, toB xs)) W → Calls Tryz.prog 41 #[.iface R.P.ty R.P.ptr, .int .u8 (t % 256), .int .i64 D] W (GotV R.P (V, k, R.st (st', rest)) S W)) :
    Calls Tryz.prog 16 #[confV proto plain rb sb ms ct fr, .int .i64 t, .slice B xs.length cB, .int .i64 D] w fun e w' => ∃ cs, e = .returned (.tuple #[.agg cs.toArray, .int .i64 (k : Nat), .int .i64 rest.length]) ∧ kVal.K w' V cs ∧ Below w.heap.size w w' := by
  obtain ⟨ad, rfl, hal, hsrc⟩ := C_cells hB h8 hn1
  have HPR := Lib.hid (fun m b g W => rprotocol_C proto plain rb sb ms ct fr hf m b g (toB xs) W)
  have HG := Lib.hid hg
  have HE := Lib.hid hE
  obtain ⟨W0, hW0⟩ : ∃ W0, W0 = (w.alloc (.cells #[.int .i64 proto, .bool plain, .bool rb, .bool sb, .int .i32 ms, .int .i32 ct, .int .i32 fr] 23)).alloc (.cells #[.int .i64 0, .int .i64 0, .slice none 0 0, .int .i64 0, .int .i64 0, .slice none 0 0, .slice none 0 0] 34) := ⟨_, rfl⟩
  have hB0 : Below w.heap.size w W0 := by rw [hW0]; exact ((Below.refl _ w).alloc (Nat.le_refl _) _).alloc (by simp) _
  have hc0 : W0.heap[w.heap.size]? = some (.cells #[.int .i64 proto, .bool plain, .bool rb, .bool sb, .int .i32 ms, .int .i32 ct, .int .i32 fr] 23 (0, 0)) := by rw [hW0]; exact heap_alloc_old (heap_alloc_new w _) _
  have hr0 : W0.heap[w.heap.size + 1]? = some (.cells #[.int .i64 0, .int .i64 0, .slice none 0 0, .int .i64 0, .int .i64 0, .slice none 0 0, .slice none 0 0] 34 (0, 0)) := by rw [hW0]; exact heap_alloc_at (by simp) _
  have hs0 : W0.heap.size = w.heap.size + 1 + 1 := by rw [hW0]; simp
  have HH := Lib.hid (holding_any xs.length cB (Lib.byteCells (toB xs)) ad W0 (by rw [Lib.byteCells_length]; simp [toB]) (by omega) (fun j v hj => by
    rw [hB0.cell (by rw [Lib.block_add]; exact hal)]
    exact hsrc j v hj) (Lib.byteCells_one _) hn1 hlim)
  have HB0 := Lib.hid hB0
  have HPS := Lib.hid (fun W (hB : Below W0.heap.size W0 W) => (Box7.at_ hc0).of hB (lt_heap hc0))
  have HRB0 := Lib.hid hr0
  clear hg hE hB h8 hsrc hB0 hc0 hr0
  go_enter Tryz.func16, Tryz.ntmps16
  go_wp2_with (fail)
  rw [← hW0]
  clear hW0
  refine HH.out.mono ?_
  rintro e W1 ⟨m, bb, gg, rfl, hm, hbb, hgg, hM, hB1⟩
  have HM := Lib.hid hM
  have HB1 := Lib.hid hB1
  have hs1 := hB1.size
  clear hM hB1
  obtain ⟨p0, p1, p2, p3, p4, p5, p6⟩ := HPS.out W1 HB1.out
  go_wp2_with (fail)
  refine (HPR.out m bb gg W1 HM.out).mono ?_
  rintro e W2 ⟨R, S2, rfl, hI2, hS2, hB2⟩
  clear p0 p1 p2 p3 p4 p5 p6
  have HB2 := Lib.hid (HB1.out.trans (hB2.mono hs1))
  have hown : ∀ j, j ∈ S2 → w.heap.size + 1 + 1 ≤ j := fun j hj => by rcases hS2 j hj with h | h | h | h <;> omega
  have HOWN := Lib.hid hown
  have HI2 := Lib.hid hI2
  clear hB2 hI2 hS2 hown
  go_wp2_with (fail)
  refine (typ_of _ _).mono ?_
  rintro e w' ⟨rfl, rfl⟩
  go_wp2_with (fail)
  refine (HG.out m R S2 W2 HI2.out).mono ?_
  rintro e W3 ⟨ev, cs, S3, rfl, hO3, hE3, hI3, hs3⟩
  dsimp only at hO3 hE3 hI3
  obtain ⟨A2, a2, A5, a5, A6, a6, rfl, -⟩ := kVal_open hO3.now
  obtain ⟨b3, g3, off3, hM3⟩ := R.mem hI3
  have hB3 : Below W0.heap.size W0 W3 := HB2.out.trans (hs3.below W0.heap.size HB2.out.size (fun j hj => by have := HOWN.out j hj; omega))
  have hr3 := (hB3.block _ (lt_heap HRB0.out)).trans HRB0.out
  have he3 : IsErr k ev W3 := by
    rcases hE3 with h | h
    · exact h
    · omega
  have cm3 := hM3.cell
  have HM3 := Lib.hid hM3
  have HO3 := Lib.hid hO3
  have HB3 := Lib.hid hB3
  have HR3 := Lib.hid hr3
  have HK3 := Lib.hid (fun W (hB : Below W3.heap.size W3 W) => (kind_any (w := W) (he3.step_at (Step.ofBelow (S := []) hB) (fun b hb => by simp at hb)) (HE.out.below (HB0.out.trans ((HB3.out.trans (hB.mono HB3.out.size)).mono HB0.out.size)) HE.out.lt)).mono fun e w' h => show e = .returned (.int .i64 (k : Nat)) ∧ Below W3.heap.size W3 w' ∧ Below W.heap.size W w' from ⟨h.1, hB.trans (h.2.mono hB.size), h.2⟩)
  have HMB := Lib.hid (fun W (hB : Below W3.heap.size W3 W) => Mem.step HM3.out (Step.ofBelow (S := []) hB) (by simp) (by simp) (by simp))
  have HL3 := Lib.hid (fun W (hB : Below W3.heap.size W3 W) => (buf_left b3 g3 off3 _ W (HMB.out W hB).2.2.2).mono fun e w' h => (by
    obtain ⟨h1, n, rfl⟩ := h
    refine ⟨?_, below_drewN hB n, below_drewN (Below.refl _ W) n⟩
    rw [h1, Lib.byteCells_length] : e = Ending.returned (.int .i64 rest.length) ∧ Below W3.heap.size W3 w' ∧ Below W.heap.size W w'))
  have d0 : W3.cell? ⟨w.heap.size + 1, 0, none⟩ = some (.int .i64 0) := (cell_heap hr3 _).trans rfl
  have d1 : W3.cell? ⟨w.heap.size + 1, 1, none⟩ = some (.int .i64 0) := (cell_heap hr3 _).trans rfl
  have d2 : W3.cell? ⟨w.heap.size + 1, 2, none⟩ = some (.slice none 0 0) := (cell_heap hr3 _).trans rfl
  have d3 : W3.cell? ⟨w.heap.size + 1, 3, none⟩ = some (.int .i64 0) := (cell_heap hr3 _).trans rfl
  have d4 : W3.cell? ⟨w.heap.size + 1, 4, none⟩ = some (.int .i64 0) := (cell_heap hr3 _).trans rfl
  have d5 : W3.cell? ⟨w.heap.size + 1, 5, none⟩ = some (.slice none 0 0) := (cell_heap hr3 _).trans rfl
  have d6 : W3.cell? ⟨w.heap.size + 1, 6, none⟩ = some (.slice none 0 0) := (cell_heap hr3 _).trans rfl
  have hfr := frozen_heap hr3
  have hlr := lt_heap hr3
  clear hO3 hE3 hI3 hs3 hM3 hB3 hr3 he3
  go_wp2_with (fail)
  obtain ⟨WV, hWV⟩ : ∃ WV, WV = W3.alloc (.cells #[.int .i64 V.f0, .int .i64 V.f1, .slice A2 V.f2.length a2, .int .i64 V.f3, .int .i64 V.f4, .slice A5 V.f5.length a5, .slice A6 V.f6.length a6] 34) := ⟨_, rfl⟩
  have hbv : WV.heap[W3.heap.size]? = some (.cells #[.int .i64 V.f0, .int .i64 V.f1, .slice A2 V.f2.length a2, .int .i64 V.f3, .int .i64 V.f4, .slice A5 V.f5.length a5, .slice A6 V.f6.length a6] 34 (0, 0)) := by rw [hWV]; exact heap_alloc_new W3 _
  have hBV : Below W3.heap.size W3 WV := by rw [hWV]; exact (Below.refl _ W3).alloc (Nat.le_refl _) _
  rw [← hWV]
  clear hWV
  have HX := Lib.hid hBV
  have HVS := Lib.hid (fun W (hB : Below W3.heap.size W3 W) (h : W.heap[W3.heap.size]? = some (.cells #[.int .i64 V.f0, .int .i64 V.f1, .slice A2 V.f2.length a2, .int .i64 V.f3, .int .i64 V.f4, .slice A5 V.f5.length a5, .slice A6 V.f6.length a6] 34 (0, 0))) => show W.cell? ⟨m, 0, none⟩ = some (.pointer (some ⟨b3, 0, none⟩)) ∧ W.cell? ⟨W3.heap.size, 0, none⟩ = some (.int .i64 V.f0) ∧ W.cell? ⟨W3.heap.size, 1, none⟩ = some (.int .i64 V.f1) ∧ W.cell? ⟨W3.heap.size, 2, none⟩ = some (.slice A2 V.f2.length a2) ∧ W.cell? ⟨W3.heap.size, 3, none⟩ = some (.int .i64 V.f3) ∧ W.cell? ⟨W3.heap.size, 4, none⟩ = some (.int .i64 V.f4) ∧ W.cell? ⟨W3.heap.size, 5, none⟩ = some (.slice A5 V.f5.length a5) ∧ W.cell? ⟨W3.heap.size, 6, none⟩ = some (.slice A6 V.f6.length a6) from ⟨(HMB.out W hB).cell, (cell_heap h 0).trans rfl, (cell_heap h 1).trans rfl, (cell_heap h 2).trans rfl, (cell_heap h 3).trans rfl, (cell_heap h 4).trans rfl, (cell_heap h 5).trans rfl, (cell_heap h 6).trans rfl⟩)
  have HBVB := Lib.hid hbv
  have hmne : ¬ m = w.heap.size + 1 := by omega
  have hmne2 : ¬ W3.heap.size = w.heap.size + 1 := by omega
  have hss := HVS.out WV hBV hbv
  clear hbv hBV
  go_region_held3 (fun W' => W'.cell? ⟨m, 0, none⟩ = some (.pointer (some ⟨b3, 0, none⟩)) ∧ W'.cell? ⟨W3.heap.size, 0, none⟩ = some (.int .i64 V.f0) ∧ W'.cell? ⟨W3.heap.size, 1, none⟩ = some (.int .i64 V.f1) ∧ W'.cell? ⟨W3.heap.size, 2, none⟩ = some (.slice A2 V.f2.length a2) ∧ W'.cell? ⟨W3.heap.size, 3, none⟩ = some (.int .i64 V.f3) ∧ W'.cell? ⟨W3.heap.size, 4, none⟩ = some (.int .i64 V.f4) ∧ W'.cell? ⟨W3.heap.size, 5, none⟩ = some (.slice A5 V.f5.length a5) ∧ W'.cell? ⟨W3.heap.size, 6, none⟩ = some (.slice A6 V.f6.length a6)) (first | with_reducible exact hss | with_reducible exact hss4 | (simp [go_sem, *]; done) | fail)
    (first
      | (go_at_call 44; (with_reducible refine (HK3.out _ ?_).mono ?_); (· (repeat (first | (with_reducible exact HX.out) | (with_reducible exact Below.refl _ _) | (with_reducible refine Below.drew ?_) | (with_reducible refine Below.alloc ?_ (by have := HX.out.size; simp <;> omega) _)))); rintro e W4 ⟨rfl, hB4, hB5⟩; have HX := Lib.hid hB4; have HBVB := Lib.hid ((hB5.block _ (by first | exact lt_heap HBVB.out | exact lt_heap (show _ from HBVB.out))).trans HBVB.out); have hss4 := HVS.out W4 hB4 HBVB.out; have hr4 := (hB4.block _ (lt_heap HR3.out)).trans HR3.out; have f0 : W4.cell? ⟨w.heap.size + 1, 0, none⟩ = some (.int .i64 0) := (cell_heap hr4 _).trans rfl; have f1 : W4.cell? ⟨w.heap.size + 1, 1, none⟩ = some (.int .i64 0) := (cell_heap hr4 _).trans rfl; have f2 : W4.cell? ⟨w.heap.size + 1, 2, none⟩ = some (.slice none 0 0) := (cell_heap hr4 _).trans rfl; have f3 : W4.cell? ⟨w.heap.size + 1, 3, none⟩ = some (.int .i64 0) := (cell_heap hr4 _).trans rfl; have f4 : W4.cell? ⟨w.heap.size + 1, 4, none⟩ = some (.int .i64 0) := (cell_heap hr4 _).trans rfl; have f5 : W4.cell? ⟨w.heap.size + 1, 5, none⟩ = some (.slice none 0 0) := (cell_heap hr4 _).trans rfl; have f6 : W4.cell? ⟨w.heap.size + 1, 6, none⟩ = some (.slice none 0 0) := (cell_heap hr4 _).trans rfl; have hfr4 := frozen_heap hr4; have hlr4 := lt_heap hr4; have HR4 := Lib.hid hr4; clear hB4 hB5 hr4)
      | (go_at_call 45; (with_reducible refine (HL3.out _ ?_).mono ?_); (· (repeat (first | (with_reducible exact HX.out) | (with_reducible exact Below.refl _ _) | (with_reducible refine Below.drew ?_) | (with_reducible refine Below.alloc ?_ (by have := HX.out.size; simp <;> omega) _)))); rintro e W4 ⟨rfl, hB4, hB5⟩; have HX := Lib.hid hB4; have HBVB := Lib.hid ((hB5.block _ (by first | exact lt_heap HBVB.out | exact lt_heap (show _ from HBVB.out))).trans HBVB.out); have hss4 := HVS.out W4 hB4 HBVB.out; have hr4 := (hB4.block _ (lt_heap HR3.out)).trans HR3.out; have f0 : W4.cell? ⟨w.heap.size + 1, 0, none⟩ = some (.int .i64 0) := (cell_heap hr4 _).trans rfl; have f1 : W4.cell? ⟨w.heap.size + 1, 1, none⟩ = some (.int .i64 0) := (cell_heap hr4 _).trans rfl; have f2 : W4.cell? ⟨w.heap.size + 1, 2, none⟩ = some (.slice none 0 0) := (cell_heap hr4 _).trans rfl; have f3 : W4.cell? ⟨w.heap.size + 1, 3, none⟩ = some (.int .i64 0) := (cell_heap hr4 _).trans rfl; have f4 : W4.cell? ⟨w.heap.size + 1, 4, none⟩ = some (.int .i64 0) := (cell_heap hr4 _).trans rfl; have f5 : W4.cell? ⟨w.heap.size + 1, 5, none⟩ = some (.slice none 0 0) := (cell_heap hr4 _).trans rfl; have f6 : W4.cell? ⟨w.heap.size + 1, 6, none⟩ = some (.slice none 0 0) := (cell_heap hr4 _).trans rfl; have hfr4 := frozen_heap hr4; have hlr4 := lt_heap hr4; have HR4 := Lib.hid hr4; clear hB4 hB5 hr4))
  all_goals go_wp2_with (fail)
  all_goals (
    obtain ⟨W6, e2, h6, hs6⟩ := set7 HR4.out (.int .i64 V.f0) (.int .i64 V.f1) (.slice A2 V.f2.length a2) (.int .i64 V.f3) (.int .i64 V.f4) (.slice A5 V.f5.length a5) (.slice A6 V.f6.length a6)
    rw [e2]
    have r0 : W6.cell? ⟨w.heap.size + 1, 0, none⟩ = some (.int .i64 V.f0) := (cell_heap h6 _).trans rfl
    have r1 : W6.cell? ⟨w.heap.size + 1, 1, none⟩ = some (.int .i64 V.f1) := (cell_heap h6 _).trans rfl
    have r2 : W6.cell? ⟨w.heap.size + 1, 2, none⟩ = some (.slice A2 V.f2.length a2) := (cell_heap h6 _).trans rfl
    have r3 : W6.cell? ⟨w.heap.size + 1, 3, none⟩ = some (.int .i64 V.f3) := (cell_heap h6 _).trans rfl
    have r4 : W6.cell? ⟨w.heap.size + 1, 4, none⟩ = some (.int .i64 V.f4) := (cell_heap h6 _).trans rfl
    have r5 : W6.cell? ⟨w.heap.size + 1, 5, none⟩ = some (.slice A5 V.f5.length a5) := (cell_heap h6 _).trans rfl
    have r6 : W6.cell? ⟨w.heap.size + 1, 6, none⟩ = some (.slice A6 V.f6.length a6) := (cell_heap h6 _).trans rfl
    refine bodyPost_ret (v := .tuple #[.agg #[.int .i64 V.f0, .int .i64 V.f1, .slice A2 V.f2.length a2, .int .i64 V.f3, .int .i64 V.f4, .slice A5 V.f5.length a5, .slice A6 V.f6.length a6], .int .i64 (k : Nat), .int .i64 rest.length]) (by simp [results, Tryz.results16, go_sem, *]) rfl ?_
    have hw4 : Below w.heap.size w W4 := HB0.out.trans ((HB3.out.trans (HX.out.mono HB3.out.size)).mono HB0.out.size)
    have hw2 := HB2.out.size
    have hO6 := HO3.out.move (w1 := W6) (fun b hb hlt => (hs6.block b (Nat.lt_of_lt_of_le hlt HX.out.size) (by simp only [List.mem_cons, List.not_mem_nil, or_false]; omega)).trans (HX.out.block b hlt)) (Nat.le_trans HX.out.size hs6.size)
    exact ⟨[.int .i64 V.f0, .int .i64 V.f1, .slice A2 V.f2.length a2, .int .i64 V.f3, .int .i64 V.f4, .slice A5 V.f5.length a5, .slice A6 V.f6.length a6], rfl, hO6.now, hw4.trans (hs6.below w.heap.size hw4.size (fun j hj => by simp only [List.mem_cons, List.not_mem_nil, or_false] at hj; omega))⟩)

end Go.Proofs.YtelocgemofghaaaGreatDoor

/-! Sizes below 0 are refused when a value is got. -/
namespace Go.Proofs.YtelocgemofghaaaGreatDoor

open Go.RowKit Go.Deep

set_option linter.unusedVariables false

set_option linter.unusedSimpArgs false

open Go.Proofs.YtelocgemofghaaaGreatDoorW.PrintWords

theorem none_gets (P : PR) (D : Int) : Gets P (fun _ _ => none) D := fun _ _ _ _ _ _ _ _ h => by cases h

set_option maxRecDepth 100000 in
set_option maxHeartbeats 2000000 in
theorem neg_get (proto : Int) (plain rb sb : Bool) (ms ct fr : Int) (hf : (cfgOf plain rb sb ms ct fr).fit) (t : Int) (o : ROp) (hto : (t = 11 ∧ o = .str) ∨ (t = 13 ∧ o = .mapB) ∨ (t = 14 ∧ o = .setB) ∨ (t = 15 ∧ o = .lstB))
    (B : Option Addr) (cB : Nat) (xs : List Int) (w : World) (hE : EofAt w) (hB : (Kd.int .u8).C w B xs.length xs) (h8 : ∀ x ∈ xs, 0 ≤ x ∧ x < 256) (hn1 : 1 ≤ xs.length) (hlim : xs.length ≤ 140737488355328) (hk : Kinds proto (cfgOf plain rb sb ms ct fr) (toB xs) o 12) :
    Calls Tryz.prog 16 #[confV proto plain rb sb ms ct fr, .int .i64 t, .slice B xs.length cB, .int .i64 9] w fun e w' => ∃ (f0 f1 f3 f4 : Int) (A2 A5 A6 : Option Addr) (n2 a2 n5 a5 n6 a6 : Nat) (lft : Int), e = .returned (.tuple #[.agg #[.int .i64 f0, .int .i64 f1, .slice A2 n2 a2, .int .i64 f3, .int .i64 f4, .slice A5 n5 a5, .slice A6 n6 a6], .int .i64 12, .int .i64 lft]) ∧ Below w.heap.size w w' := by
  obtain ⟨g, st', rest, hr⟩ := hk
  have fin : ∀ V : Val, Calls Tryz.prog 16 #[confV proto plain rb sb ms ct fr, .int .i64 t, .slice B xs.length cB, .int .i64 9] w (fun e w' => ∃ cs, e = .returned (.tuple #[.agg cs.toArray, .int .i64 ((12 : Nat) : Int), .int .i64 rest.length]) ∧ kVal.K w' V cs ∧ Below w.heap.size w w') →
      Calls Tryz.prog 16 #[confV proto plain rb sb ms ct fr, .int .i64 t, .slice B xs.length cB, .int .i64 9] w fun e w' => ∃ (f0 f1 f3 f4 : Int) (A2 A5 A6 : Option Addr) (n2 a2 n5 a5 n6 a6 : Nat) (lft : Int), e = .returned (.tuple #[.agg #[.int .i64 f0, .int .i64 f1, .slice A2 n2 a2, .int .i64 f3, .int .i64 f4, .slice A5 n5 a5, .slice A6 n6 a6], .int .i64 12, .int .i64 lft]) ∧ Below w.heap.size w w' := fun V h =>
    h.mono fun e w' ⟨cs, h1, h2, h3⟩ => by
      obtain ⟨A2, a2, A5, a5, A6, a6, rfl, -⟩ := kVal_open h2
      exact ⟨_, _, _, _, A2, A5, A6, _, a2, _, a5, _, a6, rest.length, h1, h3⟩
  rcases hto with ⟨rfl, rfl⟩ | ⟨rfl, rfl⟩ | ⟨rfl, rfl⟩ | ⟨rfl, rfl⟩
  · exact fin _ (Get_C proto plain rb sb ms ct fr hf 11 9 B cB xs w hE hB h8 hn1 hlim (V := ⟨11, 0, ints g.s, 0, 0, [], []⟩) (k := 12) (by omega) (st' := st') (rest := rest) (fun m R S W hI => get_str R.P 9 ⟨by omega, by omega⟩ hI (R.run_some hr)))
  · exact fin _ (Get_C proto plain rb sb ms ct fr hf 13 9 B cB xs w hE hB h8 hn1 hlim (V := ⟨13, 0, [], 0, 0, [], []⟩) (k := 12) (by omega) (st' := st') (rest := rest) (fun m R S W hI => get_map R.P 9 ⟨by omega, by omega⟩ hI (fun W' hW' => getMap_bad R.P 9 (R.P.step hI hW' (by simp)) (by omega) (R.run_some hr))))
  · exact fin _ (Get_C proto plain rb sb ms ct fr hf 14 9 B cB xs w hE hB h8 hn1 hlim (V := ⟨14, 0, [], 0, 0, [], []⟩) (k := 12) (by omega) (st' := st') (rest := rest) (fun m R S W hI => get_set R.P 9 ⟨by omega, by omega⟩ hI (fun W' hW' => getSet_any R.P (fun _ _ => none) 9 ⟨by omega, by omega⟩ (none_gets R.P _) (R.P.step hI hW' (by simp)) (by unfold getList; rw [R.run_some hr]; rfl))))
  · exact fin _ (Get_C proto plain rb sb ms ct fr hf 15 9 B cB xs w hE hB h8 hn1 hlim (V := ⟨15, 0, [], 0, 0, [], []⟩) (k := 12) (by omega) (st' := st') (rest := rest) (fun m R S W hI => get_lst R.P 9 ⟨by omega, by omega⟩ hI (fun W' hW' => getLst_any R.P (fun _ _ => none) 9 ⟨by omega, by omega⟩ (none_gets R.P _) (R.P.step hI hW' (by simp)) (by unfold getList; rw [R.run_some hr]; rfl))))

end Go.Proofs.YtelocgemofghaaaGreatDoor

/-! Texts under a limit, by both protocols: plain. -/
namespace Go.Proofs.YtelocgemofghaaaGreatDoor

open Go.RowKit Go.Deep

set_option linter.unusedVariables false

set_option linter.unusedSimpArgs false

open Go.Proofs.YtelocgemofghaaaGreatDoorW.PrintWords

/-- The bytes of a text by a protocol. -/
def txt (proto : Int) (s : List UInt8) : List UInt8 := if proto = 1 then cText s else bText s

theorem be4_len (n : Nat) (h : n ≤ 65535) (R : List UInt8) : ∃ b, takeN 4 (be 4 (n : Int) ++ R) = some (b, R) ∧ wrap32 (Lib.beNat b) = n := by
  obtain ⟨b, h1, h2⟩ := be4_take (n : Int) (by omega) (by omega) R
  exact ⟨b, h1, h2⟩

theorem txt_small (proto : Int) (c : Cfg) (s : List UInt8) (hl : s.length ≤ 65535) (hs : (s.length : Int) ≤ c.message) : rdC proto c (CR0, txt proto s) .str = some ({ s := s }, 0, (CR0, [])) := by
  have hk : sizeK c (s.length : Int) = 0 := by unfold sizeK; rw [if_neg (by omega), if_neg (by omega)]
  have ht : takeN s.length s = some (s, []) := by
    unfold takeN
    rw [if_pos (Nat.le_refl _), List.take_length, List.drop_length]
  unfold rdC txt
  by_cases hp : proto = 1
  · rw [if_pos hp, if_pos hp]
    show (cRdStr c (cText s)).map (fun b => (({ s := b.1 } : RGot), b.2.1, (CR0, b.2.2))) = _
    have hv := v64_nat s.length (by omega) s
    have hw : wrap32 (s.length : Int) = s.length := by unfold wrap32; omega
    unfold cRdStr cText
    rw [hv, Option.bind_some]
    dsimp only
    rw [hw, if_pos hk, Int.toNat_natCast, ht]
    rfl
  · rw [if_neg hp, if_neg hp]
    obtain ⟨b, hb, hw⟩ := be4_len s.length hl s
    show ((takeN 4 (bText s)).bind fun a => if sizeK c (wrap32 (Lib.beNat a.1)) = 0 then (takeN (wrap32 (Lib.beNat a.1)).toNat a.2).map fun b => (({ s := b.1 } : RGot), 0, b.2) else some ({}, sizeK c (wrap32 (Lib.beNat a.1)), a.2)).map _ = _
    unfold bText
    rw [hb, Option.bind_some]
    dsimp only
    rw [hw, if_pos hk, Int.toNat_natCast, ht]
    rfl

theorem txt_big (proto : Int) (c : Cfg) (s : List UInt8) (hl : s.length ≤ 65535) (hs : c.message < (s.length : Int)) : rdC proto c (CR0, txt proto s) .str = some ({}, 13, (CR0, s)) := by
  have hk : sizeK c (s.length : Int) = 13 := by unfold sizeK; rw [if_neg (by omega), if_pos hs]
  unfold rdC txt
  by_cases hp : proto = 1
  · rw [if_pos hp, if_pos hp]
    show (cRdStr c (cText s)).map (fun b => (({ s := b.1 } : RGot), b.2.1, (CR0, b.2.2))) = _
    have hv := v64_nat s.length (by omega) s
    have hw : wrap32 (s.length : Int) = s.length := by unfold wrap32; omega
    unfold cRdStr cText
    rw [hv, Option.bind_some]
    dsimp only
    rw [hw, hk, if_neg (by decide)]
    rfl
  · rw [if_neg hp, if_neg hp]
    obtain ⟨b, hb, hw⟩ := be4_len s.length hl s
    show ((takeN 4 (bText s)).bind fun a => if sizeK c (wrap32 (Lib.beNat a.1)) = 0 then (takeN (wrap32 (Lib.beNat a.1)).toNat a.2).map fun b => (({ s := b.1 } : RGot), 0, b.2) else some ({}, sizeK c (wrap32 (Lib.beNat a.1)), a.2)).map _ = _
    unfold bText
    rw [hb, Option.bind_some]
    dsimp only
    rw [hw, hk, if_neg (by decide)]
    rfl

theorem txt_pos (proto : Int) (s : List UInt8) : 1 ≤ (txt proto s).length := by
  unfold txt
  split
  · unfold cText
    have := Lib.uvarint_pos s.length
    rw [List.length_append]
    omega
  · unfold bText be
    rw [List.length_append, Lib.beBytes_length]
    omega

theorem txt_len (proto : Int) (s : List UInt8) (hl : s.length ≤ 65535) : (txt proto s).length ≤ 100000 := by
  unfold txt
  split
  · unfold cText
    have := Lib.uvarint_length64 (x := s.length) (by omega)
    rw [List.length_append]
    omega
  · unfold bText be
    rw [List.length_append, Lib.beBytes_length]
    omega

theorem enc_txt (proto : Int) (c : Cfg) (s : List UInt8) (hl : s.length ≤ 65535) : encC proto c [.str s] = (txt proto s, 0) := by
  unfold txt
  by_cases hp : proto = 1
  · rw [if_pos hp, hp]
    exact encC_one c (.str s) (by show s.length ≤ _; omega)
  · rw [if_neg hp]
    unfold encC
    rw [if_neg hp]
    simp [binAll, binO, binOut]

end Go.Proofs.YtelocgemofghaaaGreatDoor

/-! A text under a limit is got, or refused. -/
namespace Go.Proofs.YtelocgemofghaaaGreatDoor

open Go.RowKit Go.Deep

set_option linter.unusedVariables false

set_option linter.unusedSimpArgs false

open Go.Proofs.YtelocgemofghaaaGreatDoorW.PrintWords

theorem cfg_lim (limit : Int) (h : 0 < limit) : (cfgOf false false false limit 0 0).message = limit := by
  unfold Cfg.message orElse cfgOf
  simp only [Bool.false_eq_true, if_false]
  rw [if_neg (by omega)]

theorem cfg_lim_fit (limit : Int) (h : 0 < limit) (h1 : limit < 2147483648) : (cfgOf false false false limit 0 0).fit := by
  refine ⟨⟨?_, ?_⟩, ⟨?_, ?_⟩⟩ <;> simp only [cfgOf] <;> omega

theorem lim_small_get (proto limit : Int) (h0 : 0 < limit) (h1 : limit < 65536) (s : List UInt8) (hs : (s.length : Int) ≤ limit) (B : Option Addr) (cB : Nat) (w : World) (hE : EofAt w) (hB : (Kd.int .u8).C w B (ints (txt proto s)).length (ints (txt proto s))) :
    Calls Tryz.prog 16 #[confV proto false false false limit 0 0, .int .i64 11, .slice B (ints (txt proto s)).length cB, .int .i64 1] w fun e w' => ∃ (A2 A5 A6 : Option Addr) (a2 n5 a5 n6 a6 : Nat), e = .returned (.tuple #[.agg #[.int .i64 11, .int .i64 0, .slice A2 (ints s).length a2, .int .i64 0, .int .i64 0, .slice A5 n5 a5, .slice A6 n6 a6], .int .i64 0, .int .i64 0]) ∧ (ints s).length ≤ a2 ∧ (Kd.int .u8).C w' A2 (ints s).length (ints s) ∧ Below w.heap.size w w' := by
  have hr := txt_small proto (cfgOf false false false limit 0 0) s (by omega) (by rw [cfg_lim limit h0]; exact hs)
  refine (Get_C proto false false false limit 0 0 (cfg_lim_fit limit h0 (by omega)) 11 1 B cB (ints (txt proto s)) w hE hB (fun x hx => by
    obtain ⟨y, _, rfl⟩ := List.mem_map.1 hx
    have := y.toNat_lt
    omega) (by rw [ints_length]; exact txt_pos proto s) (by rw [ints_length]; have := txt_len proto s (by omega); omega) (V := ⟨11, 0, ints s, 0, 0, [], []⟩) (k := 0) (by omega) (st' := CR0) (rest := []) (fun m R S W hI => get_str R.P 1 ⟨by omega, by omega⟩ hI (g := { s := s }) (k := 0) (s1 := R.st (CR0, [])) (R.run_some (by rw [toB_ints]; exact hr)))).mono fun e w' ⟨cs, q1, q2, q3⟩ => ?_
  obtain ⟨A2, a2, A5, a5, A6, a6, rfl, l2, g2, _⟩ := kVal_open q2
  exact ⟨A2, A5, A6, a2, _, a5, _, a6, q1, l2, g2, q3⟩

theorem lim_big_get (proto limit : Int) (h0 : 0 < limit) (h1 : limit < 65536) (s : List UInt8) (hl : s.length ≤ 65535) (hs : limit < (s.length : Int)) (B : Option Addr) (cB : Nat) (w : World) (hE : EofAt w) (hB : (Kd.int .u8).C w B (ints (txt proto s)).length (ints (txt proto s))) :
    Calls Tryz.prog 16 #[confV proto false false false limit 0 0, .int .i64 11, .slice B (ints (txt proto s)).length cB, .int .i64 1] w fun e w' => ∃ (A2 A5 A6 : Option Addr) (n2 a2 n5 a5 n6 a6 : Nat) (lft : Int), e = .returned (.tuple #[.agg #[.int .i64 11, .int .i64 0, .slice A2 n2 a2, .int .i64 0, .int .i64 0, .slice A5 n5 a5, .slice A6 n6 a6], .int .i64 13, .int .i64 lft]) ∧ Below w.heap.size w w' := by
  have hr := txt_big proto (cfgOf false false false limit 0 0) s hl (by rw [cfg_lim limit h0]; exact hs)
  refine (Get_C proto false false false limit 0 0 (cfg_lim_fit limit h0 (by omega)) 11 1 B cB (ints (txt proto s)) w hE hB (fun x hx => by
    obtain ⟨y, _, rfl⟩ := List.mem_map.1 hx
    have := y.toNat_lt
    omega) (by rw [ints_length]; exact txt_pos proto s) (by rw [ints_length]; have := txt_len proto s hl; omega) (V := ⟨11, 0, ints [], 0, 0, [], []⟩) (k := 13) (by omega) (st' := CR0) (rest := s) (fun m R S W hI => get_str R.P 1 ⟨by omega, by omega⟩ hI (g := {}) (k := 13) (s1 := R.st (CR0, s)) (R.run_some (by rw [toB_ints]; exact hr)))).mono fun e w' ⟨cs, q1, q2, q3⟩ => ?_
  obtain ⟨A2, a2, A5, a5, A6, a6, rfl, l2, g2, _⟩ := kVal_open q2
  exact ⟨A2, A5, A6, _, a2, _, a5, _, a6, _, q1, q3⟩

end Go.Proofs.YtelocgemofghaaaGreatDoor
