/- The binary protocol over a memory buffer: its scratch is filled, and a number of four bytes is read, where they are there. -/
import Derived.Test.YteadkokfepjgbaaGreatDoorD1
namespace Go.Proofs.YteadkokfepjgbaaGreatDoor
open Go.RowKit Go.Deep
set_option linter.unusedVariables false
set_option linter.unusedSimpArgs false

/-- The context without anything. -/
abbrev ctxV : Value := .iface 243 (.agg #[])

theorem ctx_Deadline (k : Nat) (w : World) : (method (k + 1) 243 (.agg #[]) "Deadline").run Tryz.prog w = .ok (292, .agg #[]) w := by kernel_rfl
theorem ctx_nil_Deadline (k : Nat) (w : World) : (nilAhead (k + 1) 243 (.agg #[]) "Deadline").run Tryz.prog w = .ok (some false) w := by kernel_rfl

theorem deadline_any (w : World) : Calls Tryz.prog 292 #[.agg #[]] w fun e w' => e = .returned (.tuple #[.agg #[], .bool false]) ∧ Below w.heap.size w w' := by
  go_enter Tryz.func292, Tryz.ntmps292
  go_wp2
  exact bodyPost_ret (v := .tuple #[.agg #[], .bool false]) (by simp [results, Tryz.results292, go_sem]) rfl ⟨rfl, ((Below.refl _ _).alloc (Nat.le_refl _) _).alloc (by simp) _⟩

set_option maxRecDepth 100000 in
set_option maxHeartbeats 1000000 in
theorem readAll_whole (p m b g off o n c : Nat) (og cf : Value) (sc bs : List Value) (w : World) (hp : Bin p (memV m) og cf sc w) (h : Mem m b g off bs w) (hpm : p ≠ m) (hpb : p ≠ b) (hpg : p ≠ g) (hn1 : 1 ≤ n) (hn : n ≤ bs.length) (h1 : ∀ v ∈ bs, v.oneCell' = true)
    (hfit : o + n ≤ 67) (ho : 3 ≤ o) (hnc : n ≤ c) (hcm : c ≤ 64) :
    Calls Tryz.prog 277 #[.pointer (some ⟨p, 0, none⟩), ctxV, .slice (some ⟨p, o, none⟩) n c] w fun e w' => e = .returned .nilIface ∧
      Mem m b g (off + n) (bs.drop n) w' ∧ w'.heap[p]? = some (.cells ((memV m :: og :: cf :: sc).take o ++ bs.take n ++ (memV m :: og :: cf :: sc).drop (o + n)).toArray 210 (0, 0)) ∧ Step [b, p] [b, p] w w' := by
  have hsz : (memV m :: og :: cf :: sc).toArray.size = 67 := by simp [hp.2.1]
  have hR : ∀ W, Mem m b g off bs W → W.heap[p]? = some (.cells (memV m :: og :: cf :: sc).toArray 210 (0, 0)) → Calls Tryz.prog 100 #[memV m, .slice (some ⟨p, o, none⟩) n c] W _ := fun W hW hW2 =>
    readFull_whole m b g off p o n c bs _ _ W hW hn1 hn h1 hW2 hpm hpb hpg (by rw [hsz]; exact hfit) (by unfold maxLen; omega) hnc (by unfold maxLen; omega)
  have c0 : w.cell? ⟨p, 0, none⟩ = some (memV m) := by rw [hp.cells]; rfl
  have hmeth := ctx_Deadline
  have hnil := ctx_nil_Deadline
  have hp1 := hp.1
  clear hp
  go_enter Tryz.func277, Tryz.ntmps277
  go_wp2_with fail
  refine (deadline_any _).mono ?_
  rintro e W0 ⟨rfl, hb0⟩
  have hs0 : Step [b, p] [b, p] w W0 := Step.ofBelow hb0
  have h0 : Mem m b g off bs W0 := h.step (Step.ofBelow (S := []) hb0) (by simp) (by simp) (by simp)
  have hp0 := ((Step.ofBelow (S := []) hb0).block p (lt_heap hp1) (by simp)).trans hp1
  have c0' : ∀ x, (W0.alloc x).cell? ⟨p, 0, none⟩ = some (memV m) := fun x => by rw [cell_heap (heap_alloc_old hp0 x)]; simp
  have hs1 : ∀ x, Step [b, p] [b, p] w (W0.alloc x) := fun x => hs0.alloc x
  have h2 : ∀ x, Mem m b g off bs (W0.alloc x) := fun x => h0.alloc x
  have hp2 : ∀ x, (W0.alloc x).heap[p]? = some (.cells (memV m :: og :: cf :: sc).toArray 210 (0, 0)) := fun x => heap_alloc_old hp0 x
  have HP := Lib.hid hp2
  have HM := Lib.hid h2
  have HS := Lib.hid hs1
  clear hp1 c0 hp0 hp2 hs0 hb0 h0 h2 hs1
  go_wp2_with fail
  refine wp_loop_rounds 1 ?_
  rw [rounds_succ]
  go_wp2_with fail
  refine (hR _ (HM.out _) (HP.out _)).mono ?_
  rintro e W1 ⟨rfl, hM, hpp, hs⟩
  go_wp2_with (first | (go_at_call 184; go_in))
  go_ret
  exact ⟨rfl, hM, hpp, (HS.out _).trans hs⟩

end Go.Proofs.YteadkokfepjgbaaGreatDoor
