/- The binary protocol over a memory buffer: a byte, and a number of four bytes, are written. -/
import Derived.Test.YteadkokfepjgbaaGreatDoorB7
namespace Go.Proofs.YteadkokfepjgbaaGreatDoor
open Go.RowKit Go.Deep
set_option linter.unusedVariables false
set_option linter.unusedSimpArgs false

/-- Block p is a binary protocol. -/
def Bin (p : Nat) (tr og cf : Value) (sc : List Value) (w : World) : Prop :=
  w.heap[p]? = some (.cells (tr :: og :: cf :: sc).toArray 210 (0, 0)) ∧ sc.length = 64 ∧ ∀ v ∈ sc, v.oneCell' = true

/-- The interface value of a memory buffer. -/
abbrev memV (m : Nat) : Value := .iface 75 (.pointer (some ⟨m, 0, none⟩))

set_option maxRecDepth 100000 in
set_option maxHeartbeats 1000000 in
theorem bin_writeByte (p m b g : Nat) (og cf : Value) (sc bs : List Value) (cx : Value) (x : Int) (w : World) (hp : Bin p (memV m) og cf sc w) (h : Mem m b g 0 bs w) (h1 : ∀ v ∈ bs, v.oneCell' = true) (hlim : bs.length + 1 ≤ 140737488355328) :
    Calls Tryz.prog 257 #[.pointer (some ⟨p, 0, none⟩), cx, .int .i8 x] w fun e w' => e = .returned .nilIface ∧ ∃ g1, Mem m b g1 0 (bs ++ [.int .u8 (x % 256)]) w' ∧ Step [b, g] [b, g1] w w' := by
  have c0 : w.cell? ⟨p, 0, none⟩ = some (memV m) := by rw [cell_heap hp.1]; rfl
  have cm := h.cell
  have hmeth := mem_WriteByte
  clear hp
  go_enter Tryz.func257, Tryz.ntmps257
  go_wp2_with (go_at_call 136; refine (buf_writeByte b g bs _ _ h.2.2.2 h1 hlim).mono ?_)
  rintro e W1 ⟨rfl, g1, hB, hs⟩
  go_wp2
  go_ret
  exact ⟨rfl, g1, h.turn hB hs, hs⟩

theorem Bin.cells {p : Nat} {tr og cf : Value} {sc : List Value} {w : World} (h : Bin p tr og cf sc w) (i : Nat) : w.cell? ⟨p, i, none⟩ = (tr :: og :: cf :: sc)[i]? := by
  rw [cell_heap h.1]; simp

theorem Bin.cell {p : Nat} {tr og cf : Value} {sc : List Value} {w : World} (h : Bin p tr og cf sc w) (i : Nat) (hi : i < 64) : ∃ v, w.cell? ⟨p, 3 + i, none⟩ = some v ∧ w.frozen? ⟨p, 3 + i, none⟩ = false := by
  refine ⟨sc[i]'(by rw [h.2.1]; exact hi), ?_, frozen_heap h.1 _⟩
  rw [h.cells, Nat.add_comm]
  simp only [List.getElem?_cons_succ]
  rw [List.getElem?_eq_getElem]

theorem Bin.lt {p : Nat} {tr og cf : Value} {sc : List Value} {w : World} (h : Bin p tr og cf sc w) : p < w.heap.size := lt_heap h.1

theorem Bin.step {p : Nat} {tr og cf : Value} {sc : List Value} {S T : List Nat} {w w1 : World} (h : Bin p tr og cf sc w) (hs : Step S T w w1) (hp : p ∉ S) : Bin p tr og cf sc w1 :=
  ⟨(hs.block p h.lt hp).trans h.1, h.2⟩

theorem Bin.alloc {p : Nat} {tr og cf : Value} {sc : List Value} {w : World} (h : Bin p tr og cf sc w) (o : Obj) : Bin p tr og cf sc (w.alloc o) := ⟨heap_alloc_old h.1 o, h.2⟩
theorem Bin.drewN {p : Nat} {tr og cf : Value} {sc : List Value} {w : World} (h : Bin p tr og cf sc w) (n : Nat) : Bin p tr og cf sc (w.drewN n) := h

/-- Cells of its scratch are set. -/
theorem Bin.set {p : Nat} {tr og cf : Value} {sc : List Value} {w : World} (h : Bin p tr og cf sc w) (vs : List Value) (hv : vs.length ≤ 64) (h1 : ∀ v ∈ vs, v.oneCell' = true) :
    ∃ sc1, Bin p tr og cf sc1 (w.setCells p 3 vs) ∧ sc1.take vs.length = vs := by
  obtain ⟨cs1, e1, e2, e3⟩ := heap_setCells h.1 3 vs
  have hl := h.2.1
  have e4 := e3 (by simp [hl]; omega)
  refine ⟨vs ++ sc.drop vs.length, ⟨?_, by simp [hl]; omega, fun v hv => ?_⟩, by simp⟩
  · rw [e1]
    congr 2
    apply Array.toList_inj.1
    rw [e4]
    simp [Nat.add_comm 3]
  · rcases List.mem_append.1 hv with hv | hv
    · exact h1 v hv
    · exact h.2.2 v (List.mem_of_mem_drop hv)

end Go.Proofs.YteadkokfepjgbaaGreatDoor
