/- Which functions the methods of a memory buffer are: those of the bytes.Buffer in it. -/
import Derived.Test.YteadkokfepjgbaaGreatDoorB6
namespace Go.Proofs.YteadkokfepjgbaaGreatDoor
open Go.RowKit Go.Deep
set_option linter.unusedVariables false
set_option linter.unusedSimpArgs false

/-- Block m is a memory buffer. -/
def Mem (m b g off : Nat) (bs : List Value) (w : World) : Prop :=
  (∃ sz, w.heap[m]? = some (.cells #[.pointer (some ⟨b, 0, none⟩), .int .i64 sz] 87 (0, 0))) ∧ m ≠ b ∧ m ≠ g ∧ Buf b g off bs w

theorem Mem.cell {m b g off : Nat} {bs : List Value} {w : World} (h : Mem m b g off bs w) : w.cell? ⟨m, 0, none⟩ = some (.pointer (some ⟨b, 0, none⟩)) := by
  obtain ⟨⟨sz, hm⟩, _⟩ := h
  rw [cell_heap hm]; rfl

theorem Mem.lt {m b g off : Nat} {bs : List Value} {w : World} (h : Mem m b g off bs w) : m < w.heap.size := lt_heap h.1.choose_spec

theorem Mem.carry {m b g off : Nat} {bs : List Value} {w w1 : World} (h : Mem m b g off bs w) (hm : w1.heap[m]? = w.heap[m]?) (hb : w1.heap[b]? = w.heap[b]?) (hg : w1.heap[g]? = w.heap[g]?) : Mem m b g off bs w1 := by
  obtain ⟨⟨sz, h0⟩, h1, h2, h3⟩ := h
  exact ⟨⟨sz, hm.trans h0⟩, h1, h2, h3.carry hb hg⟩

theorem Mem.step {m b g off : Nat} {bs : List Value} {S T : List Nat} {w w1 : World} (h : Mem m b g off bs w) (hs : Step S T w w1) (hm : m ∉ S) (hb : b ∉ S) (hg : g ∉ S) : Mem m b g off bs w1 :=
  h.carry (hs.block m h.lt hm) (hs.block b h.2.2.2.lt.1 hb) (hs.block g h.2.2.2.lt.2 hg)

theorem Mem.alloc {m b g off : Nat} {bs : List Value} {w : World} (h : Mem m b g off bs w) (o : Obj) : Mem m b g off bs (w.alloc o) :=
  h.carry (Below.heap_alloc _ _ _ h.lt) (Below.heap_alloc _ _ _ h.2.2.2.lt.1) (Below.heap_alloc _ _ _ h.2.2.2.lt.2)

theorem Mem.drewN {m b g off : Nat} {bs : List Value} {w : World} (h : Mem m b g off bs w) (n : Nat) : Mem m b g off bs (w.drewN n) := h

/-- The buffer of a memory buffer has turned: written, read. -/
theorem Mem.turn {m b g g1 off off1 : Nat} {bs bs1 : List Value} {w w1 : World} (h : Mem m b g off bs w) (hB : Buf b g1 off1 bs1 w1) (hs : Step [b, g] [b, g1] w w1) : Mem m b g1 off1 bs1 w1 := by
  have hlt := h.lt
  have ho := own_mem hs
  obtain ⟨⟨sz, h0⟩, h1, h2, _⟩ := h
  refine ⟨⟨sz, (hs.block m hlt (by simp [h1, h2])).trans h0⟩, h1, ?_, hB⟩
  simp only [List.mem_cons, List.not_mem_nil, or_false] at ho
  omega

theorem Mem.took {m b g off off1 : Nat} {bs bs1 : List Value} {S T : List Nat} {w w1 : World} (h : Mem m b g off bs w) (hB : Buf b g off1 bs1 w1) (hs : Step S T w w1) (hm : m ∉ S) : Mem m b g off1 bs1 w1 := by
  have hlt := h.lt
  obtain ⟨⟨sz, h0⟩, h1, h2, _⟩ := h
  exact ⟨⟨sz, (hs.block m hlt hm).trans h0⟩, h1, h2, hB⟩

theorem mem_Write (k m b : Nat) (w : World) (h : w.cell? ⟨m, 0, none⟩ = some (.pointer (some ⟨b, 0, none⟩))) :
    (method (k + 1) 75 (.pointer (some ⟨m, 0, none⟩)) "Write").run Tryz.prog w = .ok (76, .pointer (some ⟨b, 0, none⟩)) w := by
  have e : (method (k + 1) 75 (.pointer (some ⟨m, 0, none⟩)) "Write").run Tryz.prog w = (match w.cell? ⟨m, 0, none⟩ with
    | some v => .ok (76, v) w
    | none => match w.farLoad Tryz.prog ⟨m, 0, none⟩ false with
      | .ok (v, _) => .ok (76, v) w
      | .error h => .halt h w) := by kernel_rfl
  rw [e, h]

theorem mem_WriteByte (k m b : Nat) (w : World) (h : w.cell? ⟨m, 0, none⟩ = some (.pointer (some ⟨b, 0, none⟩))) :
    (method (k + 1) 75 (.pointer (some ⟨m, 0, none⟩)) "WriteByte").run Tryz.prog w = .ok (136, .pointer (some ⟨b, 0, none⟩)) w := by
  have e : (method (k + 1) 75 (.pointer (some ⟨m, 0, none⟩)) "WriteByte").run Tryz.prog w = (match w.cell? ⟨m, 0, none⟩ with
    | some v => .ok (136, v) w
    | none => match w.farLoad Tryz.prog ⟨m, 0, none⟩ false with
      | .ok (v, _) => .ok (136, v) w
      | .error h => .halt h w) := by kernel_rfl
  rw [e, h]

theorem mem_WriteString (k m b : Nat) (w : World) (h : w.cell? ⟨m, 0, none⟩ = some (.pointer (some ⟨b, 0, none⟩))) :
    (method (k + 1) 75 (.pointer (some ⟨m, 0, none⟩)) "WriteString").run Tryz.prog w = .ok (137, .pointer (some ⟨b, 0, none⟩)) w := by
  have e : (method (k + 1) 75 (.pointer (some ⟨m, 0, none⟩)) "WriteString").run Tryz.prog w = (match w.cell? ⟨m, 0, none⟩ with
    | some v => .ok (137, v) w
    | none => match w.farLoad Tryz.prog ⟨m, 0, none⟩ false with
      | .ok (v, _) => .ok (137, v) w
      | .error h => .halt h w) := by kernel_rfl
  rw [e, h]

theorem mem_Read (k m b : Nat) (w : World) (h : w.cell? ⟨m, 0, none⟩ = some (.pointer (some ⟨b, 0, none⟩))) :
    (method (k + 1) 75 (.pointer (some ⟨m, 0, none⟩)) "Read").run Tryz.prog w = .ok (132, .pointer (some ⟨b, 0, none⟩)) w := by
  have e : (method (k + 1) 75 (.pointer (some ⟨m, 0, none⟩)) "Read").run Tryz.prog w = (match w.cell? ⟨m, 0, none⟩ with
    | some v => .ok (132, v) w
    | none => match w.farLoad Tryz.prog ⟨m, 0, none⟩ false with
      | .ok (v, _) => .ok (132, v) w
      | .error h => .halt h w) := by kernel_rfl
  rw [e, h]

theorem mem_ReadByte (k m b : Nat) (w : World) (h : w.cell? ⟨m, 0, none⟩ = some (.pointer (some ⟨b, 0, none⟩))) :
    (method (k + 1) 75 (.pointer (some ⟨m, 0, none⟩)) "ReadByte").run Tryz.prog w = .ok (133, .pointer (some ⟨b, 0, none⟩)) w := by
  have e : (method (k + 1) 75 (.pointer (some ⟨m, 0, none⟩)) "ReadByte").run Tryz.prog w = (match w.cell? ⟨m, 0, none⟩ with
    | some v => .ok (133, v) w
    | none => match w.farLoad Tryz.prog ⟨m, 0, none⟩ false with
      | .ok (v, _) => .ok (133, v) w
      | .error h => .halt h w) := by kernel_rfl
  rw [e, h]

theorem mem_RemainingBytes (k m : Nat) (w : World) : (method (k + 1) 75 (.pointer (some ⟨m, 0, none⟩)) "RemainingBytes").run Tryz.prog w = .ok (323, .pointer (some ⟨m, 0, none⟩)) w := by kernel_rfl

theorem mem_Flush (k m : Nat) (w : World) : (method (k + 1) 75 (.pointer (some ⟨m, 0, none⟩)) "Flush").run Tryz.prog w = .ok (320, .pointer (some ⟨m, 0, none⟩)) w := by kernel_rfl

theorem mem_nil_Write (k m : Nat) (w : World) : (nilAhead (k + 1) 75 (.pointer (some ⟨m, 0, none⟩)) "Write").run Tryz.prog w = .ok (some false) w := by kernel_rfl

theorem mem_nil_WriteByte (k m : Nat) (w : World) : (nilAhead (k + 1) 75 (.pointer (some ⟨m, 0, none⟩)) "WriteByte").run Tryz.prog w = .ok (some false) w := by kernel_rfl

theorem mem_nil_WriteString (k m : Nat) (w : World) : (nilAhead (k + 1) 75 (.pointer (some ⟨m, 0, none⟩)) "WriteString").run Tryz.prog w = .ok (some false) w := by kernel_rfl

theorem mem_nil_Read (k m : Nat) (w : World) : (nilAhead (k + 1) 75 (.pointer (some ⟨m, 0, none⟩)) "Read").run Tryz.prog w = .ok (some false) w := by kernel_rfl

theorem mem_nil_ReadByte (k m : Nat) (w : World) : (nilAhead (k + 1) 75 (.pointer (some ⟨m, 0, none⟩)) "ReadByte").run Tryz.prog w = .ok (some false) w := by kernel_rfl

theorem mem_nil_RemainingBytes (k m : Nat) (w : World) : (nilAhead (k + 1) 75 (.pointer (some ⟨m, 0, none⟩)) "RemainingBytes").run Tryz.prog w = .ok (some false) w := by kernel_rfl

theorem mem_nil_Flush (k m : Nat) (w : World) : (nilAhead (k + 1) 75 (.pointer (some ⟨m, 0, none⟩)) "Flush").run Tryz.prog w = .ok (some false) w := by kernel_rfl

end Go.Proofs.YteadkokfepjgbaaGreatDoor
