/- The thin package's pieces around a protocol: a new memory buffer, a protocol over it, where no configuration is given. -/
import Derived.Test.YteadkokfepjgbaaGreatDoorE2
import Derived.Test.YteadkokfepjgbaaGreatDoorC2
import Derived.Test.YteadkokfepjgbaaGreatDoorD3
namespace Go.Proofs.YteadkokfepjgbaaGreatDoor
open Go.RowKit Go.Deep
set_option linter.unusedVariables false
set_option linter.unusedSimpArgs false

/-- A configuration of which nothing is told but the protocol. -/
abbrev confPlain (proto : Int) : Value := .agg #[.int .i64 proto, .bool true, .bool false, .bool false, .int .i32 0, .int .i32 0, .int .i32 0]

theorem mem_isRich (m : Nat) (w : World) : (Instr.typeAssert (memV m) 103 101 true).run Tryz.prog w = .ok (.tuple #[memV m, .bool true]) w := by kernel_rfl

theorem zeroBin : ∃ sc : List Value, Tryz.zeroCells210 = (.nilIface :: .nilIface :: .pointer none :: sc).toArray ∧ sc.length = 64 ∧ ∀ v ∈ sc, v.oneCell' = true :=
  ⟨List.replicate 64 (.int .u8 0), by kernel_rfl, by simp, fun v hv => by rw [(List.mem_replicate.1 hv).2]; rfl⟩

set_option maxRecDepth 100000 in
set_option maxHeartbeats 2000000 in
theorem protocol_bin (m b g off : Nat) (bs : List Value) (w : World) (h : Mem m b g off bs w) :
    Calls Tryz.prog 69 #[confPlain 0, memV m] w fun e w' => ∃ p sc, e = .returned (.iface 184 (.pointer (some ⟨p, 0, none⟩))) ∧ w.heap.size ≤ p ∧
      Bin p (memV m) (memV m) (.pointer none) sc w' ∧ Below w.heap.size w w' := by
  have hta := mem_isRich
  go_enter Tryz.func69, Tryz.ntmps69
  go_wp2
  refine bodyPost_ret (results_none rfl _ _ _) rfl ?_
  go_wp2
  go_ret
  obtain ⟨sc, hz, hl, h1⟩ := zeroBin
  refine ⟨w.heap.size + 1 + 1, sc, rfl, by omega, ⟨?_, hl, h1⟩, ?_⟩
  · refine (heap_alloc_at (by simp) _).trans ?_
    rw [hz]; simp
  · exact (((Below.refl _ _).alloc (by simp) _).alloc (by simp <;> omega) _).alloc (by simp <;> omega) _

/-- A compact protocol as it is made. -/
def CS0 : CS := { lf := .slice none 0 0, last := 0, nm := .string ByteArray.empty, bid := 0, bp := false, bv := false, bn := false }

theorem zeroCmp : ∃ sc : List Value, Tryz.zeroCells107 = (CS.row .nilIface .nilIface (.pointer none) CS0 sc).toArray ∧ sc.length = 64 ∧ ∀ v ∈ sc, v.oneCell' = true :=
  ⟨List.replicate 64 (.int .u8 0), by kernel_rfl, by simp, fun v hv => by rw [(List.mem_replicate.1 hv).2]; rfl⟩

set_option maxRecDepth 100000 in
set_option maxHeartbeats 2000000 in
theorem protocol_cmp (m b g off : Nat) (bs : List Value) (w : World) (h : Mem m b g off bs w) :
    Calls Tryz.prog 69 #[confPlain 1, memV m] w fun e w' => ∃ p sc, e = .returned (.iface 77 (.pointer (some ⟨p, 0, none⟩))) ∧ w.heap.size ≤ p ∧
      Cmp p (memV m) (memV m) (.pointer none) CS0 sc w' ∧ Below w.heap.size w w' := by
  have hta := mem_isRich
  go_enter Tryz.func69, Tryz.ntmps69
  go_wp2
  refine bodyPost_ret (results_none rfl _ _ _) rfl ?_
  go_wp2
  go_ret
  obtain ⟨sc, hz, hl, h1⟩ := zeroCmp
  refine ⟨w.heap.size + 1 + 1, sc, rfl, by omega, ⟨?_, hl, h1⟩, ?_⟩
  · refine (heap_alloc_at (by simp) _).trans ?_
    rw [hz]; simp [CS.row]
  · exact (((Below.refl _ _).alloc (by simp) _).alloc (by simp <;> omega) _).alloc (by simp <;> omega) _

abbrev binV (p : Nat) : Value := .iface 184 (.pointer (some ⟨p, 0, none⟩))
abbrev cmpV (p : Nat) : Value := .iface 77 (.pointer (some ⟨p, 0, none⟩))

theorem bin_m_WriteI32 (k p : Nat) (w : World) : (method (k + 1) 184 (.pointer (some ⟨p, 0, none⟩)) "WriteI32").run Tryz.prog w = .ok (263, .pointer (some ⟨p, 0, none⟩)) w := by kernel_rfl
theorem bin_n_WriteI32 (k p : Nat) (w : World) : (nilAhead (k + 1) 184 (.pointer (some ⟨p, 0, none⟩)) "WriteI32").run Tryz.prog w = .ok (some false) w := by kernel_rfl
theorem cmp_m_WriteI32 (k p : Nat) (w : World) : (method (k + 1) 77 (.pointer (some ⟨p, 0, none⟩)) "WriteI32").run Tryz.prog w = .ok (172, .pointer (some ⟨p, 0, none⟩)) w := by kernel_rfl
theorem cmp_n_WriteI32 (k p : Nat) (w : World) : (nilAhead (k + 1) 77 (.pointer (some ⟨p, 0, none⟩)) "WriteI32").run Tryz.prog w = .ok (some false) w := by kernel_rfl

theorem ctx_any (w : World) : Calls Tryz.prog 84 #[] w fun e w' => e = .returned ctxV ∧ w = w' := by
  go_enter Tryz.func84, Tryz.ntmps84
  go_wp2
  go_ret
  exact ⟨rfl, rfl⟩

/-- A value of numbers of four bytes. -/
abbrev i32V (n : Int) : Value := .agg #[.int .i64 8, .int .i64 n, .slice none 0 0, .int .i64 0, .int .i64 0, .slice none 0 0, .slice none 0 0]

end Go.Proofs.YteadkokfepjgbaaGreatDoor
