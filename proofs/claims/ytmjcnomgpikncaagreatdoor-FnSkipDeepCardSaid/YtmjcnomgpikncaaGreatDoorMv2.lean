/- Numbers are read by whatever protocol. No condition. -/
import Derived.Test.YtmjcnomgpikncaaGreatDoorMt3
import Derived.Test.YtmjcnomgpikncaaGreatDoorMd1
import Derived.Test.YtmjcnomgpikncaaGreatDoorMb2
import Derived.Test.YtmjcnomgpikncaaGreatDoorMt2
import Derived.Stop.Asserts
/-! A number is read by whatever protocol. Printed by a program (wip/tools/reads.py). -/
namespace Go.Proofs.YtmjcnomgpikncaaGreatDoor

open Go.RowKit Go.Deep

set_option linter.unusedVariables false

set_option linter.unusedSimpArgs false

end Go.Proofs.YtmjcnomgpikncaaGreatDoor

/-! The number of an error of the protocols. -/
namespace Go.Proofs.YtmjcnomgpikncaaGreatDoor

open Go.RowKit Go.Deep

set_option linter.unusedVariables false

set_option linter.unusedSimpArgs false

/-- The library's two ends of what is read lie in their variables. -/
def EofAt (w : World) : Prop := ∃ a b : Addr, w.cell? ⟨0, 0, none⟩ = some (.iface 238 (.pointer (some a))) ∧ w.cell? ⟨1, 0, none⟩ = some (.iface 238 (.pointer (some b)))

theorem EofAt.lt {w : World} (h : EofAt w) : 1 < w.heap.size := by
  obtain ⟨a, b, h1, h2⟩ := h
  exact World.block_lt_of_cell? w _ h2

theorem EofAt.below {w w1 : World} (h : EofAt w) {B : Nat} (hB : Below B w w1) (hb : 1 < B) : EofAt w1 := by
  obtain ⟨a, b, h1, h2⟩ := h
  exact ⟨a, b, (hB.cell (p := ⟨0, 0, none⟩) (by show 0 < B; omega)).trans h1, (hB.cell (p := ⟨1, 0, none⟩) hb).trans h2⟩

theorem exc_own (b : Nat) (w : World) : (Instr.typeAssert (.iface 235 (.pointer (some ⟨b, 0, none⟩))) 83 157 true).run Tryz.prog w = .ok (.tuple #[.int .i64 0, .bool false]) w := by kernel_rfl

theorem exc_texc (b : Nat) (w : World) : (Instr.typeAssert (.iface 235 (.pointer (some ⟨b, 0, none⟩))) 83 160 true).run Tryz.prog w = .ok (.tuple #[.iface 235 (.pointer (some ⟨b, 0, none⟩)), .bool true]) w := by kernel_rfl

theorem exc_prot (b : Nat) (w : World) : (Instr.typeAssert (.iface 235 (.pointer (some ⟨b, 0, none⟩))) 160 165 true).run Tryz.prog w = .ok (.tuple #[.iface 235 (.pointer (some ⟨b, 0, none⟩)), .bool true]) w := by kernel_rfl

noncomputable def rowP : Method := (((Tryz.prog.info? 235).getD default).methods.find? (·.name == "TExceptionType")).getD default

theorem rowP_is : ((Tryz.prog.info? 235).getD default).methods.find? (·.name == "TExceptionType") = some rowP := by kernel_rfl

theorem rowP_path : rowP.path.size = 0 := by kernel_rfl

theorem rowP_func : rowP.func = some (280, false) := by kernel_rfl

theorem rowP_recv (s : String) (p : Nat) (w : World) : (receiverAt 235 (.val (.pointer (some ⟨p, 0, none⟩))) false (some s)).run Tryz.prog w = (loadVar 237 ⟨p, 0, none⟩).run Tryz.prog w := by kernel_rfl

theorem exc_m1 (k p : Nat) (a b c : Value) (w : World) (h0 : w.cell? ⟨p, 0, none⟩ = some a) (h1 : w.cell? ⟨p, 1, none⟩ = some b) (h2 : w.cell? ⟨p, 2, none⟩ = some c) :
    (method (k + 1) 235 (.pointer (some ⟨p, 0, none⟩)) "TExceptionType").run Tryz.prog w = .ok (280, .agg #[a, b, c]) w := by
  have ht : (typeInfo 235).run Tryz.prog w = .ok ((Tryz.prog.info? 235).getD default) w := by kernel_rfl
  have hp : rowP.path = #[] := Array.eq_empty_of_size_eq_zero rowP_path
  have hf : (follow [] 235 (.val (.pointer (some ⟨p, 0, none⟩)))).run Tryz.prog w = .ok (235, .val (.pointer (some ⟨p, 0, none⟩))) w := by kernel_rfl
  have hv : (loadVar 237 ⟨p, 0, none⟩).run Tryz.prog w = .ok (.agg #[a, b, c]) w := by go_simp
  unfold method
  generalize ("TExceptionType".splitOn ".").getLastD "TExceptionType" = s
  simp only [Sem.run_bind, ht, Result.andThen, rowP_is, rowP_func, hp, hf]
  rw [show (if (#[] : Array FieldStep).isEmpty = true then some s else none) = some s from rfl, rowP_recv s p w, hv]
  rfl

theorem exc_n1 (k b : Nat) (w : World) : (nilAhead (k + 1) 235 (.pointer (some ⟨b, 0, none⟩)) "TExceptionType").run Tryz.prog w = .ok (some false) w := by kernel_rfl

theorem exc_m2 (k b : Nat) (w : World) : (method (k + 1) 235 (.pointer (some ⟨b, 0, none⟩)) "TypeId").run Tryz.prog w = .ok (281, .pointer (some ⟨b, 0, none⟩)) w := by kernel_rfl

theorem exc_n2 (k b : Nat) (w : World) : (nilAhead (k + 1) 235 (.pointer (some ⟨b, 0, none⟩)) "TypeId").run Tryz.prog w = .ok (some false) w := by kernel_rfl

set_option maxRecDepth 100000 in
set_option maxHeartbeats 2000000 in
theorem kind_exc (b t : Nat) (er ms : Value) (w : World) (ht : t ≤ 6) (hb : w.heap[b]? = some (.cells #[.int .i64 (t : Nat), er, ms] 237 (0, 0))) (hE : EofAt w) :
    Calls Tryz.prog 47 #[.iface 235 (.pointer (some ⟨b, 0, none⟩))] w fun e w' => e = .returned (.int .i64 ((10 + t : Nat) : Int)) ∧ Below w.heap.size w w' := by
  obtain ⟨a0, a1, e0, e1⟩ := hE
  have h1 := exc_own b
  have h2 := exc_texc b
  have h3 := exc_prot b
  have h4 := exc_m1
  have h5 := exc_n1
  have h6 := exc_m2
  have h7 := exc_n2
  have hbl := lt_heap hb
  have c0 : w.cell? ⟨b, 0, none⟩ = some (.int .i64 (t : Nat)) := (cell_heap hb 0).trans rfl
  have c1 : w.cell? ⟨b, 1, none⟩ = some er := (cell_heap hb 1).trans rfl
  have c2 : w.cell? ⟨b, 2, none⟩ = some ms := (cell_heap hb 2).trans rfl
  clear hb
  have hq0 : ∀ w : World, (binOp .eql 83 (.iface 235 (.pointer (some ⟨b, 0, none⟩))) (.iface 238 (.pointer (some a0)))).run Tryz.prog w = .ok (.bool false) w := fun w => run_eql_iface_types _ _ _ _ Tryz.underlying83 (by decide) w
  have hq1 : ∀ w : World, (binOp .eql 83 (.iface 235 (.pointer (some ⟨b, 0, none⟩))) (.iface 238 (.pointer (some a1)))).run Tryz.prog w = .ok (.bool false) w := fun w => run_eql_iface_types _ _ _ _ Tryz.underlying83 (by decide) w
  go_enter Tryz.func47, Tryz.ntmps47
  go_wp2_with (first | (go_at_call 280; go_in) | (go_at_call 281; go_in))
  go_ret
  exact ⟨by congr 2, (Below.refl _ _).alloc (Nat.le_refl _) _⟩

/-- The number of an error of a protocol, or of none. -/
theorem kind_any {k : Nat} {ev : Value} {w : World} (h : IsErr k ev w) (hE : EofAt w) : Calls Tryz.prog 47 #[ev] w fun e w' => e = .returned (.int .i64 (k : Nat)) ∧ Below w.heap.size w w' := by
  rcases h with ⟨rfl, rfl⟩ | ⟨b, t, er, ms, rfl, h2, rfl, h4⟩
  · exact (kind_nil w).mono fun e w' ⟨h1, h2⟩ => ⟨h1, by subst h2; exact Below.refl _ _⟩
  · exact kind_exc b t er ms w h2 h4 hE

end Go.Proofs.YtmjcnomgpikncaaGreatDoor
