/- The compact protocol over a memory buffer: a number of four bytes is written. -/
import Derived.Test.YteadkokfepjgbaaGreatDoorE1
namespace Go.Proofs.YteadkokfepjgbaaGreatDoor
open Go.RowKit Go.Deep
set_option linter.unusedVariables false
set_option linter.unusedSimpArgs false

set_option maxRecDepth 100000 in
set_option maxHeartbeats 2000000 in
theorem cmp_writeI32 (p m b g : Nat) (og cf : Value) (s : CS) (sc : List Value) (l : List UInt8) (cx : Value) (x : Int) (w : World) (hp : Cmp p (memV m) og cf s sc w) (h : Mem m b g 0 (Lib.byteCells l) w) (hpm : p ≠ m) (hpb : p ≠ b) (hpg : p ≠ g)
    (h0 : -2147483648 ≤ x) (h1 : x < 2147483648) (hlim : l.length + 5 ≤ 140737488355328) :
    Calls Tryz.prog 172 #[.pointer (some ⟨p, 0, none⟩), cx, .int .i32 x] w fun e w' => e = .returned .nilIface ∧
      ∃ g1 sc1, Cmp p (memV m) og cf s sc1 w' ∧ Mem m b g1 0 (Lib.byteCells (l ++ Lib.uvarint (Lib.zigzag x))) w' ∧ Step [p, b, g] [p, b, g1] w w' := by
  obtain ⟨hz, hz2⟩ := i32_zigzag x h0 h1
  have hn : (bits .xor .i32 (wrap32 (x * 2)) (x / 2147483648)) % 4294967296 = (Lib.zigzag x : Nat) := by
    have e : wrap32 (x * 2) = IntKind.i32.wrap (x * 2) := by rw [IntKind.wrap_i32]; unfold wrap32; omega
    rw [e, hz, IntKind.wrap_i32]
    omega
  have hW := cmp_writeVarint32 p m b g og cf s sc l _ _ w hp h hpm hpb hpg hn hlim
  have HW := Lib.hid hW
  clear hW hn hz
  go_enter Tryz.func172, Tryz.ntmps172
  go_wp2_with (first | (go_at_call 66; go_in))
  refine HW.out.mono ?_
  rintro e W1 ⟨rfl, g1, sc1, hc, hm, hs⟩
  go_wp2_with (first | (go_at_call 184; go_in))
  go_ret
  exact ⟨rfl, g1, sc1, hc, hm, hs⟩

end Go.Proofs.YteadkokfepjgbaaGreatDoor
