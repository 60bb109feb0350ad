/- Put of single values. No condition. -/
import Derived.Test.YthmkkbihfdcbiaaGreatDoorMc
import Derived.Test.YthmkkbihfdcbiaaGreatDoorMd1
import Derived.Outline
import Derived.Deep.LoopGhost
import Derived.Deep.DeepCutAuto
import Derived.Deep.CutBlock
/-! A value of a scalar type is put by whatever protocol. Printed by a program (wip/tools/puts.py). -/
namespace Go.Proofs.YthmkkbihfdcbiaaGreatDoor

open Go.RowKit Go.Deep Go.Proofs.YthmkkbihfdcbiaaGreatDoorW.PrintWords

set_option linter.unusedVariables false

set_option linter.unusedSimpArgs false

theorem runs_one {σ : Type} (run : σ → WOp → σ × Nat) (o : WOp) (s : σ) : runs run [o] s = run s o := by
  simp only [runs]
  split
  · rename_i h
    exact Prod.ext rfl h.symm
  · rfl

/-- What a call of a protocol wants and leaves, at a world that is to come. -/
theorem PW.at_ (P : PW) {S : List Nat} {s : P.σ} {w : World} (h : P.Is S s w) (o : WOp) (hb : o.isBin = false) (hf : o.fit) (hr : P.room s + o.cost ≤ 140737488355328) :
    ∀ W, Step [] [] w W → Calls Tryz.prog (P.fn o.nm) (o.argv P.ptr) W (Did P.Is S W (P.run s o)) := fun W hW =>
  P.does (P.step h hW (by simp)) o hb hf hr

theorem uuid_of {A : Option Addr} (c : Nat) {xs : List Int} {W : World} (h : (Kd.int .u8).C W A xs.length xs) (h8 : ∀ x ∈ xs, 0 ≤ x ∧ x < 256) :
    Calls Tryz.prog 51 #[.slice A xs.length c] W fun e w' => e = .returned (.agg (Lib.byteCells (u16 (toB xs))).toArray) ∧ Below W.heap.size W w' := by
  by_cases h0 : xs.length = 0
  · obtain rfl : xs = [] := List.length_eq_zero_iff.1 h0
    exact uuid_none A c W
  · obtain ⟨ad, rfl, hc⟩ := h.2.2 (by omega)
    have hcell : ∀ j v, (Lib.byteCells (toB xs))[j]? = some v → W.cell? (ad.add j) = some v := fun j v hj => by
      have hj' : ∃ x, xs[j]? = some x ∧ v = .int .u8 x := by
        simp only [Lib.byteCells, toB, List.map_map, List.getElem?_map, Option.map_eq_some_iff] at hj
        obtain ⟨x, hx, rfl⟩ := hj
        refine ⟨x, hx, ?_⟩
        have := h8 x (List.mem_of_getElem? hx)
        simp only [Function.comp]
        congr 1
        show ((x.toNat % 256 : Nat) : Int) = x
        omega
      obtain ⟨x, hx, rfl⟩ := hj'
      obtain ⟨cs, hl, he, hcs⟩ := hc j x hx
      obtain rfl : cs = [.int .u8 x] := he
      have := hcs 0 _ rfl
      simpa [Kd.int, Kd.scalar] using this
    have hblk : ad.block < W.heap.size := by
      obtain ⟨x, hx⟩ : ∃ x, (Lib.byteCells (toB xs))[0]? = some x := by
        cases xs with
        | nil => simp at h0
        | cons x l => exact ⟨_, rfl⟩
      have := hcell 0 x hx
      have h3 := block_lt_of_cell this
      rwa [Lib.block_add] at h3
    exact uuid_some ad xs.length c (toB xs) W (by simp [toB]) hblk hcell

theorem PW.fresh (P : PW) {S : List Nat} {s : P.σ} {w : World} (h : P.Is S s w) : w.heap.size ∉ S := fun hm => Nat.lt_irrefl _ (P.lt h _ hm)

end Go.Proofs.YthmkkbihfdcbiaaGreatDoor

/-! A value of a scalar type is put by whatever protocol. Printed by a program (wip/tools/puts.py). -/
namespace Go.Proofs.YthmkkbihfdcbiaaGreatDoor

open Go.RowKit Go.Deep Go.Proofs.YthmkkbihfdcbiaaGreatDoorW.PrintWords

set_option linter.unusedVariables false

set_option linter.unusedSimpArgs false

end Go.Proofs.YthmkkbihfdcbiaaGreatDoor

/-! Values are put, one behind the other. -/
namespace Go.Proofs.YthmkkbihfdcbiaaGreatDoor

open Go.RowKit Go.Deep Go.Proofs.YthmkkbihfdcbiaaGreatDoorW.PrintWords

set_option linter.unusedVariables false

set_option linter.unusedSimpArgs false

end Go.Proofs.YthmkkbihfdcbiaaGreatDoor

/-! A struct is put. -/
namespace Go.Proofs.YthmkkbihfdcbiaaGreatDoor

open Go.RowKit Go.Deep Go.Proofs.YthmkkbihfdcbiaaGreatDoorW.PrintWords

set_option linter.unusedVariables false

set_option linter.unusedSimpArgs false

end Go.Proofs.YthmkkbihfdcbiaaGreatDoor

/-! A value of a type that holds others is put. Printed by a program (wip/tools/putmany.py). -/
namespace Go.Proofs.YthmkkbihfdcbiaaGreatDoor

open Go.RowKit Go.Deep Go.Proofs.YthmkkbihfdcbiaaGreatDoorW.PrintWords

set_option linter.unusedVariables false

set_option linter.unusedSimpArgs false

end Go.Proofs.YthmkkbihfdcbiaaGreatDoor

/-! A value is put by whatever protocol: what it keeps, what it tells. -/
namespace Go.Proofs.YthmkkbihfdcbiaaGreatDoor

open Go.RowKit Go.Deep Go.Proofs.YthmkkbihfdcbiaaGreatDoorW.PrintWords

set_option linter.unusedVariables false

set_option linter.unusedSimpArgs false

end Go.Proofs.YthmkkbihfdcbiaaGreatDoor
