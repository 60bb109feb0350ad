/- A configuration that comes in as data, opened: its seven fields. -/
import Derived.Test.YtdafkilgakablaaGreatDoorProg
import Derived.Test.YtdafkilgakablaaGreatDoorMc
import Derived.ProofKit
import Derived.Lib.SmallJoins
namespace Go.Proofs.YtdafkilgakablaaGreatDoor
open Go.RowKit Go.ChangeShapes Go.WideShapes
set_option linter.unusedVariables false
set_option linter.unusedSimpArgs false

theorem array7 {α : Type} {cs : Array α} (h : cs.size = 7) : ∃ c0 c1 c2 c3 c4 c5 c6, cs = #[c0, c1, c2, c3, c4, c5, c6] := by
  obtain ⟨l⟩ := cs
  match l, h with
  | [c0, c1, c2, c3, c4, c5, c6], _ => exact ⟨c0, c1, c2, c3, c4, c5, c6, rfl⟩

theorem list7 {α : Type} {l : List α} (h : l.length = 7) : ∃ c0 c1 c2 c3 c4 c5 c6, l = [c0, c1, c2, c3, c4, c5, c6] := by
  match l, h with
  | [c0, c1, c2, c3, c4, c5, c6], _ => exact ⟨c0, c1, c2, c3, c4, c5, c6, rfl⟩

theorem cellsConf : Tryz.prog.cellsOf 23 = 7 := by kernel_rfl
theorem cellsInt : Tryz.prog.cellsOf 3 = 1 := by kernel_rfl
theorem cellsBool : Tryz.prog.cellsOf 4 = 1 := by kernel_rfl
theorem cellsI32 : Tryz.prog.cellsOf 21 = 1 := by kernel_rfl

set_option maxRecDepth 100000 in
theorem open_conf {H : Type} {enc : TypeId × Value → H} {w : World} {base : Nat} {spare : Nat → Bool} {held : Bool} {r : Reach} {b0 : Nat} {v : Value} {d : DataW H} {p : List MemPlace}
    (hv : Value.okWide Tryz.prog w r b0 23 v) (h : DataW.Trod enc Tryz.prog w base spare held 23 v d p) :
    ∃ proto plain rb sb ms ct fr, v = confV proto plain rb sb ms ct fr ∧ (Lit.int .i64 proto).wf = true ∧ (Lit.int .i32 ms).wf = true ∧ (Lit.int .i32 ct).wf = true ∧ (Lit.int .i32 fr).wf = true := by
  obtain ⟨cs, rfl, hsz⟩ := okWide_struct Tryz.underlying23 hv
  obtain ⟨c0, c1, c2, c3, c4, c5, c6, rfl⟩ := array7 (hsz.trans cellsConf)
  obtain ⟨fuel, hf⟩ := h
  obtain ⟨xs, n, _, _, _, hlen, hf⟩ := DataW.trod_struct Tryz.underlying23 hf
  obtain ⟨y0, y1, y2, y3, y4, y5, y6, rfl⟩ := list7 hlen
  have h0 := hf 0 _ rfl
  have h1 := hf 1 _ rfl
  have h2 := hf 2 _ rfl
  have h3 := hf 3 _ rfl
  have h4 := hf 4 _ rfl
  have h5 := hf 5 _ rfl
  have h6 := hf 6 _ rfl
  clear hf hlen hv hsz
  obtain ⟨a0, e0, _, w0⟩ := DataW.trod_int Tryz.underlying3 (x := y0) h0
  obtain ⟨a1, e1, _⟩ := DataW.trod_bool Tryz.underlying4 (x := y1) h1
  obtain ⟨a2, e2, _⟩ := DataW.trod_bool Tryz.underlying4 (x := y2) h2
  obtain ⟨a3, e3, _⟩ := DataW.trod_bool Tryz.underlying4 (x := y3) h3
  obtain ⟨a4, e4, _, w4⟩ := DataW.trod_int Tryz.underlying21 (x := y4) h4
  obtain ⟨a5, e5, _, w5⟩ := DataW.trod_int Tryz.underlying21 (x := y5) h5
  obtain ⟨a6, e6, _, w6⟩ := DataW.trod_int Tryz.underlying21 (x := y6) h6
  replace e0 : List.take (Tryz.prog.cellsOf 3) [c0, c1, c2, c3, c4, c5, c6] = _ := e0
  replace e1 : List.take (Tryz.prog.cellsOf 4) [c1, c2, c3, c4, c5, c6] = _ := e1
  replace e2 : List.take (Tryz.prog.cellsOf 4) [c2, c3, c4, c5, c6] = _ := e2
  replace e3 : List.take (Tryz.prog.cellsOf 4) [c3, c4, c5, c6] = _ := e3
  replace e4 : List.take (Tryz.prog.cellsOf 21) [c4, c5, c6] = _ := e4
  replace e5 : List.take (Tryz.prog.cellsOf 21) [c5, c6] = _ := e5
  replace e6 : List.take (Tryz.prog.cellsOf 21) [c6] = _ := e6
  rw [cellsInt] at e0
  rw [cellsBool] at e1 e2 e3
  rw [cellsI32] at e4 e5 e6
  simp at e0 e1 e2 e3 e4 e5 e6
  subst e0 e1 e2 e3 e4 e5 e6
  exact ⟨_, _, _, _, _, _, _, rfl, w0, w4, w5, w6⟩

end Go.Proofs.YtdafkilgakablaaGreatDoor
