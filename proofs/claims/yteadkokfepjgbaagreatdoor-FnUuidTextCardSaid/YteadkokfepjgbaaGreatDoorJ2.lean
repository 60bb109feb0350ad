/- An identifier's sixteen bytes as the implementation takes them. -/
import Derived.Test.YteadkokfepjgbaaGreatDoorJ1
import Derived.Laws.CopyRow
import Derived.Deep.MidRow
namespace Go.Proofs.YteadkokfepjgbaaGreatDoor
open Go.RowKit Go.Deep
set_option linter.unusedVariables false
set_option linter.unusedSimpArgs false

/-- A slice value that holds the bytes l. -/
def Holds (w : World) (a : Option Addr) (len : Nat) (l : List UInt8) : Prop :=
  l.length = len ∧ (len = 0 ∨ ∃ x, a = some x ∧ x.block < w.heap.size ∧ ∀ j v, (Lib.byteCells l)[j]? = some v → w.cell? (x.add j) = some v)

/-- The first sixteen bytes, with zeros behind what is lacking. -/
def u16 (l : List UInt8) : List UInt8 := (l ++ List.replicate 16 0).take 16

theorem u16_length (l : List UInt8) : (u16 l).length = 16 := by simp [u16]

theorem infoUuid : (Tryz.prog.info? 66).map (·.size) = some 16 := by kernel_rfl

/-- What is in the sixteen cells of the variable. -/
structure UuidReady (w W2 : World) (l : List UInt8) : Prop where
  below : Below w.heap.size w W2
  range : W2.rangeAt (w.heap.size + 1) 0 (Lib.byteCells (u16 l))
  there : W2.there w.heap.size 0 16

/-- The end of the walk: the variable is read, the result is written, and read. -/
theorem uuid_results (w W2 : World) (l : List UInt8) (h : UuidReady w W2 l) : Below w.heap.size w (W2.setCells w.heap.size 0 (Lib.byteCells (u16 l))) ∧ (W2.setCells w.heap.size 0 (Lib.byteCells (u16 l))).rangeAt w.heap.size 0 (Lib.byteCells (u16 l)) := by
  have hl : (Lib.byteCells (u16 l)).length = 16 := by rw [Lib.byteCells_length, u16_length]
  refine ⟨?_, World.rangeAt_setCells_same _ _ _ _ (by rw [hl]; exact h.there)⟩
  exact h.below.trans (((Step.refl [w.heap.size] W2).setCells (.inl (by simp)) 0 _).below _ h.below.size (by simp))

/-- One result that is a variable in memory. -/
theorem results_cell {fn : Func} {s : Tmp} {t : TypeId} (h : fn.results = #[.cell s t]) (tmps : Array Value) (P : Program) (w : World) {ad : Addr} {v : Value} (hs : tmps.getD s undef = .pointer (some ad)) (hrun : (loadVar t ad).run P w = .ok v w) :
    (results fn tmps).run P w = .ok v w := by
  have hs' : tmps[s]?.getD undef = .pointer (some ad) := by simpa using hs
  simp [results, h, hs', asAddr, hrun, Result.andThen]

set_option maxRecDepth 100000 in
set_option maxHeartbeats 1000000 in
theorem uuid_none (a : Option Addr) (cap : Nat) (w : World) : Calls Tryz.prog 40 #[.slice a 0 cap] w fun e w' => e = .returned (.agg (Lib.byteCells (u16 [])).toArray) ∧ Below w.heap.size w w' := by
  have hcp := fun (W : World) d => run_copy_none (P := Tryz.prog) W 29 29 3 5 d a 16 16 0 cap Tryz.underlying29 size8 rfl
  have hZ : ∀ c cc : Array Value, c = (Lib.byteCells (u16 [])).toArray → cc = c → UuidReady w ((w.alloc (.cells c 66)).alloc (.cells cc 66)) [] := fun c cc h1 h2 => by
    subst h2 h1
    have hl : (Lib.byteCells (u16 [])).length = 16 := by rw [Lib.byteCells_length, u16_length]
    refine ⟨((Below.refl w.heap.size w).alloc (Nat.le_refl _) _).alloc (by simp) _, fun j v hj => ?_, fun j hj => ?_⟩
    · rw [cell_heap (heap_alloc_at (by simp) _), Nat.zero_add]
      simpa using hj
    · have hh := heap_alloc_old (heap_alloc_new w (.cells (Lib.byteCells (u16 [])).toArray 66)) (.cells (Lib.byteCells (u16 [])).toArray 66)
      refine ⟨?_, frozen_heap hh _⟩
      rw [cell_heap hh, Nat.zero_add]
      simp [hl, hj]
  go_enter Tryz.func40, Tryz.ntmps40
  go_wp2_with (first
    | (refine wpList_load_mid rfl 66 _ rfl (w.heap.size + 1) 0 rfl (Lib.byteCells (u16 [])) _ (hZ _ _ (by rfl) (by rfl)).range Tryz.underlying66 rfl (by rw [Lib.byteCells_length, u16_length]; exact infoUuid) ?_)
    | (refine wpList_store_mid rfl 66 _ _ rfl w.heap.size 0 (Lib.byteCells (u16 [])).toArray rfl rfl (by simpa [Lib.byteCells_length, u16_length] using (hZ _ _ (by rfl) (by rfl)).there) (by simp only [List.size_toArray, Lib.byteCells_length, u16_length]; exact infoUuid) (all_oneCell_toArray (Lib.byteCells_one _)) ?_))
  obtain ⟨hB, hR⟩ := uuid_results w _ [] (hZ _ _ (by rfl) (by rfl))
  have hrun := run_loadVar_mid (P := Tryz.prog) _ w.heap.size 0 66 (Lib.byteCells (u16 [])) _ hR Tryz.underlying66 rfl (by rw [Lib.byteCells_length, u16_length]; exact infoUuid)
  exact bodyPost_ret (v := .agg (Lib.byteCells (u16 [])).toArray) (results_cell Tryz.results40 _ _ _ (by rfl) hrun) rfl ⟨rfl, hB⟩

theorem u16_cells (l : List UInt8) : ((#[.int .u8 0, .int .u8 0, .int .u8 0, .int .u8 0, .int .u8 0, .int .u8 0, .int .u8 0, .int .u8 0, .int .u8 0, .int .u8 0, .int .u8 0, .int .u8 0, .int .u8 0, .int .u8 0, .int .u8 0, .int .u8 0] : Array Value).toList.take 0) ++ Lib.byteCells (l.take 16) ++ ((#[.int .u8 0, .int .u8 0, .int .u8 0, .int .u8 0, .int .u8 0, .int .u8 0, .int .u8 0, .int .u8 0, .int .u8 0, .int .u8 0, .int .u8 0, .int .u8 0, .int .u8 0, .int .u8 0, .int .u8 0, .int .u8 0] : Array Value).toList.drop (0 + (Lib.byteCells (l.take 16)).length)) = Lib.byteCells (u16 l) := by
  have e : ((#[.int .u8 0, .int .u8 0, .int .u8 0, .int .u8 0, .int .u8 0, .int .u8 0, .int .u8 0, .int .u8 0, .int .u8 0, .int .u8 0, .int .u8 0, .int .u8 0, .int .u8 0, .int .u8 0, .int .u8 0, .int .u8 0] : Array Value).toList) = Lib.byteCells (List.replicate 16 0) := rfl
  rw [e, u16, List.take_append]
  simp [Lib.byteCells, List.take_replicate]
  show List.drop (min 16 l.length) (List.replicate 16 (Value.int .u8 0)) = List.take (16 - l.length) (List.replicate 16 (Value.int .u8 0))
  rw [List.drop_replicate, List.take_replicate]
  congr 1
  omega

set_option maxRecDepth 100000 in
set_option maxHeartbeats 1000000 in
theorem uuid_some (x : Addr) (len cap : Nat) (l : List UInt8) (w : World) (hl : l.length = len) (hxb : x.block < w.heap.size) (hc : ∀ j v, (Lib.byteCells l)[j]? = some v → w.cell? (x.add j) = some v) :
    Calls Tryz.prog 40 #[.slice (some x) len cap] w fun e w' => e = .returned (.agg (Lib.byteCells (u16 l)).toArray) ∧ Below w.heap.size w w' := by
  have hsrc : ∀ c cc, ∀ j v, (Lib.byteCells (l.take 16))[j]? = some v → ((w.alloc c).alloc cc).cell? (x.add j) = some v := fun c cc j v hj => by
    have hxj : (x.add j).block < w.heap.size := by rw [Lib.block_add]; exact hxb
    rw [World.cell?_of_block (w := w) ((Below.heap_alloc _ _ _ (by simp; omega)).trans (Below.heap_alloc _ _ _ hxj))]
    refine hc j v ?_
    rw [Lib.byteCells, List.map_take, List.getElem?_take] at hj
    split at hj
    · exact hj
    · cases hj
  have hcp := run_copy_row (P := Tryz.prog) ((w.alloc (.cells #[.int .u8 0, .int .u8 0, .int .u8 0, .int .u8 0, .int .u8 0, .int .u8 0, .int .u8 0, .int .u8 0, .int .u8 0, .int .u8 0, .int .u8 0, .int .u8 0, .int .u8 0, .int .u8 0, .int .u8 0, .int .u8 0] 66)).alloc (.cells #[.int .u8 0, .int .u8 0, .int .u8 0, .int .u8 0, .int .u8 0, .int .u8 0, .int .u8 0, .int .u8 0, .int .u8 0, .int .u8 0, .int .u8 0, .int .u8 0, .int .u8 0, .int .u8 0, .int .u8 0, .int .u8 0] 66)) 29 29 3 5 (w.heap.size + 1) 0 16 16 x len cap #[.int .u8 0, .int .u8 0, .int .u8 0, .int .u8 0, .int .u8 0, .int .u8 0, .int .u8 0, .int .u8 0, .int .u8 0, .int .u8 0, .int .u8 0, .int .u8 0, .int .u8 0, .int .u8 0, .int .u8 0, .int .u8 0] 66 (Lib.byteCells (l.take 16)) Tryz.underlying29 size8 (heap_alloc_at (by simp) _) (by simp [Lib.byteCells_length, hl, Nat.min_comm]) (hsrc _ _) (by simp [Lib.byteCells_length]; omega) (Lib.byteCells_one _)
  rw [u16_cells l] at hcp
  obtain ⟨W2, hW2⟩ : ∃ W2, ((w.alloc (.cells #[.int .u8 0, .int .u8 0, .int .u8 0, .int .u8 0, .int .u8 0, .int .u8 0, .int .u8 0, .int .u8 0, .int .u8 0, .int .u8 0, .int .u8 0, .int .u8 0, .int .u8 0, .int .u8 0, .int .u8 0, .int .u8 0] 66)).alloc (.cells #[.int .u8 0, .int .u8 0, .int .u8 0, .int .u8 0, .int .u8 0, .int .u8 0, .int .u8 0, .int .u8 0, .int .u8 0, .int .u8 0, .int .u8 0, .int .u8 0, .int .u8 0, .int .u8 0, .int .u8 0, .int .u8 0] 66)).setRow (w.heap.size + 1) (Lib.byteCells (u16 l)).toArray = W2 := ⟨_, rfl⟩
  rw [hW2] at hcp
  have hlen : (Lib.byteCells (u16 l)).length = 16 := by rw [Lib.byteCells_length, u16_length]
  have hZ : UuidReady w W2 l := by
    rw [← hW2]
    refine ⟨(((Below.refl w.heap.size w).alloc (Nat.le_refl _) _).alloc (by simp) _).trans ((Step.setRow (Step.refl [w.heap.size + 1] _) (.inl (by simp)) _).below w.heap.size (by simp <;> omega) (by simp)), fun j v hj => ?_, fun j hj => ?_⟩
    · rw [cell_heap (setRow_heap _ _ _ _ _ _ (heap_alloc_at (by simp) _)), Nat.zero_add]
      simpa using hj
    · have hh : (((w.alloc (.cells #[.int .u8 0, .int .u8 0, .int .u8 0, .int .u8 0, .int .u8 0, .int .u8 0, .int .u8 0, .int .u8 0, .int .u8 0, .int .u8 0, .int .u8 0, .int .u8 0, .int .u8 0, .int .u8 0, .int .u8 0, .int .u8 0] 66)).alloc (.cells #[.int .u8 0, .int .u8 0, .int .u8 0, .int .u8 0, .int .u8 0, .int .u8 0, .int .u8 0, .int .u8 0, .int .u8 0, .int .u8 0, .int .u8 0, .int .u8 0, .int .u8 0, .int .u8 0, .int .u8 0, .int .u8 0] 66)).setRow (w.heap.size + 1) (Lib.byteCells (u16 l)).toArray).heap[w.heap.size]? = some (.cells #[.int .u8 0, .int .u8 0, .int .u8 0, .int .u8 0, .int .u8 0, .int .u8 0, .int .u8 0, .int .u8 0, .int .u8 0, .int .u8 0, .int .u8 0, .int .u8 0, .int .u8 0, .int .u8 0, .int .u8 0, .int .u8 0] 66 (0, 0)) := by
        rw [setRow_other _ _ _ _ (by omega)]; exact heap_alloc_old (heap_alloc_new w _) _
      refine ⟨?_, frozen_heap hh _⟩
      rw [cell_heap hh, Nat.zero_add]
      simp; omega
  have HZ := Lib.hid hZ
  clear hZ hW2 hsrc
  go_enter Tryz.func40, Tryz.ntmps40
  go_wp2_with (first
    | (refine wpList_load_mid rfl 66 _ rfl (w.heap.size + 1) 0 rfl (Lib.byteCells (u16 l)) _ HZ.out.range Tryz.underlying66 rfl (by rw [hlen]; exact infoUuid) ?_)
    | (refine wpList_store_mid rfl 66 _ _ rfl w.heap.size 0 (Lib.byteCells (u16 l)).toArray rfl rfl (by simpa [hlen] using HZ.out.there) (by simp only [List.size_toArray, hlen]; exact infoUuid) (all_oneCell_toArray (Lib.byteCells_one _)) ?_))
  obtain ⟨hB, hR⟩ := uuid_results w _ l HZ.out
  have hrun := run_loadVar_mid (P := Tryz.prog) _ w.heap.size 0 66 (Lib.byteCells (u16 l)) _ hR Tryz.underlying66 rfl (by rw [hlen]; exact infoUuid)
  exact bodyPost_ret (v := .agg (Lib.byteCells (u16 l)).toArray) (results_cell Tryz.results40 _ _ _ (by rfl) hrun) rfl ⟨rfl, hB⟩

end Go.Proofs.YteadkokfepjgbaaGreatDoor
