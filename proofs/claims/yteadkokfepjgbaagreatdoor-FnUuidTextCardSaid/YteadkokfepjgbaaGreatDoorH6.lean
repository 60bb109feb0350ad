/- The texts of application exceptions: the table of them, and what both Fault functions answer. -/
import Derived.Test.YteadkokfepjgbaaGreatDoorG7
import Derived.MapKept
namespace Go.Proofs.YteadkokfepjgbaaGreatDoor
open Go.RowKit Go.Deep
set_option linter.unusedVariables false
set_option linter.unusedSimpArgs false

/-- A new key is stored into a map of numbers' keys. -/
theorem insert_new {w : World} {r : Nat} {es : Array MapEntry} {clock : Nat} (x : Int) (v : Value) (hb : w.heap[r]? = some (.map es clock)) (hf : Instr.findNow (.int .i32) (.int .i32 x) es.toList 0 = some none) :
    ∃ w1, (Instr.mapUpdate 315 (.map (some r)) (.int .i32 x) v).run Tryz.prog w = .ok () w1 ∧ w1.heap[r]? = some (.map (es.push { key := .int .i32 x, val := v, born := clock }) (clock + 1)) ∧ Step [r] [r] w w1 := by
  have hk : MapKept.IsKey (.int .i32) (.int .i32 x) := rfl
  refine ⟨{ w with heap := w.heap.setIfInBounds r (.map (es.push { key := .int .i32 x, val := v, born := clock }) (clock + 1)) }, ?_, (MapKept.heap_set hb).1, ⟨rfl, rfl, rfl, by simp, fun k hk hn => ?_, fun _ h => .inl h⟩⟩
  · simp [Instr.mapUpdate, run_underlying Tryz.underlying315, MapKept.run_getObj_map hb, MapKept.run_checkKey Tryz.underlying21 hk, MapKept.run_findKey Tryz.underlying21 hf, MapKept.run_setObj_map _ hb, Result.andThen]
  · exact (MapKept.heap_set hb).2 k (by simpa using hn)

theorem look_hit {w : World} {r : Nat} {es : Array MapEntry} {clock i : Nat} (x : Int) (v : Value) (hb : w.heap[r]? = some (.map es clock)) (hf : Instr.findNow (.int .i32) (.int .i32 x) es.toList 0 = some (some (i, v))) :
    (Instr.lookup 315 (.map (some r)) (.int .i32 x) false).run Tryz.prog w = .ok v w := by
  have hk : MapKept.IsKey (.int .i32) (.int .i32 x) := rfl
  simp [Instr.lookup, run_underlying Tryz.underlying315, MapKept.run_getObj_map hb, MapKept.run_checkKey Tryz.underlying21 hk, MapKept.run_findKey Tryz.underlying21 hf, Result.andThen]

theorem look_miss {w : World} {r : Nat} {es : Array MapEntry} {clock : Nat} (x : Int) (hb : w.heap[r]? = some (.map es clock)) (hf : Instr.findNow (.int .i32) (.int .i32 x) es.toList 0 = some none) :
    (Instr.lookup 315 (.map (some r)) (.int .i32 x) false).run Tryz.prog w = .ok (.string ByteArray.empty) w := by
  have hk : MapKept.IsKey (.int .i32) (.int .i32 x) := rfl
  have hz : (zeroValue 9).run Tryz.prog w = .ok (.string ByteArray.empty) w := by kernel_rfl
  simp [Instr.lookup, run_underlying Tryz.underlying315, MapKept.run_getObj_map hb, MapKept.run_checkKey Tryz.underlying21 hk, MapKept.run_findKey Tryz.underlying21 hf, hz, Result.andThen]

/-- The table of texts. -/
def excTab : Array MapEntry := #[{ key := .int .i32 0, val := (.string ⟨#[117, 110, 107, 110, 111, 119, 110, 32, 97, 112, 112, 108, 105, 99, 97, 116, 105, 111, 110, 32, 101, 120, 99, 101, 112, 116, 105, 111, 110]⟩), born := 0 }, { key := .int .i32 1, val := (.string ⟨#[117, 110, 107, 110, 111, 119, 110, 32, 109, 101, 116, 104, 111, 100]⟩), born := 1 }, { key := .int .i32 2, val := (.string ⟨#[105, 110, 118, 97, 108, 105, 100, 32, 109, 101, 115, 115, 97, 103, 101, 32, 116, 121, 112, 101]⟩), born := 2 }, { key := .int .i32 3, val := (.string ⟨#[119, 114, 111, 110, 103, 32, 109, 101, 116, 104, 111, 100, 32, 110, 97, 109, 101]⟩), born := 3 }, { key := .int .i32 4, val := (.string ⟨#[98, 97, 100, 32, 115, 101, 113, 117, 101, 110, 99, 101, 32, 73, 68]⟩), born := 4 }, { key := .int .i32 5, val := (.string ⟨#[109, 105, 115, 115, 105, 110, 103, 32, 114, 101, 115, 117, 108, 116]⟩), born := 5 }, { key := .int .i32 6, val := (.string ⟨#[117, 110, 107, 110, 111, 119, 110, 32, 105, 110, 116, 101, 114, 110, 97, 108, 32, 101, 114, 114, 111, 114]⟩), born := 6 }, { key := .int .i32 7, val := (.string ⟨#[117, 110, 107, 110, 111, 119, 110, 32, 112, 114, 111, 116, 111, 99, 111, 108, 32, 101, 114, 114, 111, 114]⟩), born := 7 }, { key := .int .i32 8, val := (.string ⟨#[73, 110, 118, 97, 108, 105, 100, 32, 116, 114, 97, 110, 115, 102, 111, 114, 109]⟩), born := 8 }, { key := .int .i32 9, val := (.string ⟨#[73, 110, 118, 97, 108, 105, 100, 32, 112, 114, 111, 116, 111, 99, 111, 108]⟩), born := 9 }, { key := .int .i32 10, val := (.string ⟨#[85, 110, 115, 117, 112, 112, 111, 114, 116, 101, 100, 32, 99, 108, 105, 101, 110, 116, 32, 116, 121, 112, 101]⟩), born := 10 }, { key := .int .i32 11, val := (.string ⟨#[118, 97, 108, 105, 100, 97, 116, 105, 111, 110, 32, 102, 97, 105, 108, 101, 100]⟩), born := 11 }]

set_option maxRecDepth 100000 in
set_option maxHeartbeats 4000000 in
theorem exc_table (w : World) : Calls Tryz.prog 216 #[] w fun e w' => ∃ r clock, e = .returned (.map (some r)) ∧ w.heap.size ≤ r ∧ w'.heap[r]? = some (.map excTab clock) ∧ Below w.heap.size w w' := by
  have hmm := @run_makeMap Tryz.prog
  have g0 := heap_alloc_new w (.map #[] 0)
  obtain ⟨W1, u1, g1, s1⟩ := insert_new 0 (.string ⟨#[117, 110, 107, 110, 111, 119, 110, 32, 97, 112, 112, 108, 105, 99, 97, 116, 105, 111, 110, 32, 101, 120, 99, 101, 112, 116, 105, 111, 110]⟩) g0 (by rfl)
  obtain ⟨W2, u2, g2, s2⟩ := insert_new 1 (.string ⟨#[117, 110, 107, 110, 111, 119, 110, 32, 109, 101, 116, 104, 111, 100]⟩) g1 (by rfl)
  obtain ⟨W3, u3, g3, s3⟩ := insert_new 2 (.string ⟨#[105, 110, 118, 97, 108, 105, 100, 32, 109, 101, 115, 115, 97, 103, 101, 32, 116, 121, 112, 101]⟩) g2 (by rfl)
  obtain ⟨W4, u4, g4, s4⟩ := insert_new 3 (.string ⟨#[119, 114, 111, 110, 103, 32, 109, 101, 116, 104, 111, 100, 32, 110, 97, 109, 101]⟩) g3 (by rfl)
  obtain ⟨W5, u5, g5, s5⟩ := insert_new 4 (.string ⟨#[98, 97, 100, 32, 115, 101, 113, 117, 101, 110, 99, 101, 32, 73, 68]⟩) g4 (by rfl)
  obtain ⟨W6, u6, g6, s6⟩ := insert_new 5 (.string ⟨#[109, 105, 115, 115, 105, 110, 103, 32, 114, 101, 115, 117, 108, 116]⟩) g5 (by rfl)
  obtain ⟨W7, u7, g7, s7⟩ := insert_new 6 (.string ⟨#[117, 110, 107, 110, 111, 119, 110, 32, 105, 110, 116, 101, 114, 110, 97, 108, 32, 101, 114, 114, 111, 114]⟩) g6 (by rfl)
  obtain ⟨W8, u8, g8, s8⟩ := insert_new 7 (.string ⟨#[117, 110, 107, 110, 111, 119, 110, 32, 112, 114, 111, 116, 111, 99, 111, 108, 32, 101, 114, 114, 111, 114]⟩) g7 (by rfl)
  obtain ⟨W9, u9, g9, s9⟩ := insert_new 8 (.string ⟨#[73, 110, 118, 97, 108, 105, 100, 32, 116, 114, 97, 110, 115, 102, 111, 114, 109]⟩) g8 (by rfl)
  obtain ⟨W10, u10, g10, s10⟩ := insert_new 9 (.string ⟨#[73, 110, 118, 97, 108, 105, 100, 32, 112, 114, 111, 116, 111, 99, 111, 108]⟩) g9 (by rfl)
  obtain ⟨W11, u11, g11, s11⟩ := insert_new 10 (.string ⟨#[85, 110, 115, 117, 112, 112, 111, 114, 116, 101, 100, 32, 99, 108, 105, 101, 110, 116, 32, 116, 121, 112, 101]⟩) g10 (by rfl)
  obtain ⟨W12, u12, g12, s12⟩ := insert_new 11 (.string ⟨#[118, 97, 108, 105, 100, 97, 116, 105, 111, 110, 32, 102, 97, 105, 108, 101, 100]⟩) g11 (by rfl)
  have hs : Step [w.heap.size] [w.heap.size] (w.alloc (.map #[] 0)) W12 := (((((((((((s1.trans s2).trans s3).trans s4).trans s5).trans s6).trans s7).trans s8).trans s9).trans s10).trans s11).trans s12)
  have hB : Below w.heap.size w W12 := ((Below.refl w.heap.size w).alloc (Nat.le_refl _) _).trans (hs.below _ (by simp) (by simp))
  have HG := Lib.hid g12
  have HB := Lib.hid hB
  clear g0 g1 g2 g3 g4 g5 g6 g7 g8 g9 g10 g11 g12 s1 s2 s3 s4 s5 s6 s7 s8 s9 s10 s11 s12 hs hB
  go_enter Tryz.func216, Tryz.ntmps216
  go_wp2
  go_ret
  exact ⟨w.heap.size, 12, rfl, Nat.le_refl _, HG.out, HB.out⟩

noncomputable def rowE : Method := (((Tryz.prog.info? 118).getD default).methods.find? (·.name == "Error")).getD default
theorem rowE_is : ((Tryz.prog.info? 118).getD default).methods.find? (·.name == "Error") = some rowE := by kernel_rfl
theorem rowE_path : rowE.path.size = 0 := by kernel_rfl
theorem rowE_func : rowE.func = some (210, false) := by kernel_rfl
theorem rowE_recv (s : String) (p : Nat) (w : World) : (receiverAt 118 (.val (.pointer (some ⟨p, 0, none⟩))) false (some s)).run Tryz.prog w = (loadVar 120 ⟨p, 0, none⟩).run Tryz.prog w := by kernel_rfl

theorem exc_method (k p : Nat) (a b c : Value) (w : World) (h0 : w.cell? ⟨p, 0, none⟩ = some a) (h1 : w.cell? ⟨p, 1, none⟩ = some b) (h2 : w.cell? ⟨p, 2, none⟩ = some c) :
    (method (k + 1) 118 (.pointer (some ⟨p, 0, none⟩)) "Error").run Tryz.prog w = .ok (210, .agg #[a, b, c]) w := by
  have ht : (typeInfo 118).run Tryz.prog w = .ok ((Tryz.prog.info? 118).getD default) w := by kernel_rfl
  have hp : rowE.path = #[] := Array.eq_empty_of_size_eq_zero rowE_path
  have hf : (follow [] 118 (.val (.pointer (some ⟨p, 0, none⟩)))).run Tryz.prog w = .ok (118, .val (.pointer (some ⟨p, 0, none⟩))) w := by kernel_rfl
  have hv : (loadVar 120 ⟨p, 0, none⟩).run Tryz.prog w = .ok (.agg #[a, b, c]) w := by go_simp
  unfold method
  generalize ("Error".splitOn ".").getLastD "Error" = s
  simp only [Sem.run_bind, ht, Result.andThen, rowE_is, rowE_func, hp, hf]
  rw [show (if (#[] : Array FieldStep).isEmpty = true then some s else none) = some s from rfl, rowE_recv s p w, hv]
  rfl

theorem exc_nil (k p : Nat) (w : World) : (nilAhead (k + 1) 118 (.pointer (some ⟨p, 0, none⟩)) "Error").run Tryz.prog w = .ok (some false) w := by kernel_rfl


/-- The table's text at a number, as the row is looked up. -/
def TextAt (x : Int) (l : List UInt8) : Prop := ∀ (w : World) (r clock : Nat), w.heap[r]? = some (.map excTab clock) → (Instr.lookup 315 (.map (some r)) (.int .i32 x) false).run Tryz.prog w = .ok (.string ⟨l.toArray⟩) w

set_option maxRecDepth 100000 in
theorem exc_any (x : Int) (l : List UInt8) (hT : TextAt x l) (w : World) : Calls Tryz.prog 210 #[.agg #[.string ByteArray.empty, .int .i32 x, .nilIface]] w fun e w' => e = .returned (.string ⟨l.toArray⟩) ∧ Below w.heap.size w w' := by
  have ht := Lib.hid exc_table
  have HT := Lib.hid hT
  go_enter Tryz.func210, Tryz.ntmps210
  go_wp2_with (fail)
  go_region_held3 (fun W' => W'.cell? ⟨w.heap.size, 1, none⟩ = some (.int .i32 x)) (first | assumption | (simp [go_sem]))
    (first
      | (go_at_call 216; refine (ht.out _).mono ?_; rintro e W1 ⟨r, clock, rfl, hr, hg, hB⟩; have hl := HT.out W1 r clock hg; have hx1 : W1.cell? ⟨w.heap.size, 1, none⟩ = some (.int .i32 x) := (World.cell?_of_block (hB.block _ (by simp))).trans (by simp); clear hg))
  all_goals go_wp2
  all_goals go_ret
  all_goals exact ⟨rfl, ((Below.refl w.heap.size w).alloc (Nat.le_refl _) (.cells #[.string ByteArray.empty, .int .i32 x, .nilIface] 120)).trans (Below.trans ((Below.refl _ _).drew) (hB.mono (by simp)))⟩

theorem conv_IsB {w : World} (l : List UInt8) {e : TypeId} {fz : Nat × Nat} {k cap : Nat} (h1 : l.length ≤ cap) (h2 : cap ≤ maxLen) (hw : w.heap[k]? = some (.cells (bytesRow ⟨l.toArray⟩ cap) e fz)) : IsB (Lib.byteCells l) (.slice (some ⟨k, 0, none⟩) l.length cap) k w := by
  refine ⟨cap, .inr ⟨0, by rw [Lib.byteCells_length], by rw [Lib.byteCells_length]; exact h1, h2, lt_heap hw, fun j x hj => ?_⟩⟩
  have hlt : j < l.length := by have := (List.getElem?_eq_some_iff.1 hj).1; rwa [Lib.byteCells_length] at this
  rw [cell_heap hw, Nat.zero_add, bytesRow_at _ _ j (by simpa using hlt)]
  rw [← hj]
  simp [Lib.byteCells, hlt]

set_option maxRecDepth 100000 in
theorem fault_any (x : Int) (l : List UInt8) (hl : l.length ≤ 100) (hT : TextAt x l) (w : World) : Calls Tryz.prog 18 #[.int .i32 x] w fun e w' => ∃ v k, e = .returned v ∧ IsB (Lib.byteCells l) v k w' ∧ w.heap.size ≤ k ∧ Below w.heap.size w w' := by
  have he := Lib.hid (exc_any x l hT)
  have hmeth := exc_method
  have hnil := exc_nil
  have hcv := fun w s => run_bytes_of_string (P := Tryz.prog) w 9 29 5 s Tryz.underlying9 Tryz.underlying29 Tryz.underlying5
  go_enter Tryz.func18, Tryz.ntmps18
  go_wp2_with (first | (go_at_call 39; go_in) | (go_at_call 210; refine (he.out _).mono ?_; rintro e w' ⟨rfl, hb⟩))
  go_ret
  have hsz := hb.size
  simp at hsz
  have hm : l.length ≤ maxLen := by unfold maxLen; omega
  refine ⟨_, w'.heap.size, rfl, conv_IsB l (grownCap_ge _ _ _ _) (grownCap_le_maxLen _ _ _ _ hm) (heap_alloc_new w' _), by omega, ?_⟩
  exact ((((Below.refl w.heap.size w).alloc (Nat.le_refl _) (.cells #[.string ByteArray.empty, .int .i32 x, .nilIface] 120)).trans (hb.mono (by simp))).alloc (by omega) _).drew

set_option maxRecDepth 100000 in
theorem fault_law (x : Int) (l : List UInt8) (hl : l.length ≤ 100) (hT : TextAt x l) (hS : ∀ w, Calls Tryz.prog 19 #[.int .i32 x] w fun e w' => ∃ v k, e = .returned v ∧ IsB (Lib.byteCells l) v k w' ∧ Below w.heap.size w w') (w : World) :
    Calls Tryz.prog 6 #[.int .i32 x] w fun e w' => e = .returned (.bool true) ∧ Below w.heap.size w w' := by
  have h1 := Lib.hid (fault_any x l hl hT)
  have h2 := Lib.hid hS
  have hk := Lib.hid known_any
  go_enter Tryz.func6, Tryz.ntmps6
  go_wp2_with (fail)
  refine (h1.out _).mono ?_
  rintro e W1 ⟨v1, k1, rfl, i1, hk1, hB1⟩
  go_wp2_with (fail)
  refine (h2.out _).mono ?_
  rintro e W2 ⟨v2, k2, rfl, i2, hB2⟩
  go_wp2_with (fail)
  refine (equal_same k1 k2 v1 v2 l _ (i1.step (Step.ofBelow (S := []) hB2) (by simp)) i2 (by omega)).mono ?_
  rintro e W3 ⟨rfl, n, rfl⟩
  have hB := below_drewN (hB1.trans (hB2.mono hB1.size)) n
  go_wp2_with (go_at_call 14; refine (hk.out _).mono ?_; rintro e w' ⟨rfl, hb⟩)
  go_ret
  exact ⟨rfl, hB.trans (hb.mono hB.size)⟩


set_option maxRecDepth 100000 in
theorem sfault_0 (w : World) : Calls Tryz.prog 19 #[.int .i32 0] w fun e w' => ∃ v k, e = .returned v ∧ IsB (Lib.byteCells [117, 110, 107, 110, 111, 119, 110, 32, 97, 112, 112, 108, 105, 99, 97, 116, 105, 111, 110, 32, 101, 120, 99, 101, 112, 116, 105, 111, 110]) v k w' ∧ Below w.heap.size w w' := by
  have hcv := fun w s => run_bytes_of_string (P := Tryz.prog) w 9 29 5 s Tryz.underlying9 Tryz.underlying29 Tryz.underlying5
  go_enter Tryz.func19, Tryz.ntmps19
  go_wp2
  go_ret
  refine ⟨_, w.heap.size + 1, rfl, conv_IsB [117, 110, 107, 110, 111, 119, 110, 32, 97, 112, 112, 108, 105, 99, 97, 116, 105, 111, 110, 32, 101, 120, 99, 101, 112, 116, 105, 111, 110] (grownCap_ge _ _ _ _) (grownCap_le_maxLen _ _ _ _ (by simp [maxLen])) (heap_alloc_at (by simp) _), ?_⟩
  exact (((Below.refl w.heap.size w).alloc (Nat.le_refl _) _).alloc (by simp) _).drew

set_option maxRecDepth 100000 in
theorem sfault_1 (w : World) : Calls Tryz.prog 19 #[.int .i32 1] w fun e w' => ∃ v k, e = .returned v ∧ IsB (Lib.byteCells [117, 110, 107, 110, 111, 119, 110, 32, 109, 101, 116, 104, 111, 100]) v k w' ∧ Below w.heap.size w w' := by
  have hcv := fun w s => run_bytes_of_string (P := Tryz.prog) w 9 29 5 s Tryz.underlying9 Tryz.underlying29 Tryz.underlying5
  go_enter Tryz.func19, Tryz.ntmps19
  go_wp2
  go_ret
  refine ⟨_, w.heap.size + 1, rfl, conv_IsB [117, 110, 107, 110, 111, 119, 110, 32, 109, 101, 116, 104, 111, 100] (grownCap_ge _ _ _ _) (grownCap_le_maxLen _ _ _ _ (by simp [maxLen])) (heap_alloc_at (by simp) _), ?_⟩
  exact (((Below.refl w.heap.size w).alloc (Nat.le_refl _) _).alloc (by simp) _).drew

set_option maxRecDepth 100000 in
theorem sfault_2 (w : World) : Calls Tryz.prog 19 #[.int .i32 2] w fun e w' => ∃ v k, e = .returned v ∧ IsB (Lib.byteCells [105, 110, 118, 97, 108, 105, 100, 32, 109, 101, 115, 115, 97, 103, 101, 32, 116, 121, 112, 101]) v k w' ∧ Below w.heap.size w w' := by
  have hcv := fun w s => run_bytes_of_string (P := Tryz.prog) w 9 29 5 s Tryz.underlying9 Tryz.underlying29 Tryz.underlying5
  go_enter Tryz.func19, Tryz.ntmps19
  go_wp2
  go_ret
  refine ⟨_, w.heap.size + 1, rfl, conv_IsB [105, 110, 118, 97, 108, 105, 100, 32, 109, 101, 115, 115, 97, 103, 101, 32, 116, 121, 112, 101] (grownCap_ge _ _ _ _) (grownCap_le_maxLen _ _ _ _ (by simp [maxLen])) (heap_alloc_at (by simp) _), ?_⟩
  exact (((Below.refl w.heap.size w).alloc (Nat.le_refl _) _).alloc (by simp) _).drew

set_option maxRecDepth 100000 in
theorem sfault_3 (w : World) : Calls Tryz.prog 19 #[.int .i32 3] w fun e w' => ∃ v k, e = .returned v ∧ IsB (Lib.byteCells [119, 114, 111, 110, 103, 32, 109, 101, 116, 104, 111, 100, 32, 110, 97, 109, 101]) v k w' ∧ Below w.heap.size w w' := by
  have hcv := fun w s => run_bytes_of_string (P := Tryz.prog) w 9 29 5 s Tryz.underlying9 Tryz.underlying29 Tryz.underlying5
  go_enter Tryz.func19, Tryz.ntmps19
  go_wp2
  go_ret
  refine ⟨_, w.heap.size + 1, rfl, conv_IsB [119, 114, 111, 110, 103, 32, 109, 101, 116, 104, 111, 100, 32, 110, 97, 109, 101] (grownCap_ge _ _ _ _) (grownCap_le_maxLen _ _ _ _ (by simp [maxLen])) (heap_alloc_at (by simp) _), ?_⟩
  exact (((Below.refl w.heap.size w).alloc (Nat.le_refl _) _).alloc (by simp) _).drew

set_option maxRecDepth 100000 in
theorem sfault_4 (w : World) : Calls Tryz.prog 19 #[.int .i32 4] w fun e w' => ∃ v k, e = .returned v ∧ IsB (Lib.byteCells [98, 97, 100, 32, 115, 101, 113, 117, 101, 110, 99, 101, 32, 73, 68]) v k w' ∧ Below w.heap.size w w' := by
  have hcv := fun w s => run_bytes_of_string (P := Tryz.prog) w 9 29 5 s Tryz.underlying9 Tryz.underlying29 Tryz.underlying5
  go_enter Tryz.func19, Tryz.ntmps19
  go_wp2
  go_ret
  refine ⟨_, w.heap.size + 1, rfl, conv_IsB [98, 97, 100, 32, 115, 101, 113, 117, 101, 110, 99, 101, 32, 73, 68] (grownCap_ge _ _ _ _) (grownCap_le_maxLen _ _ _ _ (by simp [maxLen])) (heap_alloc_at (by simp) _), ?_⟩
  exact (((Below.refl w.heap.size w).alloc (Nat.le_refl _) _).alloc (by simp) _).drew

set_option maxRecDepth 100000 in
theorem sfault_5 (w : World) : Calls Tryz.prog 19 #[.int .i32 5] w fun e w' => ∃ v k, e = .returned v ∧ IsB (Lib.byteCells [109, 105, 115, 115, 105, 110, 103, 32, 114, 101, 115, 117, 108, 116]) v k w' ∧ Below w.heap.size w w' := by
  have hcv := fun w s => run_bytes_of_string (P := Tryz.prog) w 9 29 5 s Tryz.underlying9 Tryz.underlying29 Tryz.underlying5
  go_enter Tryz.func19, Tryz.ntmps19
  go_wp2
  go_ret
  refine ⟨_, w.heap.size + 1, rfl, conv_IsB [109, 105, 115, 115, 105, 110, 103, 32, 114, 101, 115, 117, 108, 116] (grownCap_ge _ _ _ _) (grownCap_le_maxLen _ _ _ _ (by simp [maxLen])) (heap_alloc_at (by simp) _), ?_⟩
  exact (((Below.refl w.heap.size w).alloc (Nat.le_refl _) _).alloc (by simp) _).drew

set_option maxRecDepth 100000 in
theorem sfault_6 (w : World) : Calls Tryz.prog 19 #[.int .i32 6] w fun e w' => ∃ v k, e = .returned v ∧ IsB (Lib.byteCells [117, 110, 107, 110, 111, 119, 110, 32, 105, 110, 116, 101, 114, 110, 97, 108, 32, 101, 114, 114, 111, 114]) v k w' ∧ Below w.heap.size w w' := by
  have hcv := fun w s => run_bytes_of_string (P := Tryz.prog) w 9 29 5 s Tryz.underlying9 Tryz.underlying29 Tryz.underlying5
  go_enter Tryz.func19, Tryz.ntmps19
  go_wp2
  go_ret
  refine ⟨_, w.heap.size + 1, rfl, conv_IsB [117, 110, 107, 110, 111, 119, 110, 32, 105, 110, 116, 101, 114, 110, 97, 108, 32, 101, 114, 114, 111, 114] (grownCap_ge _ _ _ _) (grownCap_le_maxLen _ _ _ _ (by simp [maxLen])) (heap_alloc_at (by simp) _), ?_⟩
  exact (((Below.refl w.heap.size w).alloc (Nat.le_refl _) _).alloc (by simp) _).drew

set_option maxRecDepth 100000 in
theorem sfault_7 (w : World) : Calls Tryz.prog 19 #[.int .i32 7] w fun e w' => ∃ v k, e = .returned v ∧ IsB (Lib.byteCells [117, 110, 107, 110, 111, 119, 110, 32, 112, 114, 111, 116, 111, 99, 111, 108, 32, 101, 114, 114, 111, 114]) v k w' ∧ Below w.heap.size w w' := by
  have hcv := fun w s => run_bytes_of_string (P := Tryz.prog) w 9 29 5 s Tryz.underlying9 Tryz.underlying29 Tryz.underlying5
  go_enter Tryz.func19, Tryz.ntmps19
  go_wp2
  go_ret
  refine ⟨_, w.heap.size + 1, rfl, conv_IsB [117, 110, 107, 110, 111, 119, 110, 32, 112, 114, 111, 116, 111, 99, 111, 108, 32, 101, 114, 114, 111, 114] (grownCap_ge _ _ _ _) (grownCap_le_maxLen _ _ _ _ (by simp [maxLen])) (heap_alloc_at (by simp) _), ?_⟩
  exact (((Below.refl w.heap.size w).alloc (Nat.le_refl _) _).alloc (by simp) _).drew

set_option maxRecDepth 100000 in
theorem sfault_8 (w : World) : Calls Tryz.prog 19 #[.int .i32 8] w fun e w' => ∃ v k, e = .returned v ∧ IsB (Lib.byteCells [73, 110, 118, 97, 108, 105, 100, 32, 116, 114, 97, 110, 115, 102, 111, 114, 109]) v k w' ∧ Below w.heap.size w w' := by
  have hcv := fun w s => run_bytes_of_string (P := Tryz.prog) w 9 29 5 s Tryz.underlying9 Tryz.underlying29 Tryz.underlying5
  go_enter Tryz.func19, Tryz.ntmps19
  go_wp2
  go_ret
  refine ⟨_, w.heap.size + 1, rfl, conv_IsB [73, 110, 118, 97, 108, 105, 100, 32, 116, 114, 97, 110, 115, 102, 111, 114, 109] (grownCap_ge _ _ _ _) (grownCap_le_maxLen _ _ _ _ (by simp [maxLen])) (heap_alloc_at (by simp) _), ?_⟩
  exact (((Below.refl w.heap.size w).alloc (Nat.le_refl _) _).alloc (by simp) _).drew

set_option maxRecDepth 100000 in
theorem sfault_9 (w : World) : Calls Tryz.prog 19 #[.int .i32 9] w fun e w' => ∃ v k, e = .returned v ∧ IsB (Lib.byteCells [73, 110, 118, 97, 108, 105, 100, 32, 112, 114, 111, 116, 111, 99, 111, 108]) v k w' ∧ Below w.heap.size w w' := by
  have hcv := fun w s => run_bytes_of_string (P := Tryz.prog) w 9 29 5 s Tryz.underlying9 Tryz.underlying29 Tryz.underlying5
  go_enter Tryz.func19, Tryz.ntmps19
  go_wp2
  go_ret
  refine ⟨_, w.heap.size + 1, rfl, conv_IsB [73, 110, 118, 97, 108, 105, 100, 32, 112, 114, 111, 116, 111, 99, 111, 108] (grownCap_ge _ _ _ _) (grownCap_le_maxLen _ _ _ _ (by simp [maxLen])) (heap_alloc_at (by simp) _), ?_⟩
  exact (((Below.refl w.heap.size w).alloc (Nat.le_refl _) _).alloc (by simp) _).drew

set_option maxRecDepth 100000 in
theorem sfault_10 (w : World) : Calls Tryz.prog 19 #[.int .i32 10] w fun e w' => ∃ v k, e = .returned v ∧ IsB (Lib.byteCells [85, 110, 115, 117, 112, 112, 111, 114, 116, 101, 100, 32, 99, 108, 105, 101, 110, 116, 32, 116, 121, 112, 101]) v k w' ∧ Below w.heap.size w w' := by
  have hcv := fun w s => run_bytes_of_string (P := Tryz.prog) w 9 29 5 s Tryz.underlying9 Tryz.underlying29 Tryz.underlying5
  go_enter Tryz.func19, Tryz.ntmps19
  go_wp2
  go_ret
  refine ⟨_, w.heap.size + 1, rfl, conv_IsB [85, 110, 115, 117, 112, 112, 111, 114, 116, 101, 100, 32, 99, 108, 105, 101, 110, 116, 32, 116, 121, 112, 101] (grownCap_ge _ _ _ _) (grownCap_le_maxLen _ _ _ _ (by simp [maxLen])) (heap_alloc_at (by simp) _), ?_⟩
  exact (((Below.refl w.heap.size w).alloc (Nat.le_refl _) _).alloc (by simp) _).drew

set_option maxRecDepth 100000 in
theorem sfault_11 (w : World) : Calls Tryz.prog 19 #[.int .i32 11] w fun e w' => ∃ v k, e = .returned v ∧ IsB (Lib.byteCells [118, 97, 108, 105, 100, 97, 116, 105, 111, 110, 32, 102, 97, 105, 108, 101, 100]) v k w' ∧ Below w.heap.size w w' := by
  have hcv := fun w s => run_bytes_of_string (P := Tryz.prog) w 9 29 5 s Tryz.underlying9 Tryz.underlying29 Tryz.underlying5
  go_enter Tryz.func19, Tryz.ntmps19
  go_wp2
  go_ret
  refine ⟨_, w.heap.size + 1, rfl, conv_IsB [118, 97, 108, 105, 100, 97, 116, 105, 111, 110, 32, 102, 97, 105, 108, 101, 100] (grownCap_ge _ _ _ _) (grownCap_le_maxLen _ _ _ _ (by simp [maxLen])) (heap_alloc_at (by simp) _), ?_⟩
  exact (((Below.refl w.heap.size w).alloc (Nat.le_refl _) _).alloc (by simp) _).drew

set_option maxRecDepth 100000 in
theorem sfault_none (x : Int) (hx : x < 0 ∨ 11 < x) (w : World) : Calls Tryz.prog 19 #[.int .i32 x] w fun e w' => ∃ v k, e = .returned v ∧ IsB (Lib.byteCells []) v k w' ∧ Below w.heap.size w w' := by
  go_enter Tryz.func19, Tryz.ntmps19
  go_wp2
  all_goals go_ret
  all_goals first
    | exact ⟨_, 0, rfl, ⟨0, .inl ⟨rfl, rfl⟩⟩, (Below.refl w.heap.size w).alloc (Nat.le_refl _) _⟩
    | exact ⟨_, rfl, ⟨0, 0, .inl ⟨rfl, rfl⟩⟩, (Below.refl w.heap.size w).alloc (Nat.le_refl _) _⟩

theorem fnFault_walk (x : Int) (w : World) (h0 : (Lit.int .i32 x).wf = true) : Calls Tryz.prog 6 #[.int .i32 x] w fun e w' => e = .returned (.bool true) ∧ Below w.heap.size w w' := by
  rcases (show x = 0 ∨ x = 1 ∨ x = 2 ∨ x = 3 ∨ x = 4 ∨ x = 5 ∨ x = 6 ∨ x = 7 ∨ x = 8 ∨ x = 9 ∨ x = 10 ∨ x = 11 ∨ (x < 0 ∨ 11 < x) by omega) with rfl | rfl | rfl | rfl | rfl | rfl | rfl | rfl | rfl | rfl | rfl | rfl | hx
  · exact fault_law 0 [117, 110, 107, 110, 111, 119, 110, 32, 97, 112, 112, 108, 105, 99, 97, 116, 105, 111, 110, 32, 101, 120, 99, 101, 112, 116, 105, 111, 110] (by simp) (fun w r clock h => look_hit (i := 0) 0 _ h (by rfl)) sfault_0 w
  · exact fault_law 1 [117, 110, 107, 110, 111, 119, 110, 32, 109, 101, 116, 104, 111, 100] (by simp) (fun w r clock h => look_hit (i := 1) 1 _ h (by rfl)) sfault_1 w
  · exact fault_law 2 [105, 110, 118, 97, 108, 105, 100, 32, 109, 101, 115, 115, 97, 103, 101, 32, 116, 121, 112, 101] (by simp) (fun w r clock h => look_hit (i := 2) 2 _ h (by rfl)) sfault_2 w
  · exact fault_law 3 [119, 114, 111, 110, 103, 32, 109, 101, 116, 104, 111, 100, 32, 110, 97, 109, 101] (by simp) (fun w r clock h => look_hit (i := 3) 3 _ h (by rfl)) sfault_3 w
  · exact fault_law 4 [98, 97, 100, 32, 115, 101, 113, 117, 101, 110, 99, 101, 32, 73, 68] (by simp) (fun w r clock h => look_hit (i := 4) 4 _ h (by rfl)) sfault_4 w
  · exact fault_law 5 [109, 105, 115, 115, 105, 110, 103, 32, 114, 101, 115, 117, 108, 116] (by simp) (fun w r clock h => look_hit (i := 5) 5 _ h (by rfl)) sfault_5 w
  · exact fault_law 6 [117, 110, 107, 110, 111, 119, 110, 32, 105, 110, 116, 101, 114, 110, 97, 108, 32, 101, 114, 114, 111, 114] (by simp) (fun w r clock h => look_hit (i := 6) 6 _ h (by rfl)) sfault_6 w
  · exact fault_law 7 [117, 110, 107, 110, 111, 119, 110, 32, 112, 114, 111, 116, 111, 99, 111, 108, 32, 101, 114, 114, 111, 114] (by simp) (fun w r clock h => look_hit (i := 7) 7 _ h (by rfl)) sfault_7 w
  · exact fault_law 8 [73, 110, 118, 97, 108, 105, 100, 32, 116, 114, 97, 110, 115, 102, 111, 114, 109] (by simp) (fun w r clock h => look_hit (i := 8) 8 _ h (by rfl)) sfault_8 w
  · exact fault_law 9 [73, 110, 118, 97, 108, 105, 100, 32, 112, 114, 111, 116, 111, 99, 111, 108] (by simp) (fun w r clock h => look_hit (i := 9) 9 _ h (by rfl)) sfault_9 w
  · exact fault_law 10 [85, 110, 115, 117, 112, 112, 111, 114, 116, 101, 100, 32, 99, 108, 105, 101, 110, 116, 32, 116, 121, 112, 101] (by simp) (fun w r clock h => look_hit (i := 10) 10 _ h (by rfl)) sfault_10 w
  · exact fault_law 11 [118, 97, 108, 105, 100, 97, 116, 105, 111, 110, 32, 102, 97, 105, 108, 101, 100] (by simp) (fun w r clock h => look_hit (i := 11) 11 _ h (by rfl)) sfault_11 w
  · refine fault_law x [] (by simp) (fun w r clock h => look_miss x h ?_) (sfault_none x hx) w
    have hn : (x == 0) = false ∧ (x == 1) = false ∧ (x == 2) = false ∧ (x == 3) = false ∧ (x == 4) = false ∧ (x == 5) = false ∧ (x == 6) = false ∧ (x == 7) = false ∧ (x == 8) = false ∧ (x == 9) = false ∧ (x == 10) = false ∧ (x == 11) = false := by simp; omega
    simp [excTab, Instr.findNow, Instr.sameNow, hn]

end Go.Proofs.YteadkokfepjgbaaGreatDoor
