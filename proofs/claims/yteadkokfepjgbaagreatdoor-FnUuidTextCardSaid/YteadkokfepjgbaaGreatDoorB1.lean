/- What the calls of a bytes.Buffer do to the memory that it owns, of one into which bytes are written: the bytes that it holds, which blocks turn. -/
import Derived.Test.YteadkokfepjgbaaGreatDoorProg
import Derived.Test.YteadkokfepjgbaaGreatDoorShelf
import Derived.Test.YteadkokfepjgbaaGreatDoorB0
import Derived.Deep.RegionWith
import Derived.Deep.QuietTactic
import Derived.BigQuiet
import Derived.WalkSpells
import Derived.Lib.BufferMore
namespace Go.Proofs.YteadkokfepjgbaaGreatDoor
open Go.RowKit Go.Deep
set_option linter.unusedVariables false
set_option linter.unusedSimpArgs false

/-- Block b is a bytes.Buffer over the row g (g = b: over none): the cells bs are in it, behind off cells that were read. -/
def Buf (b g off : Nat) (bs : List Value) (w : World) : Prop :=
  ∃ lr : Int, (w.heap[b]? = some (.cells #[.slice none 0 0, .int .i64 0, .int .i8 lr] 151 (0, 0)) ∧ g = b ∧ off = 0 ∧ bs = []) ∨
    ∃ cap cur, w.heap[b]? = some (.cells #[.slice (some ⟨g, 0, none⟩) (off + bs.length) cap, .int .i64 off, .int .i8 lr] 151 (0, 0)) ∧ g ≠ b ∧
      w.heap[g]? = some (.cells cur 5 (0, 0)) ∧ off + bs.length ≤ cap ∧ cap ≤ maxLen ∧ cur.size = cap ∧ (cur.toList.take (off + bs.length)).drop off = bs

theorem Buf.lt {b g off : Nat} {bs : List Value} {w : World} (h : Buf b g off bs w) : b < w.heap.size ∧ g < w.heap.size := by
  obtain ⟨lr, ⟨h1, rfl, _⟩ | ⟨cap, cur, h1, _, h2, _⟩⟩ := h
  · exact ⟨lt_heap h1, lt_heap h1⟩
  · exact ⟨lt_heap h1, lt_heap h2⟩

theorem Buf.carry {b g off : Nat} {bs : List Value} {w w1 : World} (h : Buf b g off bs w) (hb : w1.heap[b]? = w.heap[b]?) (hg : w1.heap[g]? = w.heap[g]?) : Buf b g off bs w1 := by
  obtain ⟨lr, ⟨h1, h2⟩ | ⟨cap, cur, h1, hn, h2, h3⟩⟩ := h
  · exact ⟨lr, .inl ⟨hb.trans h1, h2⟩⟩
  · exact ⟨lr, .inr ⟨cap, cur, hb.trans h1, hn, hg.trans h2, h3⟩⟩

theorem Buf.step {b g off : Nat} {bs : List Value} {S T : List Nat} {w w1 : World} (h : Buf b g off bs w) (hs : Step S T w w1) (hb : b ∉ S) (hg : g ∉ S) : Buf b g off bs w1 :=
  h.carry (hs.block b h.lt.1 hb) (hs.block g h.lt.2 hg)

theorem Buf.alloc {b g off : Nat} {bs : List Value} {w : World} (h : Buf b g off bs w) (o : Obj) : Buf b g off bs (w.alloc o) :=
  h.carry (Below.heap_alloc _ _ _ h.lt.1) (Below.heap_alloc _ _ _ h.lt.2)

theorem Buf.drew {b g off : Nat} {bs : List Value} {w : World} (h : Buf b g off bs w) : Buf b g off bs w.drew := h
theorem Buf.drewN {b g off : Nat} {bs : List Value} {w : World} (h : Buf b g off bs w) (n : Nat) : Buf b g off bs (w.drewN n) := h

theorem Buf.set {b g off : Nat} {bs : List Value} {w : World} (h : Buf b g off bs w) {p : Addr} (hb : b ≠ p.block) (hg : g ≠ p.block) (v : Value) : Buf b g off bs (w.setCell p v) :=
  h.carry (Below.heap_setCell _ _ _ _ hb) (Below.heap_setCell _ _ _ _ hg)

/-- Len. -/
theorem buf_len (b l off cap : Nat) (ao : Option Addr) (w : World) (c0 : w.cell? ⟨b, 0, none⟩ = some (.slice ao l cap)) (c1 : w.cell? ⟨b, 1, none⟩ = some (.int .i64 off)) (hl : off ≤ l) (hm : l ≤ maxLen) :
    Calls Tryz.prog 58 #[.pointer (some ⟨b, 0, none⟩)] w fun e w' => e = .returned (.int .i64 ((l - off : Nat) : Int)) ∧ ∃ n, w' = w.drewN n := by
  unfold maxLen at hm
  have hw : IntKind.i64.wrap ((l : Int) - off) = ((l - off : Nat) : Int) := by rw [IntKind.wrap_i64]; omega
  go_enter Tryz.func58, Tryz.ntmps58
  go_wp2
  go_quiet (fail)
  go_wp2
  go_ret
  exact ⟨ret_of (by rw [← hw]; rfl), _, rfl⟩

/-- What stands behind a growth: the row N is new, and holds what was in the buffer. -/
def Grew (b l n : Nat) (lr : Int) (old : List Value) (w w1 : World) : Prop :=
  ∃ N cap cells, w1.heap[b]? = some (.cells #[.slice (some ⟨N, 0, none⟩) (l + n) cap, .int .i64 0, .int .i8 lr] 151 (0, 0)) ∧ w1.heap[N]? = some (.cells cells 5 (0, 0)) ∧ N ≠ b ∧
    l + n ≤ cap ∧ cap ≤ maxLen ∧ cells.size = cap ∧ cells.toList.take l = old ∧ Step [b] [b, N] w w1

theorem info8 : (Tryz.prog.info? 5).map (fun i => (i.zero, i.size, i.bytes)) = some (some (.int .u8 0), 1, 1) := by kernel_rfl

set_option maxHeartbeats 1000000 in
set_option maxRecDepth 100000 in
theorem grow_nil_small (b n : Nat) (lr : Int) (w : World) (hbk : w.heap[b]? = some (.cells #[.slice none 0 0, .int .i64 0, .int .i8 lr] 151 (0, 0))) (hn : 1 ≤ n) (h64 : n ≤ 64) :
    Calls Tryz.prog 94 #[.pointer (some ⟨b, 0, none⟩), .int .i64 n] w fun e w' => e = .returned (.int .i64 0) ∧ Grew b 0 n lr [] w w' := by
  obtain ⟨i0, hi, hz0, hz1, hz2⟩ := info_parts info8
  obtain ⟨M, hM⟩ : ∃ M, M = madeCells (Value.int .u8 0).cells ((64 : Int).toNat * i0.size) := ⟨_, rfl⟩
  have hMs : M.size = 64 := by rw [hM, size_madeCells, hz1]; rfl
  have hmk : ∀ W : World, (Instr.makeSlice 29 (.int .i64 (n : Int)) (.int .i64 64)).run Tryz.prog W = .ok (.slice (some ⟨W.heap.size, 0, none⟩) n 64) (W.alloc (.cells M 5)) := fun W => by
    have h := run_makeSlice (P := Tryz.prog) W 29 5 i0 (.int .u8 0) Tryz.underlying29 hi hz0 .i64 .i64 (n : Int) 64 (by omega) (by omega) (by rw [hz1]; decide) (by rw [hz2]; decide) (by decide)
    rw [← hM] at h
    simpa using h
  clear hM
  have hnil : ∀ W, (binOp .eql 29 (.slice none 0 0) (.slice none 0 0)).run Tryz.prog W = .ok (.bool true) W := fun W => Lib.run_eql_slice_nil_nil W _ _ Tryz.underlying29
  have c0 : w.cell? ⟨b, 0, none⟩ = some (.slice none 0 0) := by rw [cell_heap hbk]; rfl
  have c1 : w.cell? ⟨b, 1, none⟩ = some (.int .i64 0) := by rw [cell_heap hbk]; rfl
  go_enter Tryz.func94, Tryz.ntmps94
  go_wp2_with (go_at_call 58; refine (buf_len b 0 0 0 none _ c0 c1 (Nat.le_refl _) (Nat.zero_le _)).mono ?_)
  rintro e W0 ⟨rfl, k, hW0⟩
  have hbk0 : W0.heap[b]? = some (.cells #[.slice none 0 0, .int .i64 0, .int .i8 lr] 151 (0, 0)) := by rw [hW0]; exact hbk
  have hs0 : Step [b] [b] w W0 := by rw [hW0]; exact (Step.refl _ _).drewN k
  clear hW0 c0 c1
  have c0 : W0.cell? ⟨b, 0, none⟩ = some (.slice none 0 0) := by rw [cell_heap hbk0]; rfl
  have c1 : W0.cell? ⟨b, 1, none⟩ = some (.int .i64 0) := by rw [cell_heap hbk0]; rfl
  have c0a : ∀ o, (W0.alloc o).cell? ⟨b, 0, none⟩ = some (.slice none 0 0) := fun o => by rw [cell_heap (heap_alloc_old hbk0 o)]; rfl
  have f0a : ∀ o, (W0.alloc o).frozen? ⟨b, 0, none⟩ = false := fun o => frozen_heap (heap_alloc_old hbk0 o) 0
  go_wp2_with (go_at_call 93; refine (Tryz.Buffer_tryGrow_none b _ 0 0 n _ c0 (Nat.le_refl _) (Nat.zero_le _) (by omega)).mono ?_; rintro e w' ⟨rfl, rfl⟩)
  go_ret
  have hlt := lt_heap hbk0
  refine ⟨rfl, w'.heap.size, 64, M, ?_, ?_, by omega, by omega, by unfold maxLen; omega, hMs, by simp, ?_⟩
  · rw [heap_set_same (heap_alloc_old hbk0 _)]; simp
  · exact heap_set_other (heap_alloc_new _ _) (by show w'.heap.size ≠ b; omega) _
  · have := hs0.size
    exact ((hs0.alloc _).setCell (p := ⟨b, 0, none⟩) (.inl (by simp)) _).more (fun _ h => h) (fun k hk => by
      simp only [List.mem_cons, List.not_mem_nil, or_false] at hk ⊢
      omega)

/-- Behind growSlice: the struct's cells are set to the new row. -/
theorem grew_end {b l n N cap : Nat} {lr : Int} {v0 : Value} {cells : Array Value} {old : List Value} {w w1 w2 : World} (hs : Step [b] [b] w w1) (hbel : Below w1.heap.size w1 w2)
    (hbk : w2.heap[b]? = some (.cells #[v0, .int .i64 0, .int .i8 lr] 151 (0, 0))) (hN : w2.heap[N]? = some (.cells cells 5 (0, 0))) (hNe : N = w1.heap.size) (hb : b < w1.heap.size)
    (hcap : l + n ≤ cap) (hm : cap ≤ maxLen) (hsz : cells.size = cap) (htk : cells.toList.take l = old) :
    Grew b l n lr old w (((w2.setCell ⟨b, 0, none⟩ (.slice (some ⟨N, 0, none⟩) l cap)).setCell ⟨b, 1, none⟩ (.int .i64 0)).setCell ⟨b, 0, none⟩ (.slice (some ⟨N, 0, none⟩) (l + n) cap)) := by
  have hsz1 := hs.size
  refine ⟨N, cap, cells, ?_, ?_, by omega, hcap, hm, hsz, htk, ?_⟩
  · rw [heap_set_same (heap_set_same (heap_set_same hbk _) _)]; simp
  · exact heap_set_other (heap_set_other (heap_set_other hN (by show N ≠ b; omega) _) (by show N ≠ b; omega) _) (by show N ≠ b; omega) _
  · have h2 : Step [b] [b] w w2 := hs.trans (Step.ofBelow hbel)
    exact (((h2.setCell (p := ⟨b, 0, none⟩) (.inl (by simp)) _).setCell (p := ⟨b, 1, none⟩) (.inl (by simp)) _).setCell (p := ⟨b, 0, none⟩) (.inl (by simp)) _).more (fun _ h => h) (fun k hk => by
      simp only [List.mem_cons, List.not_mem_nil, or_false] at hk ⊢
      omega)

set_option maxHeartbeats 2000000 in
set_option maxRecDepth 100000 in
theorem grow_nil_big (b n : Nat) (lr : Int) (w : World) (hbk : w.heap[b]? = some (.cells #[.slice none 0 0, .int .i64 0, .int .i8 lr] 151 (0, 0))) (h64 : 64 < n) (hlim : n ≤ 140737488355328) :
    Calls Tryz.prog 94 #[.pointer (some ⟨b, 0, none⟩), .int .i64 n] w fun e w' => e = .returned (.int .i64 0) ∧ Grew b 0 n lr [] w w' := by
  have hn : 1 ≤ n := by omega
  have hnil : ∀ W, (binOp .eql 29 (.slice none 0 0) (.slice none 0 0)).run Tryz.prog W = .ok (.bool true) W := fun W => Lib.run_eql_slice_nil_nil W _ _ Tryz.underlying29
  have c0 : w.cell? ⟨b, 0, none⟩ = some (.slice none 0 0) := by rw [cell_heap hbk]; rfl
  have c1 : w.cell? ⟨b, 1, none⟩ = some (.int .i64 0) := by rw [cell_heap hbk]; rfl
  go_enter Tryz.func94, Tryz.ntmps94
  go_wp2_with (go_at_call 58; refine (buf_len b 0 0 0 none _ c0 c1 (Nat.le_refl _) (Nat.zero_le _)).mono ?_)
  rintro e W0 ⟨rfl, k, hW0⟩
  have hbk0 : W0.heap[b]? = some (.cells #[.slice none 0 0, .int .i64 0, .int .i8 lr] 151 (0, 0)) := by rw [hW0]; exact hbk
  have hs0 : Step [b] [b] w W0 := by rw [hW0]; exact (Step.refl _ _).drewN k
  clear hW0 c0 c1
  have c0 : W0.cell? ⟨b, 0, none⟩ = some (.slice none 0 0) := by rw [cell_heap hbk0]; rfl
  have c1 : W0.cell? ⟨b, 1, none⟩ = some (.int .i64 0) := by rw [cell_heap hbk0]; rfl
  have f0 : W0.frozen? ⟨b, 0, none⟩ = false := frozen_heap hbk0 0
  have f1 : W0.frozen? ⟨b, 1, none⟩ = false := frozen_heap hbk0 1
  go_wp2_with (go_at_call 93; refine (Tryz.Buffer_tryGrow_none b _ 0 0 n _ c0 (Nat.le_refl _) (Nat.zero_le _) (by omega)).mono ?_; rintro e w' ⟨rfl, rfl⟩)
  have hbW := lt_heap hbk0
  have hwn : IntKind.i64.wrap (n : Int) = n := by rw [IntKind.wrap_i64]; omega
  go_region_with (
      go_at_call 105
      refine (Tryz.bytes_growSlice_nil n _ hn hlim).mono ?_
      rintro e w2 ⟨cap2, cells, rfl, hN, hcsz, hcap2, hcm2, hbel⟩
      have hbk2 : w2.heap[b]? = some (.cells #[.slice none 0 0, .int .i64 0, .int .i8 lr] 151 (0, 0)) := (hbel.block b hbW).trans hbk0
      have d0 : w2.cell? ⟨b, 0, none⟩ = some (.slice none 0 0) := by rw [cell_heap hbk2]; rfl
      have d1 : w2.cell? ⟨b, 1, none⟩ = some (.int .i64 0) := by rw [cell_heap hbk2]; rfl
      have e0 : w2.frozen? ⟨b, 0, none⟩ = false := frozen_heap hbk2 0
      have e1 : w2.frozen? ⟨b, 1, none⟩ = false := frozen_heap hbk2 1)
  all_goals (
    go_wp2
    go_ret
    refine ⟨rfl, ?_⟩
    have hge := grew_end (l := 0) (n := n) (old := []) hs0.drew hbel hbk2 hN rfl hbW (by omega) hcm2 hcsz (by simp)
    simpa using hge)

end Go.Proofs.YteadkokfepjgbaaGreatDoor
