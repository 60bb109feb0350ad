/- Worlds, bytes.Buffer, TMemoryBuffer and the binary protocol: what a call of theirs does. No condition. -/
import Derived.WalkKit
import Derived.Lib.Buffer
import Derived.Lib.Hide
import Derived.Deep.Quiet
import Derived.Test.YtnpiheoglilcbaaGreatDoorProg
import Derived.Test.YtnpiheoglilcbaaGreatDoorShelf
import Derived.Deep.RegionWith
import Derived.Deep.Heap
import Derived.Deep.QuietTactic
import Derived.BigQuiet
import Derived.WalkSpells
import Derived.Lib.BufferMore
import Derived.Lib.BufferWrite
import Derived.Lib.BufferSrc
import Derived.Laws.IdiomCopy
import Derived.Laws.CopyRow
import Derived.Deep.RegionHeld3
import Derived.StillTailTactics
/-! The words in which the contracts of this claim speak of memory: which blocks a call may turn (Step), and the plain lemmas on them. -/
namespace Go.Proofs.YtnpiheoglilcbaaGreatDoor
open Go.RowKit
set_option linter.unusedVariables false
set_option linter.unusedSimpArgs false

/-- From w to w1 only the blocks of S, and new ones, have turned; what is owned behind it (T) was owned ahead of it or is new. -/
structure Step (S T : List Nat) (w w1 : World) : Prop where
  os : w1.os = w.os
  tape : w1.tape = w.tape
  output : w1.output = w.output
  size : w.heap.size ≤ w1.heap.size
  block : ∀ k, k < w.heap.size → k ∉ S → w1.heap[k]? = w.heap[k]?
  own : ∀ k, k ∈ T → k ∈ S ∨ w.heap.size ≤ k

theorem Step.refl (S : List Nat) (w : World) : Step S S w w := ⟨rfl, rfl, rfl, Nat.le_refl _, fun _ _ _ => rfl, fun _ h => .inl h⟩

theorem Step.trans {S T U : List Nat} {a b c : World} (h : Step S T a b) (k : Step T U b c) : Step S U a c := by
  refine ⟨k.os.trans h.os, k.tape.trans h.tape, k.output.trans h.output, Nat.le_trans h.size k.size, fun i hi hn => ?_, fun i hi => ?_⟩
  · have hs := h.size
    rw [k.block i (by omega) (fun ht => by rcases h.own i ht with hh | hh; exact hn hh; omega), h.block i hi hn]
  · have hs := h.size
    rcases k.own i hi with hh | hh
    · exact h.own i hh
    · exact .inr (by omega)

theorem Step.drew {S T : List Nat} {a b : World} (h : Step S T a b) : Step S T a b.drew := ⟨h.os, h.tape, h.output, h.size, h.block, h.own⟩
theorem Step.drewN {S T : List Nat} {a b : World} (h : Step S T a b) (n : Nat) : Step S T a (b.drewN n) := ⟨h.os, h.tape, h.output, h.size, h.block, h.own⟩

theorem Step.undrew {S T : List Nat} {a b : World} (h : Step S T a.drew b) : Step S T a b := ⟨h.os, h.tape, h.output, h.size, h.block, h.own⟩

theorem Step.alloc {S T : List Nat} {a b : World} (h : Step S T a b) (o : Obj) : Step S T a (b.alloc o) := by
  refine ⟨h.os, h.tape, h.output, by have := h.size; simp; omega, fun k hk hn => ?_, h.own⟩
  rw [Below.heap_alloc _ _ _ (by have := h.size; omega), h.block k hk hn]

theorem Step.setCell {S T : List Nat} {a b : World} (h : Step S T a b) {p : Addr} (hp : p.block ∈ S ∨ a.heap.size ≤ p.block) (v : Value) : Step S T a (b.setCell p v) := by
  refine ⟨h.os, h.tape, h.output, by have := h.size; simpa [World.setCell] using this, fun k hk hn => ?_, h.own⟩
  rw [Below.heap_setCell _ _ _ _ (fun e => by subst e; rcases hp with hp | hp; exact hn hp; omega), h.block k hk hn]

theorem Step.setCells {S T : List Nat} {a b : World} (h : Step S T a b) {g : Nat} (hp : g ∈ S ∨ a.heap.size ≤ g) (o : Nat) (vs : List Value) : Step S T a (b.setCells g o vs) := by
  induction vs generalizing b o with
  | nil => exact h
  | cons v vs ih => exact ih (h.setCell (p := ⟨g, o, none⟩) hp v) (o + 1)

/-- What has turned lies among more. -/
theorem Step.more {S T S1 T1 : List Nat} {a b : World} (h : Step S T a b) (hS : ∀ k, k ∈ S → k ∈ S1) (hT : ∀ k, k ∈ T1 → k ∈ T ∨ k ∈ S1 ∨ a.heap.size ≤ k) : Step S1 T1 a b :=
  ⟨h.os, h.tape, h.output, h.size, fun k hk hn => h.block k hk (fun e => hn (hS k e)), fun k hk => by
    rcases hT k hk with hh | hh
    · rcases h.own k hh with h1 | h1
      · exact .inl (hS k h1)
      · exact .inr h1
    · exact hh⟩

theorem Step.ofBelow {S : List Nat} {a b : World} (h : Below a.heap.size a b) : Step S S a b :=
  ⟨h.os, h.tape, h.output, h.size, fun k hk _ => h.block k hk, fun _ hk => .inl hk⟩

theorem Step.below {S T : List Nat} {a b : World} (h : Step S T a b) (B : Nat) (hB : B ≤ a.heap.size) (hS : ∀ k, k ∈ S → B ≤ k) : Below B a b :=
  ⟨h.os, h.tape, h.output, h.size, fun k hk => h.block k (by omega) (fun e => by have := hS k e; omega)⟩

theorem Step.cell {S T : List Nat} {a b : World} (h : Step S T a b) {p : Addr} (hp : p.block < a.heap.size) (hn : p.block ∉ S) : b.cell? p = a.cell? p :=
  World.cell?_of_block (w := a) (h.block p.block hp hn)

theorem Step.frozen {S T : List Nat} {a b : World} (h : Step S T a b) {p : Addr} (hp : p.block < a.heap.size) (hn : p.block ∉ S) : b.frozen? p = a.frozen? p :=
  World.frozen?_of_block (w := a) (h.block p.block hp hn)

theorem lt_heap {w : World} {k : Nat} {o : Obj} (h : w.heap[k]? = some o) : k < w.heap.size := Lib.lt_of_heap h

theorem heap_alloc_new (w : World) (o : Obj) : (w.alloc o).heap[w.heap.size]? = some o := by
  show (w.heap.push o)[w.heap.size]? = _
  simp

theorem heap_alloc_at {w : World} {k : Nat} (h : k = w.heap.size) (o : Obj) : (w.alloc o).heap[k]? = some o := by subst h; exact heap_alloc_new w o

theorem heap_alloc_old {w : World} {k : Nat} {x : Obj} (h : w.heap[k]? = some x) (o : Obj) : (w.alloc o).heap[k]? = some x := by
  rw [Below.heap_alloc _ _ _ (lt_heap h)]; exact h

theorem heap_set_other {w : World} {k : Nat} {x : Obj} (h : w.heap[k]? = some x) {p : Addr} (hp : k ≠ p.block) (v : Value) : (w.setCell p v).heap[k]? = some x := by
  rw [Below.heap_setCell _ _ _ _ hp]; exact h

theorem heap_set_same {w : World} {b o : Nat} {cs : Array Value} {e : TypeId} {fz : Nat × Nat} (h : w.heap[b]? = some (.cells cs e fz)) (v : Value) :
    (w.setCell ⟨b, o, none⟩ v).heap[b]? = some (.cells (cs.setIfInBounds o v) e fz) := by
  simp [World.setCell, Array.getElem?_modify, h]

theorem cell_heap {w : World} {b : Nat} {cs : Array Value} {e : TypeId} {fz : Nat × Nat} (h : w.heap[b]? = some (.cells cs e fz)) (o : Nat) : w.cell? ⟨b, o, none⟩ = cs[o]? := by
  simp [World.cell?, h]

theorem frozen_heap {w : World} {b : Nat} {cs : Array Value} {e : TypeId} (h : w.heap[b]? = some (.cells cs e (0, 0))) (o : Nat) : w.frozen? ⟨b, o, none⟩ = false := by
  simp [World.frozen?, h]

/-- The cells of a row from some place on, all set. -/
theorem heap_setCells {w : World} {g : Nat} {cs : Array Value} {e : TypeId} {fz : Nat × Nat} (h : w.heap[g]? = some (.cells cs e fz)) (o : Nat) (vs : List Value) :
    ∃ cs1 : Array Value, (w.setCells g o vs).heap[g]? = some (.cells cs1 e fz) ∧ cs1.size = cs.size ∧ (o + vs.length ≤ cs.size → cs1.toList = cs.toList.take o ++ vs ++ cs.toList.drop (o + vs.length)) := by
  induction vs generalizing w cs o with
  | nil => exact ⟨cs, h, rfl, fun _ => by simp⟩
  | cons v vs ih =>
    obtain ⟨cs1, h1, h2, h3⟩ := ih (heap_set_same (o := o) h v) (o + 1)
    refine ⟨cs1, h1, by simpa using h2, fun hle => ?_⟩
    simp only [List.length_cons] at hle
    have hsz : (cs.setIfInBounds o v).size = cs.size := by simp
    rw [h3 (by omega)]
    have hlt : o < cs.toList.length := by simp; omega
    have e1 : List.take (o + 1) (cs.setIfInBounds o v).toList = cs.toList.take o ++ [v] := by
      simp only [Array.toList_setIfInBounds]
      rw [List.take_succ_eq_append_getElem (by simpa using hlt), List.take_set_of_le (Nat.le_refl _)]
      simp
    have e2 : List.drop (o + 1 + vs.length) (cs.setIfInBounds o v).toList = cs.toList.drop (o + (vs.length + 1)) := by
      simp only [Array.toList_setIfInBounds]
      rw [List.drop_set_of_lt (by omega)]
      congr 1
      omega
    rw [e1, e2]
    simp

theorem heap_setCells_other {w : World} {g k : Nat} (h : k ≠ g) (o : Nat) (vs : List Value) : (w.setCells g o vs).heap[k]? = w.heap[k]? := by
  induction vs generalizing w o with
  | nil => rfl
  | cons v vs ih =>
    show ((w.setCell ⟨g, o, none⟩ v).setCells g (o + 1) vs).heap[k]? = _
    rw [ih, Below.heap_setCell _ _ _ _ h]

theorem size_setCells {w : World} {g : Nat} (o : Nat) (vs : List Value) : (w.setCells g o vs).heap.size = w.heap.size := by
  induction vs generalizing w o with
  | nil => rfl
  | cons v vs ih =>
    show ((w.setCell ⟨g, o, none⟩ v).setCells g (o + 1) vs).heap.size = _
    rw [ih]; simp [World.setCell]

theorem ret_of {v v1 : Value} (h : v = v1) : Ending.returned v = Ending.returned v1 := by rw [h]

end Go.Proofs.YtnpiheoglilcbaaGreatDoor

/-! What the calls of a bytes.Buffer do to the memory that it owns, of one into which bytes are written: the bytes that it holds, which blocks turn. -/
namespace Go.Proofs.YtnpiheoglilcbaaGreatDoor
open Go.RowKit Go.Deep
set_option linter.unusedVariables false
set_option linter.unusedSimpArgs false

/-- Block b is a bytes.Buffer over the row g (g = b: over none): the cells bs are in it, behind off cells that were read. -/
def Buf (b g off : Nat) (bs : List Value) (w : World) : Prop :=
  ∃ lr : Int, (w.heap[b]? = some (.cells #[.slice none 0 0, .int .i64 0, .int .i8 lr] 95 (0, 0)) ∧ g = b ∧ off = 0 ∧ bs = []) ∨
    ∃ cap cur, w.heap[b]? = some (.cells #[.slice (some ⟨g, 0, none⟩) (off + bs.length) cap, .int .i64 off, .int .i8 lr] 95 (0, 0)) ∧ g ≠ b ∧
      w.heap[g]? = some (.cells cur 5 (0, 0)) ∧ off + bs.length ≤ cap ∧ cap ≤ maxLen ∧ cur.size = cap ∧ (cur.toList.take (off + bs.length)).drop off = bs

theorem Buf.lt {b g off : Nat} {bs : List Value} {w : World} (h : Buf b g off bs w) : b < w.heap.size ∧ g < w.heap.size := by
  obtain ⟨lr, ⟨h1, rfl, _⟩ | ⟨cap, cur, h1, _, h2, _⟩⟩ := h
  · exact ⟨lt_heap h1, lt_heap h1⟩
  · exact ⟨lt_heap h1, lt_heap h2⟩

theorem Buf.carry {b g off : Nat} {bs : List Value} {w w1 : World} (h : Buf b g off bs w) (hb : w1.heap[b]? = w.heap[b]?) (hg : w1.heap[g]? = w.heap[g]?) : Buf b g off bs w1 := by
  obtain ⟨lr, ⟨h1, h2⟩ | ⟨cap, cur, h1, hn, h2, h3⟩⟩ := h
  · exact ⟨lr, .inl ⟨hb.trans h1, h2⟩⟩
  · exact ⟨lr, .inr ⟨cap, cur, hb.trans h1, hn, hg.trans h2, h3⟩⟩

theorem Buf.step {b g off : Nat} {bs : List Value} {S T : List Nat} {w w1 : World} (h : Buf b g off bs w) (hs : Step S T w w1) (hb : b ∉ S) (hg : g ∉ S) : Buf b g off bs w1 :=
  h.carry (hs.block b h.lt.1 hb) (hs.block g h.lt.2 hg)

theorem Buf.alloc {b g off : Nat} {bs : List Value} {w : World} (h : Buf b g off bs w) (o : Obj) : Buf b g off bs (w.alloc o) :=
  h.carry (Below.heap_alloc _ _ _ h.lt.1) (Below.heap_alloc _ _ _ h.lt.2)

theorem Buf.drew {b g off : Nat} {bs : List Value} {w : World} (h : Buf b g off bs w) : Buf b g off bs w.drew := h
theorem Buf.drewN {b g off : Nat} {bs : List Value} {w : World} (h : Buf b g off bs w) (n : Nat) : Buf b g off bs (w.drewN n) := h

theorem Buf.set {b g off : Nat} {bs : List Value} {w : World} (h : Buf b g off bs w) {p : Addr} (hb : b ≠ p.block) (hg : g ≠ p.block) (v : Value) : Buf b g off bs (w.setCell p v) :=
  h.carry (Below.heap_setCell _ _ _ _ hb) (Below.heap_setCell _ _ _ _ hg)

/-- Len. -/
theorem buf_len (b l off cap : Nat) (ao : Option Addr) (w : World) (c0 : w.cell? ⟨b, 0, none⟩ = some (.slice ao l cap)) (c1 : w.cell? ⟨b, 1, none⟩ = some (.int .i64 off)) (hl : off ≤ l) (hm : l ≤ maxLen) :
    Calls Tryz.prog 43 #[.pointer (some ⟨b, 0, none⟩)] w fun e w' => e = .returned (.int .i64 ((l - off : Nat) : Int)) ∧ ∃ n, w' = w.drewN n := by
  unfold maxLen at hm
  have hw : IntKind.i64.wrap ((l : Int) - off) = ((l - off : Nat) : Int) := by rw [IntKind.wrap_i64]; omega
  go_enter Tryz.func43, Tryz.ntmps43
  go_wp2
  go_quiet (fail)
  go_wp2
  go_ret
  exact ⟨ret_of (by rw [← hw]; rfl), _, rfl⟩

/-- What stands behind a growth: the row N is new, and holds what was in the buffer. -/
def Grew (b l n : Nat) (lr : Int) (old : List Value) (w w1 : World) : Prop :=
  ∃ N cap cells, w1.heap[b]? = some (.cells #[.slice (some ⟨N, 0, none⟩) (l + n) cap, .int .i64 0, .int .i8 lr] 95 (0, 0)) ∧ w1.heap[N]? = some (.cells cells 5 (0, 0)) ∧ N ≠ b ∧
    l + n ≤ cap ∧ cap ≤ maxLen ∧ cells.size = cap ∧ cells.toList.take l = old ∧ Step [b] [b, N] w w1

theorem info8 : (Tryz.prog.info? 5).map (fun i => (i.zero, i.size, i.bytes)) = some (some (.int .u8 0), 1, 1) := by kernel_rfl

set_option maxHeartbeats 1000000 in
set_option maxRecDepth 100000 in
theorem grow_nil_small (b n : Nat) (lr : Int) (w : World) (hbk : w.heap[b]? = some (.cells #[.slice none 0 0, .int .i64 0, .int .i8 lr] 95 (0, 0))) (hn : 1 ≤ n) (h64 : n ≤ 64) :
    Calls Tryz.prog 64 #[.pointer (some ⟨b, 0, none⟩), .int .i64 n] w fun e w' => e = .returned (.int .i64 0) ∧ Grew b 0 n lr [] w w' := by
  obtain ⟨i0, hi, hz0, hz1, hz2⟩ := info_parts info8
  obtain ⟨M, hM⟩ : ∃ M, M = madeCells (Value.int .u8 0).cells ((64 : Int).toNat * i0.size) := ⟨_, rfl⟩
  have hMs : M.size = 64 := by rw [hM, size_madeCells, hz1]; rfl
  have hmk : ∀ W : World, (Instr.makeSlice 24 (.int .i64 (n : Int)) (.int .i64 64)).run Tryz.prog W = .ok (.slice (some ⟨W.heap.size, 0, none⟩) n 64) (W.alloc (.cells M 5)) := fun W => by
    have h := run_makeSlice (P := Tryz.prog) W 24 5 i0 (.int .u8 0) Tryz.underlying24 hi hz0 .i64 .i64 (n : Int) 64 (by omega) (by omega) (by rw [hz1]; decide) (by rw [hz2]; decide) (by decide)
    rw [← hM] at h
    simpa using h
  clear hM
  have hnil : ∀ W, (binOp .eql 24 (.slice none 0 0) (.slice none 0 0)).run Tryz.prog W = .ok (.bool true) W := fun W => Lib.run_eql_slice_nil_nil W _ _ Tryz.underlying24
  have c0 : w.cell? ⟨b, 0, none⟩ = some (.slice none 0 0) := by rw [cell_heap hbk]; rfl
  have c1 : w.cell? ⟨b, 1, none⟩ = some (.int .i64 0) := by rw [cell_heap hbk]; rfl
  go_enter Tryz.func64, Tryz.ntmps64
  go_wp2_with (go_at_call 43; refine (buf_len b 0 0 0 none _ c0 c1 (Nat.le_refl _) (Nat.zero_le _)).mono ?_)
  rintro e W0 ⟨rfl, k, hW0⟩
  have hbk0 : W0.heap[b]? = some (.cells #[.slice none 0 0, .int .i64 0, .int .i8 lr] 95 (0, 0)) := by rw [hW0]; exact hbk
  have hs0 : Step [b] [b] w W0 := by rw [hW0]; exact (Step.refl _ _).drewN k
  clear hW0 c0 c1
  have c0 : W0.cell? ⟨b, 0, none⟩ = some (.slice none 0 0) := by rw [cell_heap hbk0]; rfl
  have c1 : W0.cell? ⟨b, 1, none⟩ = some (.int .i64 0) := by rw [cell_heap hbk0]; rfl
  have c0a : ∀ o, (W0.alloc o).cell? ⟨b, 0, none⟩ = some (.slice none 0 0) := fun o => by rw [cell_heap (heap_alloc_old hbk0 o)]; rfl
  have f0a : ∀ o, (W0.alloc o).frozen? ⟨b, 0, none⟩ = false := fun o => frozen_heap (heap_alloc_old hbk0 o) 0
  go_wp2_with (go_at_call 63; refine (Tryz.Buffer_tryGrow_none b _ 0 0 n _ c0 (Nat.le_refl _) (Nat.zero_le _) (by omega)).mono ?_; rintro e w' ⟨rfl, rfl⟩)
  go_ret
  have hlt := lt_heap hbk0
  refine ⟨rfl, w'.heap.size, 64, M, ?_, ?_, by omega, by omega, by unfold maxLen; omega, hMs, by simp, ?_⟩
  · rw [heap_set_same (heap_alloc_old hbk0 _)]; simp
  · exact heap_set_other (heap_alloc_new _ _) (by show w'.heap.size ≠ b; omega) _
  · have := hs0.size
    exact ((hs0.alloc _).setCell (p := ⟨b, 0, none⟩) (.inl (by simp)) _).more (fun _ h => h) (fun k hk => by
      simp only [List.mem_cons, List.not_mem_nil, or_false] at hk ⊢
      omega)

/-- Behind growSlice: the struct's cells are set to the new row. -/
theorem grew_end {b l n N cap : Nat} {lr : Int} {v0 : Value} {cells : Array Value} {old : List Value} {w w1 w2 : World} (hs : Step [b] [b] w w1) (hbel : Below w1.heap.size w1 w2)
    (hbk : w2.heap[b]? = some (.cells #[v0, .int .i64 0, .int .i8 lr] 95 (0, 0))) (hN : w2.heap[N]? = some (.cells cells 5 (0, 0))) (hNe : N = w1.heap.size) (hb : b < w1.heap.size)
    (hcap : l + n ≤ cap) (hm : cap ≤ maxLen) (hsz : cells.size = cap) (htk : cells.toList.take l = old) :
    Grew b l n lr old w (((w2.setCell ⟨b, 0, none⟩ (.slice (some ⟨N, 0, none⟩) l cap)).setCell ⟨b, 1, none⟩ (.int .i64 0)).setCell ⟨b, 0, none⟩ (.slice (some ⟨N, 0, none⟩) (l + n) cap)) := by
  have hsz1 := hs.size
  refine ⟨N, cap, cells, ?_, ?_, by omega, hcap, hm, hsz, htk, ?_⟩
  · rw [heap_set_same (heap_set_same (heap_set_same hbk _) _)]; simp
  · exact heap_set_other (heap_set_other (heap_set_other hN (by show N ≠ b; omega) _) (by show N ≠ b; omega) _) (by show N ≠ b; omega) _
  · have h2 : Step [b] [b] w w2 := hs.trans (Step.ofBelow hbel)
    exact (((h2.setCell (p := ⟨b, 0, none⟩) (.inl (by simp)) _).setCell (p := ⟨b, 1, none⟩) (.inl (by simp)) _).setCell (p := ⟨b, 0, none⟩) (.inl (by simp)) _).more (fun _ h => h) (fun k hk => by
      simp only [List.mem_cons, List.not_mem_nil, or_false] at hk ⊢
      omega)

set_option maxHeartbeats 2000000 in
set_option maxRecDepth 100000 in
theorem grow_nil_big (b n : Nat) (lr : Int) (w : World) (hbk : w.heap[b]? = some (.cells #[.slice none 0 0, .int .i64 0, .int .i8 lr] 95 (0, 0))) (h64 : 64 < n) (hlim : n ≤ 140737488355328) :
    Calls Tryz.prog 64 #[.pointer (some ⟨b, 0, none⟩), .int .i64 n] w fun e w' => e = .returned (.int .i64 0) ∧ Grew b 0 n lr [] w w' := by
  have hn : 1 ≤ n := by omega
  have hnil : ∀ W, (binOp .eql 24 (.slice none 0 0) (.slice none 0 0)).run Tryz.prog W = .ok (.bool true) W := fun W => Lib.run_eql_slice_nil_nil W _ _ Tryz.underlying24
  have c0 : w.cell? ⟨b, 0, none⟩ = some (.slice none 0 0) := by rw [cell_heap hbk]; rfl
  have c1 : w.cell? ⟨b, 1, none⟩ = some (.int .i64 0) := by rw [cell_heap hbk]; rfl
  go_enter Tryz.func64, Tryz.ntmps64
  go_wp2_with (go_at_call 43; refine (buf_len b 0 0 0 none _ c0 c1 (Nat.le_refl _) (Nat.zero_le _)).mono ?_)
  rintro e W0 ⟨rfl, k, hW0⟩
  have hbk0 : W0.heap[b]? = some (.cells #[.slice none 0 0, .int .i64 0, .int .i8 lr] 95 (0, 0)) := by rw [hW0]; exact hbk
  have hs0 : Step [b] [b] w W0 := by rw [hW0]; exact (Step.refl _ _).drewN k
  clear hW0 c0 c1
  have c0 : W0.cell? ⟨b, 0, none⟩ = some (.slice none 0 0) := by rw [cell_heap hbk0]; rfl
  have c1 : W0.cell? ⟨b, 1, none⟩ = some (.int .i64 0) := by rw [cell_heap hbk0]; rfl
  have f0 : W0.frozen? ⟨b, 0, none⟩ = false := frozen_heap hbk0 0
  have f1 : W0.frozen? ⟨b, 1, none⟩ = false := frozen_heap hbk0 1
  go_wp2_with (go_at_call 63; refine (Tryz.Buffer_tryGrow_none b _ 0 0 n _ c0 (Nat.le_refl _) (Nat.zero_le _) (by omega)).mono ?_; rintro e w' ⟨rfl, rfl⟩)
  have hbW := lt_heap hbk0
  have hwn : IntKind.i64.wrap (n : Int) = n := by rw [IntKind.wrap_i64]; omega
  go_region_with (
      go_at_call 69
      refine (Tryz.bytes_growSlice_nil n _ hn hlim).mono ?_
      rintro e w2 ⟨cap2, cells, rfl, hN, hcsz, hcap2, hcm2, hbel⟩
      have hbk2 : w2.heap[b]? = some (.cells #[.slice none 0 0, .int .i64 0, .int .i8 lr] 95 (0, 0)) := (hbel.block b hbW).trans hbk0
      have d0 : w2.cell? ⟨b, 0, none⟩ = some (.slice none 0 0) := by rw [cell_heap hbk2]; rfl
      have d1 : w2.cell? ⟨b, 1, none⟩ = some (.int .i64 0) := by rw [cell_heap hbk2]; rfl
      have e0 : w2.frozen? ⟨b, 0, none⟩ = false := frozen_heap hbk2 0
      have e1 : w2.frozen? ⟨b, 1, none⟩ = false := frozen_heap hbk2 1)
  all_goals (
    go_wp2
    go_ret
    refine ⟨rfl, ?_⟩
    have hge := grew_end (l := 0) (n := n) (old := []) hs0.drew hbel hbk2 hN rfl hbW (by omega) hcm2 hcsz (by simp)
    simpa using hge)

end Go.Proofs.YtnpiheoglilcbaaGreatDoor

/-! A bytes.Buffer grows: over a row that is too small. -/
namespace Go.Proofs.YtnpiheoglilcbaaGreatDoor
open Go.RowKit Go.Deep
set_option linter.unusedVariables false
set_option linter.unusedSimpArgs false

set_option maxHeartbeats 2000000 in
set_option maxRecDepth 100000 in
theorem grow_row_pos (b g l cap n : Nat) (lr : Int) (cur : Array Value) (w : World) (hbk : w.heap[b]? = some (.cells #[.slice (some ⟨g, 0, none⟩) l cap, .int .i64 0, .int .i8 lr] 95 (0, 0)))
    (hg : w.heap[g]? = some (.cells cur 5 (0, 0))) (hlc : l ≤ cap) (hcm : cap ≤ maxLen) (hcs : cur.size = cap) (h1 : ∀ v ∈ cur.toList.take l, v.oneCell' = true) (hn : 1 ≤ n) (hroom : cap - l < n) (hlim : l + n ≤ 140737488355328) (hl0 : ((l : Int) == 0) = false) :
    Calls Tryz.prog 64 #[.pointer (some ⟨b, 0, none⟩), .int .i64 n] w fun e w' => e = .returned (.int .i64 l) ∧ Grew b l n lr (cur.toList.take l) w w' := by
  have hnil : ∀ W, (binOp .eql 24 (.slice (some ⟨g, 0, none⟩) l cap) (.slice none 0 0)).run Tryz.prog W = .ok (.bool false) W := fun W => Lib.run_eql_slice_some_nil W _ _ _ Tryz.underlying24
  have c0 : w.cell? ⟨b, 0, none⟩ = some (.slice (some ⟨g, 0, none⟩) l cap) := by rw [cell_heap hbk]; rfl
  have c1 : w.cell? ⟨b, 1, none⟩ = some (.int .i64 (0 : Nat)) := by rw [cell_heap hbk]; rfl
  have hlm : l ≤ maxLen := Nat.le_trans hlc hcm
  go_enter Tryz.func64, Tryz.ntmps64
  go_wp2_with (go_at_call 43; refine (buf_len b l 0 cap _ _ c0 c1 (Nat.zero_le _) hlm).mono ?_)
  rintro e W0 ⟨rfl, k, hW0⟩
  rw [Nat.sub_zero]
  have hbk0 : W0.heap[b]? = some (.cells #[.slice (some ⟨g, 0, none⟩) l cap, .int .i64 0, .int .i8 lr] 95 (0, 0)) := by rw [hW0]; exact hbk
  have hg0 : W0.heap[g]? = some (.cells cur 5 (0, 0)) := by rw [hW0]; exact hg
  have hs0 : Step [b] [b] w W0 := by rw [hW0]; exact (Step.refl _ _).drewN k
  clear hW0 c0 c1
  have c0 : W0.cell? ⟨b, 0, none⟩ = some (.slice (some ⟨g, 0, none⟩) l cap) := by rw [cell_heap hbk0]; rfl
  have c1 : W0.cell? ⟨b, 1, none⟩ = some (.int .i64 0) := by rw [cell_heap hbk0]; rfl
  have f0 : W0.frozen? ⟨b, 0, none⟩ = false := frozen_heap hbk0 0
  have f1 : W0.frozen? ⟨b, 1, none⟩ = false := frozen_heap hbk0 1
  have hcm' := hcm
  unfold maxLen at hcm' hlm
  have hc2 : cap ≤ 140737488355328 := by omega
  go_wp2_with (go_at_call 63; refine (Tryz.Buffer_tryGrow_none b _ l cap n _ c0 hlc hcm hroom).mono ?_; rintro e w' ⟨rfl, rfl⟩)
  have hbW := lt_heap hbk0
  have hwn : IntKind.i64.wrap (n : Int) = n := by rw [IntKind.wrap_i64]; omega
  go_region_with (
      go_at_call 69
      refine (Tryz.bytes_growSlice_row g l cap n cur _ ?_ hcs hlc hn hlim hc2 h1).mono ?_
      exact hg0
      rintro e w2 ⟨cap2, cells, rfl, hN, hcsz, htk, hcap2, hcm2, hbel⟩
      have hbk2 : w2.heap[b]? = some (.cells #[.slice (some ⟨g, 0, none⟩) l cap, .int .i64 0, .int .i8 lr] 95 (0, 0)) := (hbel.block b hbW).trans hbk0
      have d0 : w2.cell? ⟨b, 0, none⟩ = some (.slice (some ⟨g, 0, none⟩) l cap) := by rw [cell_heap hbk2]; rfl
      have d1 : w2.cell? ⟨b, 1, none⟩ = some (.int .i64 0) := by rw [cell_heap hbk2]; rfl
      have e0 : w2.frozen? ⟨b, 0, none⟩ = false := frozen_heap hbk2 0
      have e1 : w2.frozen? ⟨b, 1, none⟩ = false := frozen_heap hbk2 1)
  all_goals (
    go_wp2
    go_ret
    exact ⟨rfl, grew_end (n := n) hs0.drew hbel hbk2 hN rfl hbW hcap2 hcm2 hcsz htk⟩)

set_option maxHeartbeats 2000000 in
set_option maxRecDepth 100000 in
theorem grow_row_zero (b g cap n : Nat) (lr : Int) (cur : Array Value) (w : World) (hbk : w.heap[b]? = some (.cells #[.slice (some ⟨g, 0, none⟩) 0 cap, .int .i64 0, .int .i8 lr] 95 (0, 0)))
    (hg : w.heap[g]? = some (.cells cur 5 (0, 0))) (hcm : cap ≤ maxLen) (hcs : cur.size = cap) (h1 : ∀ v ∈ cur.toList.take 0, v.oneCell' = true) (hn : 1 ≤ n) (hroom : cap - 0 < n) (hlim : 0 + n ≤ 140737488355328) :
    Calls Tryz.prog 64 #[.pointer (some ⟨b, 0, none⟩), .int .i64 n] w fun e w' => e = .returned (.int .i64 0) ∧ Grew b 0 n lr (cur.toList.take 0) w w' := by
  have hnil : ∀ W, (binOp .eql 24 (.slice (some ⟨g, 0, none⟩) 0 cap) (.slice none 0 0)).run Tryz.prog W = .ok (.bool false) W := fun W => Lib.run_eql_slice_some_nil W _ _ _ Tryz.underlying24
  have c0 : w.cell? ⟨b, 0, none⟩ = some (.slice (some ⟨g, 0, none⟩) 0 cap) := by rw [cell_heap hbk]; rfl
  have c1 : w.cell? ⟨b, 1, none⟩ = some (.int .i64 (0 : Nat)) := by rw [cell_heap hbk]; rfl
  have hlc : 0 ≤ cap := Nat.zero_le _
  go_enter Tryz.func64, Tryz.ntmps64
  go_wp2_with (go_at_call 43; refine (buf_len b 0 0 cap _ _ c0 c1 (Nat.zero_le _) (Nat.zero_le _)).mono ?_)
  rintro e W0 ⟨rfl, k, hW0⟩
  simp only [Nat.sub_zero]
  have hbk0 : W0.heap[b]? = some (.cells #[.slice (some ⟨g, 0, none⟩) 0 cap, .int .i64 0, .int .i8 lr] 95 (0, 0)) := by rw [hW0]; exact hbk
  have hg0 : W0.heap[g]? = some (.cells cur 5 (0, 0)) := by rw [hW0]; exact hg
  have hs0 : Step [b] [b] w W0 := by rw [hW0]; exact (Step.refl _ _).drewN k
  clear hW0 c0 c1
  have c0 : W0.cell? ⟨b, 0, none⟩ = some (.slice (some ⟨g, 0, none⟩) 0 cap) := by rw [cell_heap hbk0]; rfl
  have c1 : W0.cell? ⟨b, 1, none⟩ = some (.int .i64 0) := by rw [cell_heap hbk0]; rfl
  have f0 : W0.frozen? ⟨b, 0, none⟩ = false := frozen_heap hbk0 0
  have f1 : W0.frozen? ⟨b, 1, none⟩ = false := frozen_heap hbk0 1
  have hcm' := hcm
  unfold maxLen at hcm'
  have hc2 : cap ≤ 140737488355328 := by omega
  go_wp2_with (go_at_call 63; refine (Tryz.Buffer_tryGrow_none b _ 0 cap n _ c0 hlc hcm hroom).mono ?_; rintro e w' ⟨rfl, rfl⟩)
  have hbW := lt_heap hbk0
  have hwn : IntKind.i64.wrap (n : Int) = n := by rw [IntKind.wrap_i64]; omega
  go_region_with (
      go_at_call 69
      refine (Tryz.bytes_growSlice_row g 0 cap n cur _ ?_ hcs hlc hn hlim hc2 h1).mono ?_
      exact hg0
      rintro e w2 ⟨cap2, cells, rfl, hN, hcsz, htk, hcap2, hcm2, hbel⟩
      have hbk2 : w2.heap[b]? = some (.cells #[.slice (some ⟨g, 0, none⟩) 0 cap, .int .i64 0, .int .i8 lr] 95 (0, 0)) := (hbel.block b hbW).trans hbk0
      have d0 : w2.cell? ⟨b, 0, none⟩ = some (.slice (some ⟨g, 0, none⟩) 0 cap) := by rw [cell_heap hbk2]; rfl
      have d1 : w2.cell? ⟨b, 1, none⟩ = some (.int .i64 0) := by rw [cell_heap hbk2]; rfl
      have e0 : w2.frozen? ⟨b, 0, none⟩ = false := frozen_heap hbk2 0
      have e1 : w2.frozen? ⟨b, 1, none⟩ = false := frozen_heap hbk2 1)
  all_goals (
    go_wp2
    go_ret
    exact ⟨rfl, by simpa using grew_end (l := 0) (n := n) hs0.drew hbel hbk2 hN rfl hbW hcap2 hcm2 hcsz htk⟩)

theorem grow_row (b g l cap n : Nat) (lr : Int) (cur : Array Value) (w : World) (hbk : w.heap[b]? = some (.cells #[.slice (some ⟨g, 0, none⟩) l cap, .int .i64 0, .int .i8 lr] 95 (0, 0)))
    (hg : w.heap[g]? = some (.cells cur 5 (0, 0))) (hlc : l ≤ cap) (hcm : cap ≤ maxLen) (hcs : cur.size = cap) (h1 : ∀ v ∈ cur.toList.take l, v.oneCell' = true) (hn : 1 ≤ n) (hroom : cap - l < n) (hlim : l + n ≤ 140737488355328) :
    Calls Tryz.prog 64 #[.pointer (some ⟨b, 0, none⟩), .int .i64 n] w fun e w' => e = .returned (.int .i64 l) ∧ Grew b l n lr (cur.toList.take l) w w' := by
  by_cases hl : l = 0
  · subst hl
    exact grow_row_zero b g cap n lr cur w hbk hg hcm hcs h1 hn hroom hlim
  · exact grow_row_pos b g l cap n lr cur w hbk hg hlc hcm hcs h1 hn hroom hlim (by simp; omega)

end Go.Proofs.YtnpiheoglilcbaaGreatDoor

/-! Bytes are written into a bytes.Buffer: a slice of them, a byte, a text: it holds them behind what it held. -/
namespace Go.Proofs.YtnpiheoglilcbaaGreatDoor
open Go.RowKit Go.Deep
set_option linter.unusedVariables false
set_option linter.unusedSimpArgs false

/-- There is room for n more behind the l cells bs. -/
def Ready (b g g1 l n : Nat) (bs : List Value) (w w1 : World) : Prop :=
  ∃ lr cap cur, w1.heap[b]? = some (.cells #[.slice (some ⟨g1, 0, none⟩) (l + n) cap, .int .i64 0, .int .i8 lr] 95 (0, 0)) ∧ g1 ≠ b ∧ w1.heap[g1]? = some (.cells cur 5 (0, 0)) ∧
    l + n ≤ cap ∧ cap ≤ maxLen ∧ cur.size = cap ∧ cur.toList.take l = bs ∧ Step [b, g] [b, g1] w w1

def NoRoom (b n : Nat) (w : World) : Prop := ∃ ao l cap, w.cell? ⟨b, 0, none⟩ = some (.slice ao l cap) ∧ cap - l < n

theorem try_any (b g n : Nat) (bs : List Value) (w : World) (h : Buf b g 0 bs w) (hn : 1 ≤ n) :
    Calls Tryz.prog 63 #[.pointer (some ⟨b, 0, none⟩), .int .i64 n] w fun e w' =>
      (e = .returned (.tuple #[.int .i64 bs.length, .bool true]) ∧ Ready b g g bs.length n bs w w') ∨ (e = .returned (.tuple #[.int .i64 0, .bool false]) ∧ w = w' ∧ NoRoom b n w) := by
  obtain ⟨lr, ⟨hbk, rfl, _, rfl⟩ | ⟨cap, cur, hbk, hgb, hg, hnc, hcm, hcs, htk⟩⟩ := h
  · have c0 : w.cell? ⟨g, 0, none⟩ = some (.slice none 0 0) := by rw [cell_heap hbk]; rfl
    refine (Tryz.Buffer_tryGrow_none g _ 0 0 n w c0 (Nat.le_refl _) (Nat.zero_le _) (by omega)).mono ?_
    rintro e w' ⟨rfl, rfl⟩
    exact .inr ⟨rfl, rfl, _, _, _, c0, by omega⟩
  · simp only [Nat.zero_add, List.drop_zero] at hbk hnc htk
    have c0 : w.cell? ⟨b, 0, none⟩ = some (.slice (some ⟨g, 0, none⟩) bs.length cap) := by rw [cell_heap hbk]; rfl
    by_cases hroom : n ≤ cap - bs.length
    · refine (Tryz.Buffer_tryGrow_room b _ bs.length cap n w c0 (frozen_heap hbk 0) hnc hcm hroom).mono ?_
      rintro e w' ⟨rfl, rfl⟩
      refine .inl ⟨rfl, lr, cap, cur, ?_, hgb, heap_set_other hg hgb _, by omega, hcm, hcs, htk, ?_⟩
      · rw [heap_set_same hbk]; simp
      · exact ((Step.refl [b, g] w).setCell (p := ⟨b, 0, none⟩) (.inl (by simp)) _)
    · refine (Tryz.Buffer_tryGrow_none b _ bs.length cap n w c0 hnc hcm (by omega)).mono ?_
      rintro e w' ⟨rfl, rfl⟩
      exact .inr ⟨rfl, rfl, _, _, _, c0, by omega⟩

theorem grew_ready {b g l n : Nat} {lr : Int} {bs : List Value} {w w1 : World} (h : Grew b l n lr bs w w1) : ∃ g1, Ready b g g1 l n bs w w1 := by
  obtain ⟨N, cap, cells, h1, h2, h3, h4, h5, h6, h7, h8⟩ := h
  refine ⟨N, lr, cap, cells, h1, h3, h2, h4, h5, h6, h7, h8.more (by simp) (fun k hk => by
    simp only [List.mem_cons, List.not_mem_nil, or_false] at hk ⊢
    omega)⟩

theorem grow_any (b g n : Nat) (bs : List Value) (w : World) (h : Buf b g 0 bs w) (h1 : ∀ v ∈ bs, v.oneCell' = true) (hn : 1 ≤ n) (hno : NoRoom b n w) (hlim : bs.length + n ≤ 140737488355328) :
    Calls Tryz.prog 64 #[.pointer (some ⟨b, 0, none⟩), .int .i64 n] w fun e w' => e = .returned (.int .i64 bs.length) ∧ ∃ g1, Ready b g g1 bs.length n bs w w' := by
  obtain ⟨ao, l, cap', hc, hr⟩ := hno
  obtain ⟨lr, ⟨hbk, rfl, _, rfl⟩ | ⟨cap, cur, hbk, hgb, hg, hnc, hcm, hcs, htk⟩⟩ := h
  · by_cases h64 : n ≤ 64
    · refine (grow_nil_small g n lr w hbk hn h64).mono ?_
      rintro e w' ⟨rfl, hG⟩
      exact ⟨rfl, grew_ready hG⟩
    · refine (grow_nil_big g n lr w hbk (by omega) (by simpa using hlim)).mono ?_
      rintro e w' ⟨rfl, hG⟩
      exact ⟨rfl, grew_ready hG⟩
  · simp only [Nat.zero_add, List.drop_zero] at hbk hnc htk
    have c0 : w.cell? ⟨b, 0, none⟩ = some (.slice (some ⟨g, 0, none⟩) bs.length cap) := by rw [cell_heap hbk]; rfl
    rw [c0] at hc
    simp only [Option.some.injEq, Value.slice.injEq] at hc
    obtain ⟨_, rfl, rfl⟩ := hc
    refine (grow_row b g bs.length cap n lr cur w hbk hg hnc hcm hcs (by rw [htk]; exact h1) hn hr hlim).mono ?_
    rintro e w' ⟨rfl, hG⟩
    rw [htk] at hG
    exact ⟨rfl, grew_ready hG⟩

theorem Step.setRow {S T : List Nat} {a b : World} (h : Step S T a b) {g : Nat} (hp : g ∈ S ∨ a.heap.size ≤ g) (cs : Array Value) : Step S T a (b.setRow g cs) :=
  ⟨h.os, h.tape, h.output, by have := h.size; simpa using this, fun k hk hn => by
    rw [setRow_other _ _ _ _ (fun e => by subst e; rcases hp with hp | hp; exact hn hp; omega), h.block k hk hn], h.own⟩

theorem own_mem {b g g1 : Nat} {w w1 : World} (h : Step [b, g] [b, g1] w w1) : g1 ∈ [b, g] ∨ w.heap.size ≤ g1 := h.own g1 (by simp)

/-- The room is filled. -/
theorem wrote {b g g1 l n cap : Nat} {lr : Int} {cur : Array Value} {bs news : List Value} {w w1 : World} (hbk : w1.heap[b]? = some (.cells #[.slice (some ⟨g1, 0, none⟩) (l + n) cap, .int .i64 0, .int .i8 lr] 95 (0, 0)))
    (hgb : g1 ≠ b) (hg : w1.heap[g1]? = some (.cells cur 5 (0, 0))) (hnc : l + n ≤ cap) (hcm : cap ≤ maxLen) (hcs : cur.size = cap) (htk : cur.toList.take l = bs) (hs : Step [b, g] [b, g1] w w1) (hnl : news.length = n) :
    Buf b g1 0 (bs ++ news) (w1.setRow g1 (bs ++ (news ++ cur.toList.drop (l + n))).toArray) ∧ Step [b, g] [b, g1] w (w1.setRow g1 (bs ++ (news ++ cur.toList.drop (l + n))).toArray) := by
  have e : bs ++ (news ++ cur.toList.drop (l + n)) = cur.toList.take l ++ news ++ cur.toList.drop (l + n) := by rw [htk, List.append_assoc]
  rw [e]
  have hl : (cur.toList.take l).length = l := by rw [List.length_take, Array.length_toList]; omega
  have hbl : bs.length = l := by rw [← htk]; exact hl
  subst hnl
  refine ⟨⟨lr, .inr ⟨cap, (cur.toList.take l ++ news ++ cur.toList.drop (l + news.length)).toArray, ?_, hgb, ?_, ?_, hcm, ?_, ?_⟩⟩, hs.setRow (own_mem hs) _⟩
  · rw [setRow_other _ _ _ _ (Ne.symm hgb), hbk]; simp [hbl]
  · exact setRow_heap w1 g1 cur _ _ _ hg
  · simp [hbl]; omega
  · simp only [List.size_toArray, List.length_append, hl, List.length_drop, Array.length_toList]; omega
  · simp only [List.length_append, hbl, Nat.zero_add, List.drop_zero, List.toList_toArray]
    rw [List.take_append_of_le_length (by rw [List.length_append, hl]; exact Nat.le_refl _), List.take_of_length_le (by rw [List.length_append, hl]; exact Nat.le_refl _), htk]

/-- What stands ahead of every writing: the struct's third cell is set. -/
theorem Buf.last {b g off : Nat} {bs : List Value} {w : World} (h : Buf b g off bs w) (x : Int) : Buf b g off bs (w.setCell ⟨b, 2, none⟩ (.int .i8 x)) := by
  obtain ⟨lr, ⟨h1, h2⟩ | ⟨cap, cur, h1, hn, h2, h3⟩⟩ := h
  · exact ⟨x, .inl ⟨by rw [heap_set_same h1]; simp, h2⟩⟩
  · exact ⟨x, .inr ⟨cap, cur, by rw [heap_set_same h1]; simp, hn, heap_set_other h2 hn _, h3⟩⟩

theorem Buf.cell2 {b g off : Nat} {bs : List Value} {w : World} (h : Buf b g off bs w) : ∃ lr, w.cell? ⟨b, 2, none⟩ = some (.int .i8 lr) ∧ w.frozen? ⟨b, 2, none⟩ = false := by
  obtain ⟨lr, ⟨h1, _⟩ | ⟨cap, cur, h1, _⟩⟩ := h
  · exact ⟨lr, by rw [cell_heap h1]; rfl, frozen_heap h1 2⟩
  · exact ⟨lr, by rw [cell_heap h1]; rfl, frozen_heap h1 2⟩

theorem size8 : (Tryz.prog.info? 5).map (·.size) = some 1 := by
  obtain ⟨i0, hi, -, hz1, -⟩ := info_parts info8
  rw [hi]; simp [hz1]

set_option maxHeartbeats 2000000 in
set_option maxRecDepth 100000 in
/-- Write: a slice of bytes, in whatever block but the buffer's own. -/
theorem buf_write (b g n c : Nat) (bs cs : List Value) (a : Addr) (w : World) (h : Buf b g 0 bs w) (h1 : ∀ v ∈ bs, v.oneCell' = true) (hn : cs.length = n) (hab : a.block ≠ b) (hag : a.block ≠ g) (hal : a.block < w.heap.size)
    (hsrc : ∀ j v, cs[j]? = some v → w.cell? (a.add j) = some v) (h1c : ∀ v ∈ cs, v.oneCell' = true) (hn1 : 1 ≤ n) (hlim : bs.length + n ≤ 140737488355328) :
    Calls Tryz.prog 55 #[.pointer (some ⟨b, 0, none⟩), .slice (some a) n c] w fun e w' => e = .returned (.tuple #[.int .i64 n, .nilIface]) ∧ ∃ g1, Buf b g1 0 (bs ++ cs) w' ∧ Step [b, g] [b, g1] w w' := by
  obtain ⟨lr, c2, f2⟩ := h.cell2
  have h0 := h.last 0
  have hs0 : Step [b, g] [b, g] w (w.setCell ⟨b, 2, none⟩ (.int .i8 0)) := (Step.refl _ _).setCell (p := ⟨b, 2, none⟩) (.inl (by simp)) _
  have hal0 : a.block < (w.setCell ⟨b, 2, none⟩ (.int .i8 0)).heap.size := by simpa [World.setCell] using hal
  have hsrc0 : ∀ j v, cs[j]? = some v → (w.setCell ⟨b, 2, none⟩ (.int .i8 0)).cell? (a.add j) = some v := fun j v hj => by
    rw [hs0.cell (by rw [Lib.block_add]; exact hal) (by rw [Lib.block_add]; simp [hab, hag])]; exact hsrc j v hj
  clear hsrc
  go_enter Tryz.func55, Tryz.ntmps55
  go_wp2_with (go_at_call 63; refine (try_any b g n bs _ ?_ hn1).mono ?_)
  · exact h0
  generalize w.setCell ⟨b, 2, none⟩ (.int .i8 0) = w0 at *
  rintro e W1 (⟨rfl, hR⟩ | ⟨rfl, rfl, hno⟩)
  · obtain ⟨lr1, cap, cur, hbk, hgb, hg, hnc, hcm, hcs, htk, hs⟩ := hR
    have d0 : W1.cell? ⟨b, 0, none⟩ = some (.slice (some ⟨g, 0, none⟩) (bs.length + n) cap) := by rw [cell_heap hbk]; rfl
    have hne : ¬ cap = bs.length := by omega
    have hsrc1 : ∀ j v, cs[j]? = some v → W1.cell? (a.add j) = some v := fun j v hj => by
      rw [hs.cell (by rw [Lib.block_add]; exact hal0) (by rw [Lib.block_add]; simp [hab, hag])]; exact hsrc0 j v hj
    have hcp := run_copy_row (P := Tryz.prog) W1 24 24 3 5 g bs.length n (cap - bs.length) a n c cur 5 cs Tryz.underlying24 size8 hg (by rw [hn]; exact (Nat.min_self n).symm) hsrc1 (by rw [hn]; omega) h1c
    rw [hn] at hcp
    have hcm' := hcm
    unfold maxLen at hcm'
    clear hsrc1 hsrc0 c2 f2
    go_wp2
    go_ret2
    obtain ⟨r1, r2⟩ := wrote hbk hgb hg hnc hcm hcs htk (hs0.trans hs) hn
    exact ⟨rfl, g, r1, r2⟩
  · go_wp2_with (go_at_call 64; refine (grow_any b g n bs _ h0 h1 hn1 hno hlim).mono ?_)
    rintro e W1 ⟨rfl, g1, hR⟩
    obtain ⟨lr1, cap, cur, hbk, hgb, hg, hnc, hcm, hcs, htk, hs⟩ := hR
    have d0 : W1.cell? ⟨b, 0, none⟩ = some (.slice (some ⟨g1, 0, none⟩) (bs.length + n) cap) := by rw [cell_heap hbk]; rfl
    have hne : ¬ cap = bs.length := by omega
    have hsrc1 : ∀ j v, cs[j]? = some v → W1.cell? (a.add j) = some v := fun j v hj => by
      rw [hs.cell (by rw [Lib.block_add]; exact hal0) (by rw [Lib.block_add]; simp [hab, hag])]; exact hsrc0 j v hj
    have hcp := run_copy_row (P := Tryz.prog) W1 24 24 3 5 g1 bs.length n (cap - bs.length) a n c cur 5 cs Tryz.underlying24 size8 hg (by rw [hn]; exact (Nat.min_self n).symm) hsrc1 (by rw [hn]; omega) h1c
    rw [hn] at hcp
    have hcm' := hcm
    unfold maxLen at hcm'
    clear hsrc1 hsrc0 c2 f2
    go_wp2
    go_ret2
    obtain ⟨r1, r2⟩ := wrote hbk hgb hg hnc hcm hcs htk (hs0.trans hs) hn
    exact ⟨rfl, g1, r1, r2⟩

set_option maxHeartbeats 2000000 in
set_option maxRecDepth 100000 in
/-- Write: of no byte. -/
theorem buf_write_none (b g c : Nat) (bs : List Value) (ao : Option Addr) (w : World) (h : Buf b g 0 bs w) :
    Calls Tryz.prog 55 #[.pointer (some ⟨b, 0, none⟩), .slice ao 0 c] w fun e w' => e = .returned (.tuple #[.int .i64 0, .nilIface]) ∧ Buf b g 0 bs w' ∧ Step [b, g] [b, g] w w' := by
  obtain ⟨lr, c2, f2⟩ := h.cell2
  have h0 := h.last 0
  have hs0 : Step [b, g] [b, g] w (w.setCell ⟨b, 2, none⟩ (.int .i8 0)) := (Step.refl _ _).setCell (p := ⟨b, 2, none⟩) (.inl (by simp)) _
  have hce : ∀ d dLen dCap W, (Builtin.copy_ #[24, 24] 3 #[.slice d dLen dCap, .slice ao 0 c]).run Tryz.prog W = .ok (goInt 0) W := fun d dLen dCap W => run_copy_none W 24 24 3 5 d ao dLen dCap 0 c Tryz.underlying24 size8 (by simp)
  obtain ⟨lr0, ⟨hbk, rfl, _, rfl⟩ | ⟨cap, cur, hbk, hgb, hg, hnc, hcm, hcs, htk⟩⟩ := id h0
  · have d0 : (w.setCell ⟨g, 2, none⟩ (.int .i8 0)).cell? ⟨g, 0, none⟩ = some (.slice none 0 0) := by rw [cell_heap hbk]; rfl
    have hT := Tryz.Buffer_tryGrow_room g none 0 0 0 _ d0 (frozen_heap hbk 0) (Nat.le_refl _) (Nat.zero_le _) (Nat.le_refl _)
    have hbk2 := heap_set_same (o := 0) hbk (.slice none (0 + 0) 0)
    have d1 : ((w.setCell ⟨g, 2, none⟩ (.int .i8 0)).setCell ⟨g, 0, none⟩ (.slice none (0 + 0) 0)).cell? ⟨g, 0, none⟩ = some (.slice none 0 0) := by rw [cell_heap hbk2]; rfl
    have hs1 : Step [g, g] [g, g] w ((w.setCell ⟨g, 2, none⟩ (.int .i8 0)).setCell ⟨g, 0, none⟩ (.slice none (0 + 0) 0)) := hs0.setCell (p := ⟨g, 0, none⟩) (.inl (by simp)) _
    have hB : Buf g g 0 [] ((w.setCell ⟨g, 2, none⟩ (.int .i8 0)).setCell ⟨g, 0, none⟩ (.slice none (0 + 0) 0)) := ⟨lr0, .inl ⟨by rw [hbk2]; simp, rfl, rfl, rfl⟩⟩
    clear hbk2
    go_enter Tryz.func55, Tryz.ntmps55
    go_wp2_with (go_at_call 63; refine hT.mono ?_; rintro e W1 ⟨rfl, rfl⟩)
    all_goals (go_ret2; exact ⟨by simp, hB, hs1⟩)
  · simp only [Nat.zero_add, List.drop_zero] at hbk hnc htk
    have d0 : (w.setCell ⟨b, 2, none⟩ (.int .i8 0)).cell? ⟨b, 0, none⟩ = some (.slice (some ⟨g, 0, none⟩) bs.length cap) := by rw [cell_heap hbk]; rfl
    have hT := Tryz.Buffer_tryGrow_room b (some ⟨g, 0, none⟩) bs.length cap 0 _ d0 (frozen_heap hbk 0) hnc hcm (by omega)
    have hbk2 := heap_set_same (o := 0) hbk (.slice (some ⟨g, 0, none⟩) (bs.length + 0) cap)
    have d1 : ((w.setCell ⟨b, 2, none⟩ (.int .i8 0)).setCell ⟨b, 0, none⟩ (.slice (some ⟨g, 0, none⟩) (bs.length + 0) cap)).cell? ⟨b, 0, none⟩ = some (.slice (some ⟨g, 0, none⟩) bs.length cap) := by rw [cell_heap hbk2]; rfl
    have hs1 : Step [b, g] [b, g] w ((w.setCell ⟨b, 2, none⟩ (.int .i8 0)).setCell ⟨b, 0, none⟩ (.slice (some ⟨g, 0, none⟩) (bs.length + 0) cap)) := hs0.setCell (p := ⟨b, 0, none⟩) (.inl (by simp)) _
    have hB : Buf b g 0 bs ((w.setCell ⟨b, 2, none⟩ (.int .i8 0)).setCell ⟨b, 0, none⟩ (.slice (some ⟨g, 0, none⟩) (bs.length + 0) cap)) :=
      ⟨lr0, .inr ⟨cap, cur, by rw [hbk2]; simp, hgb, heap_set_other hg hgb _, by omega, hcm, hcs, by simpa using htk⟩⟩
    clear hbk2
    unfold maxLen at hcm
    by_cases hne : cap = bs.length
    · subst hne
      go_enter Tryz.func55, Tryz.ntmps55
      go_wp2_with (go_at_call 63; refine hT.mono ?_; rintro e W1 ⟨rfl, rfl⟩)
      all_goals (go_ret2; exact ⟨by simp, hB, hs1⟩)
    · go_enter Tryz.func55, Tryz.ntmps55
      go_wp2_with (go_at_call 63; refine hT.mono ?_; rintro e W1 ⟨rfl, rfl⟩)
      all_goals (go_ret2; exact ⟨by simp, hB, hs1⟩)

end Go.Proofs.YtnpiheoglilcbaaGreatDoor

/-! The other calls of a bytes.Buffer: a byte and a text are written, its bytes and their number told, bytes and a byte read. -/
namespace Go.Proofs.YtnpiheoglilcbaaGreatDoor
open Go.RowKit Go.Deep
set_option linter.unusedVariables false
set_option linter.unusedSimpArgs false

theorem poked {b g g1 l cap : Nat} {lr : Int} {cur : Array Value} {bs : List Value} {w w1 : World} (hbk : w1.heap[b]? = some (.cells #[.slice (some ⟨g1, 0, none⟩) (l + 1) cap, .int .i64 0, .int .i8 lr] 95 (0, 0)))
    (hgb : g1 ≠ b) (hg : w1.heap[g1]? = some (.cells cur 5 (0, 0))) (hnc : l + 1 ≤ cap) (hcm : cap ≤ maxLen) (hcs : cur.size = cap) (htk : cur.toList.take l = bs) (hs : Step [b, g] [b, g1] w w1) (v : Value) :
    Buf b g1 0 (bs ++ [v]) (w1.setCell ⟨g1, l, none⟩ v) ∧ Step [b, g] [b, g1] w (w1.setCell ⟨g1, l, none⟩ v) := by
  have hl : (cur.toList.take l).length = l := by rw [List.length_take, Array.length_toList]; omega
  have hbl : bs.length = l := by rw [← htk]; exact hl
  have hll : l < cur.toList.length := by have : cur.toList.length = cur.size := Array.length_toList; omega
  refine ⟨⟨lr, .inr ⟨cap, cur.setIfInBounds l v, ?_, hgb, heap_set_same hg v, ?_, hcm, by simpa using hcs, ?_⟩⟩, hs.setCell (p := ⟨g1, l, none⟩) (own_mem hs) v⟩
  · rw [Below.heap_setCell _ _ _ _ (Ne.symm hgb), hbk]; simp [hbl]
  · simp [hbl]; omega
  · simp only [List.length_append, hbl, Nat.zero_add, List.drop_zero, List.length_singleton, Array.toList_setIfInBounds]
    rw [List.take_add_one, List.take_set_of_le (Nat.le_refl _), List.getElem?_set_self hll, htk]
    rfl

set_option maxHeartbeats 2000000 in
set_option maxRecDepth 100000 in
/-- WriteByte. -/
theorem buf_writeByte (b g : Nat) (bs : List Value) (x : Int) (w : World) (h : Buf b g 0 bs w) (h1 : ∀ v ∈ bs, v.oneCell' = true) (hlim : bs.length + 1 ≤ 140737488355328) :
    Calls Tryz.prog 90 #[.pointer (some ⟨b, 0, none⟩), .int .u8 x] w fun e w' => e = .returned .nilIface ∧ ∃ g1, Buf b g1 0 (bs ++ [.int .u8 x]) w' ∧ Step [b, g] [b, g1] w w' := by
  obtain ⟨lr, c2, f2⟩ := h.cell2
  have h0 := h.last 0
  have hs0 : Step [b, g] [b, g] w (w.setCell ⟨b, 2, none⟩ (.int .i8 0)) := (Step.refl _ _).setCell (p := ⟨b, 2, none⟩) (.inl (by simp)) _
  have hT : ∀ W, Buf b g 0 bs W → Calls Tryz.prog 63 #[.pointer (some ⟨b, 0, none⟩), .int .i64 1] W _ := fun W hW => try_any b g 1 bs W hW (Nat.le_refl _)
  have hG : ∀ W, Buf b g 0 bs W → NoRoom b 1 W → Calls Tryz.prog 64 #[.pointer (some ⟨b, 0, none⟩), .int .i64 1] W _ := fun W hW hno => grow_any b g 1 bs W hW h1 (Nat.le_refl _) hno hlim
  go_enter Tryz.func90, Tryz.ntmps90
  go_wp2_with (go_at_call 63; refine (hT _ ?_).mono ?_)
  · exact h0
  clear c2 f2
  generalize w.setCell ⟨b, 2, none⟩ (.int .i8 0) = w0 at *
  rintro e W1 (⟨rfl, hR⟩ | ⟨rfl, rfl, hno⟩)
  · obtain ⟨lr1, cap, cur, hbk, hgb, hg, hnc, hcm, hcs, htk, hs⟩ := hR
    have d0 : W1.cell? ⟨b, 0, none⟩ = some (.slice (some ⟨g, 0, none⟩) (bs.length + 1) cap) := by rw [cell_heap hbk]; rfl
    have hlt : bs.length < cur.size := by omega
    have dg : W1.cell? ⟨g, bs.length, none⟩ = some cur[bs.length] := by rw [cell_heap hg, Array.getElem?_eq_getElem hlt]
    have fg : W1.frozen? ⟨g, bs.length, none⟩ = false := frozen_heap hg _
    have HT := Lib.hid htk
    have hcm' := hcm
    unfold maxLen at hcm'
    clear hT hG htk
    go_wp2
    go_ret
    obtain ⟨r1, r2⟩ := poked hbk hgb hg hnc hcm hcs HT.out (hs0.trans hs) (.int .u8 x)
    exact ⟨rfl, g, r1, r2⟩
  · go_wp2_with (go_at_call 64; refine (hG _ h0 hno).mono ?_)
    rintro e W1 ⟨rfl, g1, hR⟩
    obtain ⟨lr1, cap, cur, hbk, hgb, hg, hnc, hcm, hcs, htk, hs⟩ := hR
    have d0 : W1.cell? ⟨b, 0, none⟩ = some (.slice (some ⟨g1, 0, none⟩) (bs.length + 1) cap) := by rw [cell_heap hbk]; rfl
    have hlt : bs.length < cur.size := by omega
    have dg : W1.cell? ⟨g1, bs.length, none⟩ = some cur[bs.length] := by rw [cell_heap hg, Array.getElem?_eq_getElem hlt]
    have fg : W1.frozen? ⟨g1, bs.length, none⟩ = false := frozen_heap hg _
    have HT := Lib.hid htk
    have hcm' := hcm
    unfold maxLen at hcm'
    clear hT hG htk
    go_wp2
    go_ret
    obtain ⟨r1, r2⟩ := poked hbk hgb hg hnc hcm hcs HT.out (hs0.trans hs) (.int .u8 x)
    exact ⟨rfl, g1, r1, r2⟩

set_option maxHeartbeats 2000000 in
set_option maxRecDepth 100000 in
/-- WriteString: of a byte at least. -/
theorem buf_writeString (b g : Nat) (bs : List Value) (s : ByteArray) (w : World) (h : Buf b g 0 bs w) (h1 : ∀ v ∈ bs, v.oneCell' = true) (hn1 : 1 ≤ s.size) (hlim : bs.length + s.size ≤ 140737488355328) :
    Calls Tryz.prog 91 #[.pointer (some ⟨b, 0, none⟩), .string s] w fun e w' => e = .returned (.tuple #[.int .i64 s.size, .nilIface]) ∧ ∃ g1, Buf b g1 0 (bs ++ Lib.byteCells s.data.toList) w' ∧ Step [b, g] [b, g1] w w' := by
  obtain ⟨lr, c2, f2⟩ := h.cell2
  have h0 := h.last 0
  have hs0 : Step [b, g] [b, g] w (w.setCell ⟨b, 2, none⟩ (.int .i8 0)) := (Step.refl _ _).setCell (p := ⟨b, 2, none⟩) (.inl (by simp)) _
  have hbl : (Lib.byteCells s.data.toList).length = s.size := by rw [Lib.byteCells_length, ← Lib.size_eq]
  go_enter Tryz.func91, Tryz.ntmps91
  go_wp2_with (go_at_call 63; refine (try_any b g s.size bs _ ?_ hn1).mono ?_)
  · exact h0
  clear c2 f2
  generalize w.setCell ⟨b, 2, none⟩ (.int .i8 0) = w0 at *
  rintro e W1 (⟨rfl, hR⟩ | ⟨rfl, rfl, hno⟩)
  · obtain ⟨lr1, cap, cur, hbk, hgb, hg, hnc, hcm, hcs, htk, hs⟩ := hR
    have d0 : W1.cell? ⟨b, 0, none⟩ = some (.slice (some ⟨g, 0, none⟩) (bs.length + s.size) cap) := by rw [cell_heap hbk]; rfl
    have hne : ¬ cap = bs.length := by omega
    have hcp := Lib.run_copy_row_string (P := Tryz.prog) W1 24 9 3 5 g bs.length s.size (cap - bs.length) s cur 5 Tryz.underlying24 size8 hg (Nat.le_refl _) (by omega)
    have hcm' := hcm
    unfold maxLen at hcm'
    have HL := Lib.hid hbl
    clear hbl
    go_wp2
    go_ret2
    obtain ⟨r1, r2⟩ := wrote hbk hgb hg hnc hcm hcs htk (hs0.trans hs) HL.out
    exact ⟨rfl, g, r1, r2⟩
  · go_wp2_with (go_at_call 64; refine (grow_any b g s.size bs _ h0 h1 hn1 hno hlim).mono ?_)
    rintro e W1 ⟨rfl, g1, hR⟩
    obtain ⟨lr1, cap, cur, hbk, hgb, hg, hnc, hcm, hcs, htk, hs⟩ := hR
    have d0 : W1.cell? ⟨b, 0, none⟩ = some (.slice (some ⟨g1, 0, none⟩) (bs.length + s.size) cap) := by rw [cell_heap hbk]; rfl
    have hne : ¬ cap = bs.length := by omega
    have hcp := Lib.run_copy_row_string (P := Tryz.prog) W1 24 9 3 5 g1 bs.length s.size (cap - bs.length) s cur 5 Tryz.underlying24 size8 hg (Nat.le_refl _) (by omega)
    have hcm' := hcm
    unfold maxLen at hcm'
    have HL := Lib.hid hbl
    clear hbl
    go_wp2
    go_ret2
    obtain ⟨r1, r2⟩ := wrote hbk hgb hg hnc hcm hcs htk (hs0.trans hs) HL.out
    exact ⟨rfl, g1, r1, r2⟩

/-- Len, of the bytes that are not read. -/
theorem buf_left (b g off : Nat) (bs : List Value) (w : World) (h : Buf b g off bs w) :
    Calls Tryz.prog 43 #[.pointer (some ⟨b, 0, none⟩)] w fun e w' => e = .returned (.int .i64 bs.length) ∧ ∃ n, w' = w.drewN n := by
  obtain ⟨lr, ⟨hbk, rfl, rfl, rfl⟩ | ⟨cap, cur, hbk, hgb, hg, hnc, hcm, hcs, htk⟩⟩ := h
  · exact buf_len g 0 0 0 none w (by rw [cell_heap hbk]; rfl) (by rw [cell_heap hbk]; rfl) (Nat.le_refl _) (Nat.zero_le _)
  · refine (buf_len b (off + bs.length) off cap _ w (by rw [cell_heap hbk]; rfl) (by rw [cell_heap hbk]; rfl) (by omega) (by omega)).mono ?_
    rintro e w' ⟨rfl, hw⟩
    exact ⟨ret_of (by congr 2; omega), hw⟩

end Go.Proofs.YtnpiheoglilcbaaGreatDoor

/-! What a bytes.Buffer tells and gives: its bytes, bytes that are read, a byte that is read, the end. -/
namespace Go.Proofs.YtnpiheoglilcbaaGreatDoor
open Go.RowKit Go.Deep
set_option linter.unusedVariables false
set_option linter.unusedSimpArgs false

/-- The value v is a slice of the cells cs in block k, or nil. -/
def IsB (cs : List Value) (v : Value) (k : Nat) (w : World) : Prop :=
  ∃ c, (v = .slice none 0 0 ∧ cs = []) ∨ ∃ o, v = .slice (some ⟨k, o, none⟩) cs.length c ∧ cs.length ≤ c ∧ c ≤ maxLen ∧ k < w.heap.size ∧ ∀ j x, cs[j]? = some x → w.cell? ⟨k, o + j, none⟩ = some x

theorem IsB.step {cs : List Value} {v : Value} {k : Nat} {S T : List Nat} {w w1 : World} (h : IsB cs v k w) (hs : Step S T w w1) (hk : k ∉ S) : IsB cs v k w1 := by
  obtain ⟨c, h | ⟨o, h1, h2, h3, h4, h5⟩⟩ := h
  · exact ⟨c, .inl h⟩
  · exact ⟨c, .inr ⟨o, h1, h2, h3, Nat.lt_of_lt_of_le h4 hs.size, fun j x hj => by rw [hs.cell (p := ⟨k, o + j, none⟩) h4 hk]; exact h5 j x hj⟩⟩

set_option maxHeartbeats 1000000 in
/-- Bytes, of a buffer of which nothing was read. -/
theorem buf_bytes (b g : Nat) (bs : List Value) (w : World) (h : Buf b g 0 bs w) :
    Calls Tryz.prog 28 #[.pointer (some ⟨b, 0, none⟩)] w fun e w' => ∃ v, e = .returned v ∧ IsB bs v g w' ∧ ∃ n, w' = w.drewN n := by
  obtain ⟨lr, ⟨hbk, rfl, _, rfl⟩ | ⟨cap, cur, hbk, hgb, hg, hnc, hcm, hcs, htk⟩⟩ := h
  · have c0 : w.cell? ⟨g, 0, none⟩ = some (.slice none 0 0) := by rw [cell_heap hbk]; rfl
    have c1 : w.cell? ⟨g, 1, none⟩ = some (.int .i64 0) := by rw [cell_heap hbk]; rfl
    go_enter Tryz.func28, Tryz.ntmps28
    go_wp2
    go_quiet (fail)
    go_wp2
    go_ret
    exact ⟨_, rfl, ⟨0, .inl ⟨rfl, rfl⟩⟩, _, rfl⟩
  · simp only [Nat.zero_add, List.drop_zero] at hbk hnc htk
    have c0 : w.cell? ⟨b, 0, none⟩ = some (.slice (some ⟨g, 0, none⟩) bs.length cap) := by rw [cell_heap hbk]; rfl
    have c1 : w.cell? ⟨b, 1, none⟩ = some (.int .i64 0) := by rw [cell_heap hbk]; rfl
    have hcells : ∀ j x, bs[j]? = some x → w.cell? ⟨g, 0 + j, none⟩ = some x := fun j x hj => by
      rw [cell_heap hg, Nat.zero_add]
      rw [← htk, List.getElem?_take] at hj
      split at hj
      · simpa using hj
      · cases hj
    have hlt := lt_heap hg
    have HC := Lib.hid hcells
    have hcm' := hcm
    unfold maxLen at hcm'
    clear hcells htk
    go_enter Tryz.func28, Tryz.ntmps28
    go_wp2
    go_quiet (fail)
    go_wp2
    go_ret
    refine ⟨_, rfl, ⟨cap, .inr ⟨0, rfl, hnc, hcm, hlt, HC.out⟩⟩, _, rfl⟩

theorem buf_empty_yes (b l off cap : Nat) (ao : Option Addr) (w : World) (c0 : w.cell? ⟨b, 0, none⟩ = some (.slice ao l cap)) (c1 : w.cell? ⟨b, 1, none⟩ = some (.int .i64 off)) (hl : l ≤ off) :
    Calls Tryz.prog 92 #[.pointer (some ⟨b, 0, none⟩)] w fun e w' => e = .returned (.bool true) ∧ ∃ n, w' = w.drewN n := by
  go_enter Tryz.func92, Tryz.ntmps92
  go_wp2
  go_quiet (fail)
  go_wp2
  go_ret
  exact ⟨rfl, _, rfl⟩

theorem buf_empty_no (b l off cap : Nat) (ao : Option Addr) (w : World) (c0 : w.cell? ⟨b, 0, none⟩ = some (.slice ao l cap)) (c1 : w.cell? ⟨b, 1, none⟩ = some (.int .i64 off)) (hl : off < l) :
    Calls Tryz.prog 92 #[.pointer (some ⟨b, 0, none⟩)] w fun e w' => e = .returned (.bool false) ∧ ∃ n, w' = w.drewN n := by
  go_enter Tryz.func92, Tryz.ntmps92
  go_wp2
  go_quiet (fail)
  go_wp2
  go_ret
  exact ⟨ret_of (by show Value.bool (decide _) = _; simpa using hl), _, rfl⟩

theorem read_end {b g off d cap k : Nat} {bs : List Value} {cur row : Array Value} {lr : Int} {td : TypeId} {w W1 : World} (hs : Step [b, d] [b, d] w W1)
    (hbk : W1.heap[b]? = some (.cells #[.slice (some ⟨g, 0, none⟩) (off + bs.length) cap, .int .i64 off, .int .i8 lr] 95 (0, 0))) (hg : W1.heap[g]? = some (.cells row 5 (0, 0))) (hd : W1.heap[d]? = some (.cells cur td (0, 0)))
    (hgb : g ≠ b) (hdb : d ≠ b) (hdg : d ≠ g) (hnc : off + bs.length ≤ cap) (hcm : cap ≤ maxLen) (hcs : row.size = cap) (htk : (row.toList.take (off + bs.length)).drop off = bs) (hk : k ≤ bs.length) (cs : Array Value) :
    Buf b g (off + k) (bs.drop k) (((W1.drew.setRow d cs).setCell ⟨b, 1, none⟩ (.int .i64 ((off : Int) + k))).setCell ⟨b, 2, none⟩ (.int .i8 (-1))) ∧
      (((W1.drew.setRow d cs).setCell ⟨b, 1, none⟩ (.int .i64 ((off : Int) + k))).setCell ⟨b, 2, none⟩ (.int .i8 (-1))).heap[d]? = some (.cells cs td (0, 0)) ∧
      Step [b, d] [b, d] w (((W1.drew.setRow d cs).setCell ⟨b, 1, none⟩ (.int .i64 ((off : Int) + k))).setCell ⟨b, 2, none⟩ (.int .i8 (-1))) := by
  refine ⟨⟨-1, .inr ⟨cap, row, ?_, hgb, ?_, by rw [List.length_drop]; omega, hcm, hcs, ?_⟩⟩, ?_, ?_⟩
  · have h0 : (W1.drew.setRow d cs).heap[b]? = _ := (setRow_other _ _ _ _ (Ne.symm hdb)).trans hbk
    rw [heap_set_same (heap_set_same h0 _)]
    have e : off + k + (bs.length - k) = off + bs.length := by omega
    simp [List.length_drop, e]
  · exact heap_set_other (heap_set_other ((setRow_other _ _ _ _ (Ne.symm hdg)).trans hg) hgb _) hgb _
  · have e : off + k + (bs.drop k).length = off + bs.length := by rw [List.length_drop]; omega
    rw [e, ← List.drop_drop, htk]
  · exact heap_set_other (heap_set_other (setRow_heap _ _ _ _ _ _ hd) hdb _) hdb _
  · exact ((hs.drew.setRow (by simp) cs).setCell (p := ⟨b, 1, none⟩) (.inl (by simp)) _).setCell (p := ⟨b, 2, none⟩) (.inl (by simp)) _

set_option maxHeartbeats 1000000 in
set_option maxRecDepth 100000 in
/-- Read: bytes that are there, into a row. -/
theorem buf_read (b g off d o n c : Nat) (bs : List Value) (cur : Array Value) (td : TypeId) (w : World) (h : Buf b g off bs w) (hne : 1 ≤ bs.length) (h1 : ∀ v ∈ bs, v.oneCell' = true)
    (hd : w.heap[d]? = some (.cells cur td (0, 0))) (hdb : d ≠ b) (hdg : d ≠ g) (hfit : o + n ≤ cur.size) (hn1 : 1 ≤ n) (hnm : n ≤ maxLen) :
    Calls Tryz.prog 285 #[.pointer (some ⟨b, 0, none⟩), .slice (some ⟨d, o, none⟩) n c] w fun e w' => e = .returned (.tuple #[.int .i64 (min n bs.length : Nat), .nilIface]) ∧
      Buf b g (off + min n bs.length) (bs.drop (min n bs.length)) w' ∧ w'.heap[d]? = some (.cells (cur.toList.take o ++ bs.take (min n bs.length) ++ cur.toList.drop (o + min n bs.length)).toArray td (0, 0)) ∧ Step [b, d] [b, d] w w' := by
  obtain ⟨lr, ⟨hbk, rfl, _, rfl⟩ | ⟨cap, row, hbk, hgb, hg, hnc, hcm, hcs, htk⟩⟩ := h
  · simp at hne
  have hk : min n bs.length ≤ n ∧ min n bs.length ≤ bs.length ∧ 1 ≤ min n bs.length := by omega
  obtain ⟨k, hkk⟩ : ∃ k, k = min n bs.length := ⟨_, rfl⟩
  rw [← hkk] at hk ⊢
  obtain ⟨hk1, hk2, hk3⟩ := hk
  have hcm' := hcm
  unfold maxLen at hcm' hnm
  have c2 : w.cell? ⟨b, 2, none⟩ = some (.int .i8 lr) := by rw [cell_heap hbk]; rfl
  have f2 : w.frozen? ⟨b, 2, none⟩ = false := frozen_heap hbk 2
  have hbk0 := heap_set_same (o := 2) hbk (.int .i8 0)
  have hg0 : (w.setCell ⟨b, 2, none⟩ (.int .i8 0)).heap[g]? = some (.cells row 5 (0, 0)) := heap_set_other hg hgb _
  have hd0 : (w.setCell ⟨b, 2, none⟩ (.int .i8 0)).heap[d]? = some (.cells cur td (0, 0)) := heap_set_other hd hdb _
  have hs0 : Step [b, d] [b, d] w (w.setCell ⟨b, 2, none⟩ (.int .i8 0)) := (Step.refl _ _).setCell (p := ⟨b, 2, none⟩) (.inl (by simp)) _
  go_enter Tryz.func285, Tryz.ntmps285
  go_wp2_with (go_at_call 92; refine (buf_empty_no b (off + bs.length) off cap (some ⟨g, 0, none⟩) _ ?_ ?_ (by omega)).mono ?_)
  · rw [cell_heap hbk0]; simp
  · rw [cell_heap hbk0]; simp
  clear c2 f2
  generalize w.setCell ⟨b, 2, none⟩ (.int .i8 0) = w0 at *
  rintro e W1 ⟨rfl, q, hW1⟩
  have hbk1 : W1.heap[b]? = some (.cells #[.slice (some ⟨g, 0, none⟩) (off + bs.length) cap, .int .i64 off, .int .i8 0] 95 (0, 0)) := by rw [hW1]; simpa using hbk0
  have hg1 : W1.heap[g]? = some (.cells row 5 (0, 0)) := by rw [hW1]; exact hg0
  have hd1 : W1.heap[d]? = some (.cells cur td (0, 0)) := by rw [hW1]; exact hd0
  have hs1 : Step [b, d] [b, d] w W1 := by rw [hW1]; exact hs0.drewN q
  clear hW1
  have c0 : W1.cell? ⟨b, 0, none⟩ = some (.slice (some ⟨g, 0, none⟩) (off + bs.length) cap) := by rw [cell_heap hbk1]; rfl
  have c1 : W1.cell? ⟨b, 1, none⟩ = some (.int .i64 off) := by rw [cell_heap hbk1]; rfl
  have hmin : (bs.take k).length = Nat.min bs.length n := by rw [List.length_take]; show min k bs.length = min bs.length n; omega
  have hcells : ∀ j v, (bs.take k)[j]? = some v → W1.cell? ((⟨g, off, none⟩ : Addr).add j) = some v := fun j v hj => by
    rw [Lib.addr_add, cell_heap hg1]
    rw [List.getElem?_take] at hj
    split at hj
    · rw [← htk, List.getElem?_drop, List.getElem?_take] at hj
      split at hj
      · simpa using hj
      · cases hj
    · cases hj
  have hcp := run_copy_row (P := Tryz.prog) W1.drew 24 24 3 5 d o n c ⟨g, off, none⟩ bs.length (cap - off) cur td (bs.take k) Tryz.underlying24 size8 hd1 hmin hcells (by rw [hmin]; show o + min bs.length n ≤ _; omega) (fun v hv => h1 v (List.mem_of_mem_take hv))
  rw [hmin] at hcp
  have hmk : Nat.min bs.length n = k := by show min bs.length n = k; omega
  rw [hmk] at hcp
  have hoc : ¬ cap = off := by omega
  have hbd : b ≠ d := Ne.symm hdb
  have hbk2 : ∀ cs, (W1.drew.setRow d cs).heap[b]? = some (.cells #[.slice (some ⟨g, 0, none⟩) (off + bs.length) cap, .int .i64 off, .int .i8 0] 95 (0, 0)) := fun cs => by rw [setRow_other _ _ _ _ hbd]; exact hbk1
  have e0 : ∀ cs, (W1.drew.setRow d cs).cell? ⟨b, 0, none⟩ = some (.slice (some ⟨g, 0, none⟩) (off + bs.length) cap) := fun cs => by rw [cell_heap (hbk2 cs)]; rfl
  have e1 : ∀ cs, (W1.drew.setRow d cs).cell? ⟨b, 1, none⟩ = some (.int .i64 off) := fun cs => by rw [cell_heap (hbk2 cs)]; rfl
  have e2 : ∀ cs, (W1.drew.setRow d cs).cell? ⟨b, 2, none⟩ = some (.int .i8 0) := fun cs => by rw [cell_heap (hbk2 cs)]; rfl
  have g1 : ∀ cs, (W1.drew.setRow d cs).frozen? ⟨b, 1, none⟩ = false := fun cs => frozen_heap (hbk2 cs) 1
  have g2 : ∀ cs, (W1.drew.setRow d cs).frozen? ⟨b, 2, none⟩ = false := fun cs => frozen_heap (hbk2 cs) 2
  have hle1 : (0 : Int) ≤ (off : Int) := by omega
  have hle2 : (off : Int) ≤ ((off + bs.length : Nat) : Int) := by omega
  have hle3 : ((off + bs.length : Nat) : Int) ≤ (cap : Int) := by omega
  have hle4 : (off : Int) ≤ (off : Int) + (bs.length : Int) := by omega
  have HB := Lib.hid hbk2
  have HT := Lib.hid htk
  clear hcells hmin hmk hkk htk hbk0 hg0 hd0 hs0 hbk hbk2
  go_wp2
  go_region_held3 (fun w' => w'.cell? ⟨b, 0, none⟩ = some (.slice (some ⟨g, 0, none⟩) (off + bs.length) cap) ∧ w'.cell? ⟨b, 1, none⟩ = some (.int .i64 off)) (refine ⟨?_, ?_⟩ <;> first | assumption | (exact e0 _) | (exact e1 _)) (first | fail)
  all_goals go_wp2
  go_ret2
  refine ⟨rfl, ?_⟩
  rw [show List.take o cur.toList ++ List.take k bs ++ List.drop (o + k) cur.toList = List.take o cur.toList ++ (List.take k bs ++ List.drop (o + k) cur.toList) from List.append_assoc _ _ _]
  exact read_end hs1 hbk1 hg1 hd1 hgb hdb hdg hnc hcm hcs HT.out hk2 _

end Go.Proofs.YtnpiheoglilcbaaGreatDoor

/-! A bytes.Buffer at its end, and a byte that is read of it. -/
namespace Go.Proofs.YtnpiheoglilcbaaGreatDoor
open Go.RowKit Go.Deep
set_option linter.unusedVariables false
set_option linter.unusedSimpArgs false

theorem reset_row {b g off l cap : Nat} {lr : Int} {row : Array Value} {S T : List Nat} {w W : World} (hs : Step S T w W) (hb : b ∈ S) (hbk : W.heap[b]? = some (.cells #[.slice (some ⟨g, 0, none⟩) l cap, .int .i64 off, .int .i8 lr] 95 (0, 0)))
    (hgb : g ≠ b) (hg : W.heap[g]? = some (.cells row 5 (0, 0))) (hcm : cap ≤ maxLen) (hcs : row.size = cap) :
    Buf b g 0 [] (((W.setCell ⟨b, 0, none⟩ (.slice (some ⟨g, 0, none⟩) 0 cap)).setCell ⟨b, 1, none⟩ (.int .i64 0)).setCell ⟨b, 2, none⟩ (.int .i8 0)) ∧
      Step S T w (((W.setCell ⟨b, 0, none⟩ (.slice (some ⟨g, 0, none⟩) 0 cap)).setCell ⟨b, 1, none⟩ (.int .i64 0)).setCell ⟨b, 2, none⟩ (.int .i8 0)) := by
  refine ⟨⟨0, .inr ⟨cap, row, ?_, hgb, heap_set_other (heap_set_other (heap_set_other hg hgb _) hgb _) hgb _, by simp, hcm, hcs, by simp⟩⟩, ?_⟩
  · rw [heap_set_same (heap_set_same (heap_set_same hbk _) _)]; simp
  · exact ((hs.setCell (p := ⟨b, 0, none⟩) (.inl hb) _).setCell (p := ⟨b, 1, none⟩) (.inl hb) _).setCell (p := ⟨b, 2, none⟩) (.inl hb) _

theorem reset_nil {b : Nat} {lr : Int} {S T : List Nat} {w W : World} (hs : Step S T w W) (hb : b ∈ S) (hbk : W.heap[b]? = some (.cells #[.slice none 0 0, .int .i64 0, .int .i8 lr] 95 (0, 0))) :
    Buf b b 0 [] (((W.setCell ⟨b, 0, none⟩ (.slice none 0 0)).setCell ⟨b, 1, none⟩ (.int .i64 0)).setCell ⟨b, 2, none⟩ (.int .i8 0)) ∧
      Step S T w (((W.setCell ⟨b, 0, none⟩ (.slice none 0 0)).setCell ⟨b, 1, none⟩ (.int .i64 0)).setCell ⟨b, 2, none⟩ (.int .i8 0)) := by
  refine ⟨⟨0, .inl ⟨?_, rfl, rfl, rfl⟩⟩, ?_⟩
  · rw [heap_set_same (heap_set_same (heap_set_same hbk _) _)]; simp
  · exact ((hs.setCell (p := ⟨b, 0, none⟩) (.inl hb) _).setCell (p := ⟨b, 1, none⟩) (.inl hb) _).setCell (p := ⟨b, 2, none⟩) (.inl hb) _

set_option maxHeartbeats 1000000 in
set_option maxRecDepth 100000 in
/-- Reset, of a buffer in which nothing is left. -/
theorem buf_reset (b g off : Nat) (w : World) (h : Buf b g off [] w) :
    Calls Tryz.prog 68 #[.pointer (some ⟨b, 0, none⟩)] w fun e w' => e = .returned (.tuple #[]) ∧ Buf b g 0 [] w' ∧ Step [b] [b] w w' := by
  obtain ⟨lr, ⟨hbk, rfl, rfl, -⟩ | ⟨cap, row, hbk, hgb, hg, hnc, hcm, hcs, htk⟩⟩ := h
  · have c0 : w.cell? ⟨g, 0, none⟩ = some (.slice none 0 0) := by rw [cell_heap hbk]; rfl
    have c1 : w.cell? ⟨g, 1, none⟩ = some (.int .i64 0) := by rw [cell_heap hbk]; rfl
    have c2 : w.cell? ⟨g, 2, none⟩ = some (.int .i8 lr) := by rw [cell_heap hbk]; rfl
    have f0 : w.frozen? ⟨g, 0, none⟩ = false := frozen_heap hbk 0
    have f1 : w.frozen? ⟨g, 1, none⟩ = false := frozen_heap hbk 1
    have f2 : w.frozen? ⟨g, 2, none⟩ = false := frozen_heap hbk 2
    go_enter Tryz.func68, Tryz.ntmps68
    go_wp2
    go_end0
    exact ⟨rfl, reset_nil (Step.refl _ _) (by simp) hbk⟩
  · have c0 : w.cell? ⟨b, 0, none⟩ = some (.slice (some ⟨g, 0, none⟩) off cap) := by rw [cell_heap hbk]; rfl
    have c1 : w.cell? ⟨b, 1, none⟩ = some (.int .i64 off) := by rw [cell_heap hbk]; rfl
    have c2 : w.cell? ⟨b, 2, none⟩ = some (.int .i8 lr) := by rw [cell_heap hbk]; rfl
    have f0 : w.frozen? ⟨b, 0, none⟩ = false := frozen_heap hbk 0
    have f1 : w.frozen? ⟨b, 1, none⟩ = false := frozen_heap hbk 1
    have f2 : w.frozen? ⟨b, 2, none⟩ = false := frozen_heap hbk 2
    go_enter Tryz.func68, Tryz.ntmps68
    go_wp2
    go_end0
    exact ⟨rfl, reset_row (Step.refl _ _) (by simp) hbk hgb hg hcm hcs⟩

/-- What is told of the struct of a buffer in which nothing is left. -/
theorem Buf.ends {b g off : Nat} {w : World} (h : Buf b g off [] w) : ∃ ao l cap, w.cell? ⟨b, 0, none⟩ = some (.slice ao l cap) ∧ w.cell? ⟨b, 1, none⟩ = some (.int .i64 off) ∧ l = off := by
  obtain ⟨lr, ⟨hbk, rfl, rfl, -⟩ | ⟨cap, row, hbk, hgb, hg, hnc, hcm, hcs, htk⟩⟩ := h
  · exact ⟨none, 0, 0, by rw [cell_heap hbk]; rfl, by rw [cell_heap hbk]; rfl, rfl⟩
  · exact ⟨_, off, cap, by rw [cell_heap hbk]; rfl, by rw [cell_heap hbk]; rfl, rfl⟩

set_option maxHeartbeats 1000000 in
set_option maxRecDepth 100000 in
/-- Read, at the end. -/
theorem buf_read_end (b g off n c : Nat) (ao : Option Addr) (ev : Value) (w : World) (h : Buf b g off [] w) (hn1 : 1 ≤ n) (hev : w.cell? ⟨0, 0, none⟩ = some ev) (hb0 : b ≠ 0) :
    Calls Tryz.prog 285 #[.pointer (some ⟨b, 0, none⟩), .slice ao n c] w fun e w' => e = .returned (.tuple #[.int .i64 0, ev]) ∧ Buf b g 0 [] w' ∧ Step [b] [b] w w' := by
  obtain ⟨lr, c2, f2⟩ := h.cell2
  have h0 := h.last 0
  have hs0 : Step [b] [b] w (w.setCell ⟨b, 2, none⟩ (.int .i8 0)) := (Step.refl _ _).setCell (p := ⟨b, 2, none⟩) (.inl (by simp)) _
  obtain ⟨ao1, l, cap, d0, d1, hl⟩ := h0.ends
  have hlt : 0 < w.heap.size := by
    rcases Nat.lt_or_ge 0 w.heap.size with h' | h'
    · exact h'
    · simp [World.cell?, Array.getElem?_eq_none h'] at hev
  have hz : ((n : Int) == 0) = false := by simp; omega
  go_enter Tryz.func285, Tryz.ntmps285
  go_wp2_with (go_at_call 92; refine (buf_empty_yes b l off cap ao1 _ d0 d1 (by omega)).mono ?_)
  rintro e W1 ⟨rfl, q, hW1⟩
  have h1 : Buf b g off [] W1 := by rw [hW1]; exact h0.drewN q
  have hs1 : Step [b] [b] w W1 := by rw [hW1]; exact hs0.drewN q
  clear hW1 d0 d1 c2 f2 h0 hs0
  go_wp2_with (go_at_call 68; refine (buf_reset b g off _ h1).mono ?_)
  rintro e W2 ⟨rfl, h2, hs2⟩
  have hs3 := hs1.trans hs2
  have hev2 : W2.cell? ⟨0, 0, none⟩ = some ev := by rw [hs3.cell (p := ⟨0, 0, none⟩) hlt (by simpa using Ne.symm hb0)]; exact hev
  go_wp2
  go_quiet (fail)
  go_wp2
  go_ret2
  exact ⟨rfl, h2.drewN _, hs3.drewN _⟩

set_option maxHeartbeats 1000000 in
set_option maxRecDepth 100000 in
/-- ReadByte, at the end. -/
theorem buf_readByte_end (b g off : Nat) (ev : Value) (w : World) (h : Buf b g off [] w) (hev : w.cell? ⟨0, 0, none⟩ = some ev) (hb0 : b ≠ 0) :
    Calls Tryz.prog 87 #[.pointer (some ⟨b, 0, none⟩)] w fun e w' => e = .returned (.tuple #[.int .u8 0, ev]) ∧ Buf b g 0 [] w' ∧ Step [b] [b] w w' := by
  obtain ⟨ao1, l, cap, d0, d1, hl⟩ := h.ends
  have hlt : 0 < w.heap.size := by
    rcases Nat.lt_or_ge 0 w.heap.size with h' | h'
    · exact h'
    · simp [World.cell?, Array.getElem?_eq_none h'] at hev
  go_enter Tryz.func87, Tryz.ntmps87
  go_wp2_with (go_at_call 92; refine (buf_empty_yes b l off cap ao1 _ d0 d1 (by omega)).mono ?_)
  rintro e W1 ⟨rfl, q, hW1⟩
  have h1 : Buf b g off [] W1 := by rw [hW1]; exact h.drewN q
  have hs1 : Step [b] [b] w W1 := by rw [hW1]; exact (Step.refl _ _).drewN q
  clear hW1 d0 d1
  go_wp2_with (go_at_call 68; refine (buf_reset b g off _ h1).mono ?_)
  rintro e W2 ⟨rfl, h2, hs2⟩
  have hs3 := hs1.trans hs2
  have hev2 : W2.cell? ⟨0, 0, none⟩ = some ev := by rw [hs3.cell (p := ⟨0, 0, none⟩) hlt (by simpa using Ne.symm hb0)]; exact hev
  go_wp2
  go_quiet (fail)
  go_wp2
  go_ret2
  exact ⟨rfl, h2.drewN _, hs3.drewN _⟩

set_option maxHeartbeats 1000000 in
set_option maxRecDepth 100000 in
/-- ReadByte, of a byte that is there. -/
theorem buf_readByte (b g off : Nat) (x : Value) (bs : List Value) (w : World) (h : Buf b g off (x :: bs) w) :
    Calls Tryz.prog 87 #[.pointer (some ⟨b, 0, none⟩)] w fun e w' => e = .returned (.tuple #[x, .nilIface]) ∧ Buf b g (off + 1) bs w' ∧ Step [b] [b] w w' := by
  obtain ⟨lr, ⟨hbk, -, -, hx⟩ | ⟨cap, row, hbk, hgb, hg, hnc, hcm, hcs, htk⟩⟩ := h
  · cases hx
  simp only [List.length_cons] at hbk hnc htk
  have hx : row[off]? = some x := by
    have e := congrArg (fun l => l[0]?) htk
    simp only [List.getElem?_drop, List.getElem?_take, Nat.add_zero, List.getElem?_cons_zero] at e
    rw [if_pos (by omega)] at e
    simpa using e
  have hcm' := hcm
  unfold maxLen at hcm'
  have d0 : w.cell? ⟨b, 0, none⟩ = some (.slice (some ⟨g, 0, none⟩) (off + (bs.length + 1)) cap) := by rw [cell_heap hbk]; rfl
  have d1 : w.cell? ⟨b, 1, none⟩ = some (.int .i64 off) := by rw [cell_heap hbk]; rfl
  go_enter Tryz.func87, Tryz.ntmps87
  go_wp2_with (go_at_call 92; refine (buf_empty_no b (off + (bs.length + 1)) off cap _ _ d0 d1 (by omega)).mono ?_)
  rintro e W1 ⟨rfl, q, hW1⟩
  have hbk1 : W1.heap[b]? = some (.cells #[.slice (some ⟨g, 0, none⟩) (off + (bs.length + 1)) cap, .int .i64 off, .int .i8 lr] 95 (0, 0)) := by rw [hW1]; exact hbk
  have hg1 : W1.heap[g]? = some (.cells row 5 (0, 0)) := by rw [hW1]; exact hg
  have hs1 : Step [b] [b] w W1 := by rw [hW1]; exact (Step.refl _ _).drewN q
  clear hW1 d0 d1
  have d0 : W1.cell? ⟨b, 0, none⟩ = some (.slice (some ⟨g, 0, none⟩) (off + (bs.length + 1)) cap) := by rw [cell_heap hbk1]; rfl
  have d1 : W1.cell? ⟨b, 1, none⟩ = some (.int .i64 off) := by rw [cell_heap hbk1]; rfl
  have d2 : W1.cell? ⟨b, 2, none⟩ = some (.int .i8 lr) := by rw [cell_heap hbk1]; rfl
  have f1 : W1.frozen? ⟨b, 1, none⟩ = false := frozen_heap hbk1 1
  have f2 : W1.frozen? ⟨b, 2, none⟩ = false := frozen_heap hbk1 2
  have dg : W1.cell? ⟨g, off, none⟩ = some x := by rw [cell_heap hg1]; exact hx
  have hle1 : (0 : Int) ≤ (off : Int) := by omega
  have hle2 : (off : Int) < ((off + (bs.length + 1) : Nat) : Int) := by omega
  have hle3 : (off : Int) < (off : Int) + ((bs.length : Int) + 1) := by omega
  have HT := Lib.hid htk
  clear htk hbk hg hx
  go_wp2
  go_quiet (fail)
  go_wp2
  go_ret2
  refine ⟨rfl, ?_, ?_⟩
  · refine ⟨-1, .inr ⟨cap, row, ?_, hgb, heap_set_other (heap_set_other hg1 hgb _) hgb _, by omega, hcm, hcs, ?_⟩⟩
    · refine (heap_set_same (heap_set_same hbk1 _) _).trans ?_
      have e : off + 1 + bs.length = off + (bs.length + 1) := by omega
      simp [e]
    · have e := congrArg (List.drop 1) HT.out
      rw [List.drop_drop] at e
      rw [show off + 1 + bs.length = off + (bs.length + 1) from by omega]
      simpa using e
  · exact ((hs1.drewN _).setCell (p := ⟨b, 1, none⟩) (.inl (by simp)) _).setCell (p := ⟨b, 2, none⟩) (.inl (by simp)) _

end Go.Proofs.YtnpiheoglilcbaaGreatDoor

/-! Which functions the methods of a memory buffer are: those of the bytes.Buffer in it. -/
namespace Go.Proofs.YtnpiheoglilcbaaGreatDoor
open Go.RowKit Go.Deep
set_option linter.unusedVariables false
set_option linter.unusedSimpArgs false

/-- Block m is a memory buffer. -/
def Mem (m b g off : Nat) (bs : List Value) (w : World) : Prop :=
  (∃ sz, w.heap[m]? = some (.cells #[.pointer (some ⟨b, 0, none⟩), .int .i64 sz] 65 (0, 0))) ∧ m ≠ b ∧ m ≠ g ∧ Buf b g off bs w

theorem Mem.cell {m b g off : Nat} {bs : List Value} {w : World} (h : Mem m b g off bs w) : w.cell? ⟨m, 0, none⟩ = some (.pointer (some ⟨b, 0, none⟩)) := by
  obtain ⟨⟨sz, hm⟩, _⟩ := h
  rw [cell_heap hm]; rfl

theorem Mem.lt {m b g off : Nat} {bs : List Value} {w : World} (h : Mem m b g off bs w) : m < w.heap.size := lt_heap h.1.choose_spec

theorem Mem.carry {m b g off : Nat} {bs : List Value} {w w1 : World} (h : Mem m b g off bs w) (hm : w1.heap[m]? = w.heap[m]?) (hb : w1.heap[b]? = w.heap[b]?) (hg : w1.heap[g]? = w.heap[g]?) : Mem m b g off bs w1 := by
  obtain ⟨⟨sz, h0⟩, h1, h2, h3⟩ := h
  exact ⟨⟨sz, hm.trans h0⟩, h1, h2, h3.carry hb hg⟩

theorem Mem.step {m b g off : Nat} {bs : List Value} {S T : List Nat} {w w1 : World} (h : Mem m b g off bs w) (hs : Step S T w w1) (hm : m ∉ S) (hb : b ∉ S) (hg : g ∉ S) : Mem m b g off bs w1 :=
  h.carry (hs.block m h.lt hm) (hs.block b h.2.2.2.lt.1 hb) (hs.block g h.2.2.2.lt.2 hg)

theorem Mem.alloc {m b g off : Nat} {bs : List Value} {w : World} (h : Mem m b g off bs w) (o : Obj) : Mem m b g off bs (w.alloc o) :=
  h.carry (Below.heap_alloc _ _ _ h.lt) (Below.heap_alloc _ _ _ h.2.2.2.lt.1) (Below.heap_alloc _ _ _ h.2.2.2.lt.2)

theorem Mem.drewN {m b g off : Nat} {bs : List Value} {w : World} (h : Mem m b g off bs w) (n : Nat) : Mem m b g off bs (w.drewN n) := h

/-- The buffer of a memory buffer has turned: written, read. -/
theorem Mem.turn {m b g g1 off off1 : Nat} {bs bs1 : List Value} {w w1 : World} (h : Mem m b g off bs w) (hB : Buf b g1 off1 bs1 w1) (hs : Step [b, g] [b, g1] w w1) : Mem m b g1 off1 bs1 w1 := by
  have hlt := h.lt
  have ho := own_mem hs
  obtain ⟨⟨sz, h0⟩, h1, h2, _⟩ := h
  refine ⟨⟨sz, (hs.block m hlt (by simp [h1, h2])).trans h0⟩, h1, ?_, hB⟩
  simp only [List.mem_cons, List.not_mem_nil, or_false] at ho
  omega

theorem Mem.took {m b g off off1 : Nat} {bs bs1 : List Value} {S T : List Nat} {w w1 : World} (h : Mem m b g off bs w) (hB : Buf b g off1 bs1 w1) (hs : Step S T w w1) (hm : m ∉ S) : Mem m b g off1 bs1 w1 := by
  have hlt := h.lt
  obtain ⟨⟨sz, h0⟩, h1, h2, _⟩ := h
  exact ⟨⟨sz, (hs.block m hlt hm).trans h0⟩, h1, h2, hB⟩

theorem mem_Write (k m b : Nat) (w : World) (h : w.cell? ⟨m, 0, none⟩ = some (.pointer (some ⟨b, 0, none⟩))) :
    (method (k + 1) 54 (.pointer (some ⟨m, 0, none⟩)) "Write").run Tryz.prog w = .ok (55, .pointer (some ⟨b, 0, none⟩)) w := by
  have e : (method (k + 1) 54 (.pointer (some ⟨m, 0, none⟩)) "Write").run Tryz.prog w = (match w.cell? ⟨m, 0, none⟩ with
    | some v => .ok (55, v) w
    | none => match w.farLoad Tryz.prog ⟨m, 0, none⟩ false with
      | .ok (v, _) => .ok (55, v) w
      | .error h => .halt h w) := by kernel_rfl
  rw [e, h]

theorem mem_WriteByte (k m b : Nat) (w : World) (h : w.cell? ⟨m, 0, none⟩ = some (.pointer (some ⟨b, 0, none⟩))) :
    (method (k + 1) 54 (.pointer (some ⟨m, 0, none⟩)) "WriteByte").run Tryz.prog w = .ok (90, .pointer (some ⟨b, 0, none⟩)) w := by
  have e : (method (k + 1) 54 (.pointer (some ⟨m, 0, none⟩)) "WriteByte").run Tryz.prog w = (match w.cell? ⟨m, 0, none⟩ with
    | some v => .ok (90, v) w
    | none => match w.farLoad Tryz.prog ⟨m, 0, none⟩ false with
      | .ok (v, _) => .ok (90, v) w
      | .error h => .halt h w) := by kernel_rfl
  rw [e, h]

theorem mem_WriteString (k m b : Nat) (w : World) (h : w.cell? ⟨m, 0, none⟩ = some (.pointer (some ⟨b, 0, none⟩))) :
    (method (k + 1) 54 (.pointer (some ⟨m, 0, none⟩)) "WriteString").run Tryz.prog w = .ok (91, .pointer (some ⟨b, 0, none⟩)) w := by
  have e : (method (k + 1) 54 (.pointer (some ⟨m, 0, none⟩)) "WriteString").run Tryz.prog w = (match w.cell? ⟨m, 0, none⟩ with
    | some v => .ok (91, v) w
    | none => match w.farLoad Tryz.prog ⟨m, 0, none⟩ false with
      | .ok (v, _) => .ok (91, v) w
      | .error h => .halt h w) := by kernel_rfl
  rw [e, h]

theorem mem_Read (k m b : Nat) (w : World) (h : w.cell? ⟨m, 0, none⟩ = some (.pointer (some ⟨b, 0, none⟩))) :
    (method (k + 1) 54 (.pointer (some ⟨m, 0, none⟩)) "Read").run Tryz.prog w = .ok (285, .pointer (some ⟨b, 0, none⟩)) w := by
  have e : (method (k + 1) 54 (.pointer (some ⟨m, 0, none⟩)) "Read").run Tryz.prog w = (match w.cell? ⟨m, 0, none⟩ with
    | some v => .ok (285, v) w
    | none => match w.farLoad Tryz.prog ⟨m, 0, none⟩ false with
      | .ok (v, _) => .ok (285, v) w
      | .error h => .halt h w) := by kernel_rfl
  rw [e, h]

theorem mem_ReadByte (k m b : Nat) (w : World) (h : w.cell? ⟨m, 0, none⟩ = some (.pointer (some ⟨b, 0, none⟩))) :
    (method (k + 1) 54 (.pointer (some ⟨m, 0, none⟩)) "ReadByte").run Tryz.prog w = .ok (87, .pointer (some ⟨b, 0, none⟩)) w := by
  have e : (method (k + 1) 54 (.pointer (some ⟨m, 0, none⟩)) "ReadByte").run Tryz.prog w = (match w.cell? ⟨m, 0, none⟩ with
    | some v => .ok (87, v) w
    | none => match w.farLoad Tryz.prog ⟨m, 0, none⟩ false with
      | .ok (v, _) => .ok (87, v) w
      | .error h => .halt h w) := by kernel_rfl
  rw [e, h]

theorem mem_RemainingBytes (k m : Nat) (w : World) : (method (k + 1) 54 (.pointer (some ⟨m, 0, none⟩)) "RemainingBytes").run Tryz.prog w = .ok (286, .pointer (some ⟨m, 0, none⟩)) w := by kernel_rfl

theorem mem_Flush (k m : Nat) (w : World) : (method (k + 1) 54 (.pointer (some ⟨m, 0, none⟩)) "Flush").run Tryz.prog w = .ok (86, .pointer (some ⟨m, 0, none⟩)) w := by kernel_rfl

theorem mem_nil_Write (k m : Nat) (w : World) : (nilAhead (k + 1) 54 (.pointer (some ⟨m, 0, none⟩)) "Write").run Tryz.prog w = .ok (some false) w := by kernel_rfl

theorem mem_nil_WriteByte (k m : Nat) (w : World) : (nilAhead (k + 1) 54 (.pointer (some ⟨m, 0, none⟩)) "WriteByte").run Tryz.prog w = .ok (some false) w := by kernel_rfl

theorem mem_nil_WriteString (k m : Nat) (w : World) : (nilAhead (k + 1) 54 (.pointer (some ⟨m, 0, none⟩)) "WriteString").run Tryz.prog w = .ok (some false) w := by kernel_rfl

theorem mem_nil_Read (k m : Nat) (w : World) : (nilAhead (k + 1) 54 (.pointer (some ⟨m, 0, none⟩)) "Read").run Tryz.prog w = .ok (some false) w := by kernel_rfl

theorem mem_nil_ReadByte (k m : Nat) (w : World) : (nilAhead (k + 1) 54 (.pointer (some ⟨m, 0, none⟩)) "ReadByte").run Tryz.prog w = .ok (some false) w := by kernel_rfl

theorem mem_nil_RemainingBytes (k m : Nat) (w : World) : (nilAhead (k + 1) 54 (.pointer (some ⟨m, 0, none⟩)) "RemainingBytes").run Tryz.prog w = .ok (some false) w := by kernel_rfl

theorem mem_nil_Flush (k m : Nat) (w : World) : (nilAhead (k + 1) 54 (.pointer (some ⟨m, 0, none⟩)) "Flush").run Tryz.prog w = .ok (some false) w := by kernel_rfl

end Go.Proofs.YtnpiheoglilcbaaGreatDoor

/-! The binary protocol over a memory buffer: a byte, and a number of four bytes, are written. -/
namespace Go.Proofs.YtnpiheoglilcbaaGreatDoor
open Go.RowKit Go.Deep
set_option linter.unusedVariables false
set_option linter.unusedSimpArgs false

/-- Block p is a binary protocol. -/
def Bin (p : Nat) (tr og cf : Value) (sc : List Value) (w : World) : Prop :=
  w.heap[p]? = some (.cells (tr :: og :: cf :: sc).toArray 145 (0, 0)) ∧ sc.length = 64 ∧ ∀ v ∈ sc, v.oneCell' = true

/-- The interface value of a memory buffer. -/
abbrev memV (m : Nat) : Value := .iface 54 (.pointer (some ⟨m, 0, none⟩))

set_option maxRecDepth 100000 in
set_option maxHeartbeats 1000000 in
theorem bin_writeByte (p m b g : Nat) (og cf : Value) (sc bs : List Value) (cx : Value) (x : Int) (w : World) (hp : Bin p (memV m) og cf sc w) (h : Mem m b g 0 bs w) (h1 : ∀ v ∈ bs, v.oneCell' = true) (hlim : bs.length + 1 ≤ 140737488355328) :
    Calls Tryz.prog 209 #[.pointer (some ⟨p, 0, none⟩), cx, .int .i8 x] w fun e w' => e = .returned .nilIface ∧ ∃ g1, Mem m b g1 0 (bs ++ [.int .u8 (x % 256)]) w' ∧ Step [b, g] [b, g1] w w' := by
  have c0 : w.cell? ⟨p, 0, none⟩ = some (memV m) := by rw [cell_heap hp.1]; rfl
  have cm := h.cell
  have hmeth := mem_WriteByte
  clear hp
  go_enter Tryz.func209, Tryz.ntmps209
  go_wp2_with (go_at_call 90; refine (buf_writeByte b g bs _ _ h.2.2.2 h1 hlim).mono ?_)
  rintro e W1 ⟨rfl, g1, hB, hs⟩
  go_wp2
  go_ret
  exact ⟨rfl, g1, h.turn hB hs, hs⟩

theorem Bin.cells {p : Nat} {tr og cf : Value} {sc : List Value} {w : World} (h : Bin p tr og cf sc w) (i : Nat) : w.cell? ⟨p, i, none⟩ = (tr :: og :: cf :: sc)[i]? := by
  rw [cell_heap h.1]; simp

theorem Bin.cell {p : Nat} {tr og cf : Value} {sc : List Value} {w : World} (h : Bin p tr og cf sc w) (i : Nat) (hi : i < 64) : ∃ v, w.cell? ⟨p, 3 + i, none⟩ = some v ∧ w.frozen? ⟨p, 3 + i, none⟩ = false := by
  refine ⟨sc[i]'(by rw [h.2.1]; exact hi), ?_, frozen_heap h.1 _⟩
  rw [h.cells, Nat.add_comm]
  simp only [List.getElem?_cons_succ]
  rw [List.getElem?_eq_getElem]

theorem Bin.lt {p : Nat} {tr og cf : Value} {sc : List Value} {w : World} (h : Bin p tr og cf sc w) : p < w.heap.size := lt_heap h.1

theorem Bin.step {p : Nat} {tr og cf : Value} {sc : List Value} {S T : List Nat} {w w1 : World} (h : Bin p tr og cf sc w) (hs : Step S T w w1) (hp : p ∉ S) : Bin p tr og cf sc w1 :=
  ⟨(hs.block p h.lt hp).trans h.1, h.2⟩

theorem Bin.alloc {p : Nat} {tr og cf : Value} {sc : List Value} {w : World} (h : Bin p tr og cf sc w) (o : Obj) : Bin p tr og cf sc (w.alloc o) := ⟨heap_alloc_old h.1 o, h.2⟩
theorem Bin.drewN {p : Nat} {tr og cf : Value} {sc : List Value} {w : World} (h : Bin p tr og cf sc w) (n : Nat) : Bin p tr og cf sc (w.drewN n) := h

/-- Cells of its scratch are set. -/
theorem Bin.set {p : Nat} {tr og cf : Value} {sc : List Value} {w : World} (h : Bin p tr og cf sc w) (vs : List Value) (hv : vs.length ≤ 64) (h1 : ∀ v ∈ vs, v.oneCell' = true) :
    ∃ sc1, Bin p tr og cf sc1 (w.setCells p 3 vs) ∧ sc1.take vs.length = vs := by
  obtain ⟨cs1, e1, e2, e3⟩ := heap_setCells h.1 3 vs
  have hl := h.2.1
  have e4 := e3 (by simp [hl]; omega)
  refine ⟨vs ++ sc.drop vs.length, ⟨?_, by simp [hl]; omega, fun v hv => ?_⟩, by simp⟩
  · rw [e1]
    congr 2
    apply Array.toList_inj.1
    rw [e4]
    simp [Nat.add_comm 3]
  · rcases List.mem_append.1 hv with hv | hv
    · exact h1 v hv
    · exact h.2.2 v (List.mem_of_mem_drop hv)

end Go.Proofs.YtnpiheoglilcbaaGreatDoor

/-! The binary protocol over a memory buffer: numbers of two, four and eight bytes are written. -/
namespace Go.Proofs.YtnpiheoglilcbaaGreatDoor
open Go.RowKit Go.Deep
set_option linter.unusedVariables false
set_option linter.unusedSimpArgs false

set_option maxRecDepth 100000 in
set_option maxHeartbeats 1000000 in
theorem bin_writeI32 (p m b g : Nat) (og cf : Value) (sc bs : List Value) (cx : Value) (x : Int) (w : World) (hp : Bin p (memV m) og cf sc w) (h : Mem m b g 0 bs w) (hpm : p ≠ m) (hpb : p ≠ b) (hpg : p ≠ g) (h1 : ∀ v ∈ bs, v.oneCell' = true) (hlim : bs.length + 4 ≤ 140737488355328) :
    Calls Tryz.prog 215 #[.pointer (some ⟨p, 0, none⟩), cx, .int .i32 x] w fun e w' => e = .returned .nilIface ∧
      ∃ g1 sc1, Bin p (memV m) og cf sc1 w' ∧ Mem m b g1 0 (bs ++ Lib.byteCells (Lib.beBytes 4 (x % 4294967296).toNat)) w' ∧ Step [p, b, g] [p, b, g1] w w' := by
  have c0 : w.cell? ⟨p, 0, none⟩ = some (memV m) := by rw [hp.cells]; rfl
  have cm := h.cell
  have hmeth := mem_Write
  obtain ⟨v, hv⟩ : ∃ v : Nat, x % 4294967296 = v := ⟨(x % 4294967296).toNat, by omega⟩
  have hv32 : v < 4294967296 := by omega
  have hvt : (x % 4294967296).toNat = v := by omega
  rw [hvt]
  obtain ⟨x0, d0, f0⟩ := hp.cell 0 (by omega)
  obtain ⟨x1, d1, f1⟩ := hp.cell 1 (by omega)
  obtain ⟨x2, d2, f2⟩ := hp.cell 2 (by omega)
  obtain ⟨x3, d3, f3⟩ := hp.cell 3 (by omega)
  simp only [Nat.reduceAdd] at d0 f0 d1 f1 d2 f2 d3 f3
  go_enter Tryz.func215, Tryz.ntmps215
  go_wp2_with (go_at_call 236; refine (Tryz.binary_BE_PutUint32 p 3 4 64 v hv32 x0 x1 x2 x3 _ (Nat.le_refl _) d0 d1 d2 d3 f0 f1 f2 f3).mono ?_)
  rintro e W1 ⟨rfl, hW1⟩
  have hbl : (Lib.byteCells (Lib.beBytes 4 v)).length = 4 := by simp [Lib.byteCells_length, Lib.beBytes_length]
  obtain ⟨sc1, hp1, hsc⟩ := (hp.alloc (.cells #[] 297)).set (Lib.byteCells (Lib.beBytes 4 v)) (by omega) (Lib.byteCells_one _)
  rw [← hW1] at hp1
  have hs1 : Step [p, b, g] [p, b, g] w W1 := by rw [hW1]; exact ((Step.refl _ _).alloc _).setCells (.inl (by simp)) _ _
  have h2 : Mem m b g 0 bs W1 := by
    rw [hW1]
    have ha := h.alloc (.cells #[] 297)
    exact ha.carry (heap_setCells_other (Ne.symm hpm) _ _) (heap_setCells_other (Ne.symm hpb) _ _) (heap_setCells_other (Ne.symm hpg) _ _)
  clear hW1
  have c0' : W1.cell? ⟨p, 0, none⟩ = some (memV m) := by rw [hp1.cells]; rfl
  have cm' := h2.cell
  have hsrc : ∀ j v', (Lib.byteCells (Lib.beBytes 4 v))[j]? = some v' → W1.cell? ((⟨p, 3, none⟩ : Addr).add j) = some v' := fun j v' hj => by
    rw [Lib.addr_add, hp1.cells, Nat.add_comm]
    simp only [List.getElem?_cons_succ]
    rw [← hsc, List.getElem?_take] at hj
    split at hj
    · exact hj
    · cases hj
  have HS := Lib.hid hsrc
  have HL := Lib.hid hbl
  have HC := Lib.hid hsc
  clear hsrc hbl hsc c0 cm d0 d1 d2 d3 f0 f1 f2 f3 hv hvt
  go_wp2_with (go_at_call 55; refine (buf_write b g 4 64 bs _ ⟨p, 3, none⟩ _ h2.2.2.2 h1 HL.out hpb hpg hp1.lt HS.out (Lib.byteCells_one _) (by omega) hlim).mono ?_)
  rintro e W2 ⟨rfl, g1, hB, hs⟩
  go_wp2
  go_ret
  refine ⟨rfl, g1, sc1, hp1.step hs (by simp [hpb, hpg]), h2.turn hB hs, hs1.trans (hs.more (by simp) ?_)⟩
  intro k hk
  simp only [List.mem_cons, List.not_mem_nil, or_false] at hk ⊢
  omega

end Go.Proofs.YtnpiheoglilcbaaGreatDoor

/-! A row is filled by reading of a memory buffer: io.ReadFull. -/
namespace Go.Proofs.YtnpiheoglilcbaaGreatDoor
open Go.RowKit Go.Deep
set_option linter.unusedVariables false
set_option linter.unusedSimpArgs false

set_option maxRecDepth 100000 in
set_option maxHeartbeats 1000000 in
/-- As many bytes as are asked for are there. -/
theorem readFull_whole (m b g off d o n c : Nat) (bs : List Value) (cur : Array Value) (td : TypeId) (w : World) (h : Mem m b g off bs w) (hn1 : 1 ≤ n) (hn : n ≤ bs.length) (h1 : ∀ v ∈ bs, v.oneCell' = true)
    (hd : w.heap[d]? = some (.cells cur td (0, 0))) (hdm : d ≠ m) (hdb : d ≠ b) (hdg : d ≠ g) (hfit : o + n ≤ cur.size) (hnm : n ≤ maxLen) (hnc : n ≤ c) (hcm : c ≤ maxLen) :
    Calls Tryz.prog 154 #[memV m, .slice (some ⟨d, o, none⟩) n c] w fun e w' => e = .returned (.tuple #[.int .i64 n, .nilIface]) ∧
      Mem m b g (off + n) (bs.drop n) w' ∧ w'.heap[d]? = some (.cells (cur.toList.take o ++ bs.take n ++ cur.toList.drop (o + n)).toArray td (0, 0)) ∧ Step [b, d] [b, d] w w' := by
  have cm := h.cell
  have hmeth := mem_Read
  have hnil := mem_nil_Read
  have hk : min n bs.length = n := Nat.min_eq_left hn
  have hnm' := hnm
  have hcm' := hcm
  unfold maxLen at hnm' hcm'
  have HK := Lib.hid hk
  clear hk
  have hz : decide ((0 : Int) < (n : Int)) = true := by simp; omega
  have hlt : ((n : Int) < (n : Int)) = False := by simp
  go_enter Tryz.func154, Tryz.ntmps154
  go_wp2_with (first | (go_at_call 175; go_in))
  refine wp_loop_rounds 2 ?_
  rw [rounds_succ]
  go_wp2_with fail
  go_region_with ((go_at_call 285; refine (buf_read b g off d o n c bs cur td _ ?_ (by omega) h1 ?_ hdb hdg hfit hn1 hnm).mono ?_; exact h.2.2.2; exact hd; rintro e W1 ⟨rfl, hB, hdd, hs⟩; rw [HK.out] at hB hdd ⊢))
  go_wp2_with fail
  rw [rounds_succ]
  go_wp2_with fail
  go_ret2
  have hs1 : Step [b, d] [b, d] w W1 := ((Step.refl _ _).drew).trans hs
  exact ⟨rfl, h.took hB hs1 (by simp [h.2.1, Ne.symm hdm]), hdd, hs1⟩

end Go.Proofs.YtnpiheoglilcbaaGreatDoor

/-! The binary protocol over a memory buffer: its scratch is filled, and a number of four bytes is read, where they are there. -/
namespace Go.Proofs.YtnpiheoglilcbaaGreatDoor
open Go.RowKit Go.Deep
set_option linter.unusedVariables false
set_option linter.unusedSimpArgs false

/-- The context without anything. -/
abbrev ctxV : Value := .iface 172 (.agg #[])

theorem ctx_Deadline (k : Nat) (w : World) : (method (k + 1) 172 (.agg #[]) "Deadline").run Tryz.prog w = .ok (249, .agg #[]) w := by kernel_rfl
theorem ctx_nil_Deadline (k : Nat) (w : World) : (nilAhead (k + 1) 172 (.agg #[]) "Deadline").run Tryz.prog w = .ok (some false) w := by kernel_rfl

theorem deadline_any (w : World) : Calls Tryz.prog 249 #[.agg #[]] w fun e w' => e = .returned (.tuple #[.agg #[], .bool false]) ∧ Below w.heap.size w w' := by
  go_enter Tryz.func249, Tryz.ntmps249
  go_wp2
  exact bodyPost_ret (v := .tuple #[.agg #[], .bool false]) (by simp [results, Tryz.results249, go_sem]) rfl ⟨rfl, ((Below.refl _ _).alloc (Nat.le_refl _) _).alloc (by simp) _⟩

set_option maxRecDepth 100000 in
set_option maxHeartbeats 1000000 in
theorem readAll_whole (p m b g off o n c : Nat) (og cf : Value) (sc bs : List Value) (w : World) (hp : Bin p (memV m) og cf sc w) (h : Mem m b g off bs w) (hpm : p ≠ m) (hpb : p ≠ b) (hpg : p ≠ g) (hn1 : 1 ≤ n) (hn : n ≤ bs.length) (h1 : ∀ v ∈ bs, v.oneCell' = true)
    (hfit : o + n ≤ 67) (ho : 3 ≤ o) (hnc : n ≤ c) (hcm : c ≤ 64) :
    Calls Tryz.prog 229 #[.pointer (some ⟨p, 0, none⟩), ctxV, .slice (some ⟨p, o, none⟩) n c] w fun e w' => e = .returned .nilIface ∧
      Mem m b g (off + n) (bs.drop n) w' ∧ w'.heap[p]? = some (.cells ((memV m :: og :: cf :: sc).take o ++ bs.take n ++ (memV m :: og :: cf :: sc).drop (o + n)).toArray 145 (0, 0)) ∧ Step [b, p] [b, p] w w' := by
  have hsz : (memV m :: og :: cf :: sc).toArray.size = 67 := by simp [hp.2.1]
  have hR : ∀ W, Mem m b g off bs W → W.heap[p]? = some (.cells (memV m :: og :: cf :: sc).toArray 145 (0, 0)) → Calls Tryz.prog 154 #[memV m, .slice (some ⟨p, o, none⟩) n c] W _ := fun W hW hW2 =>
    readFull_whole m b g off p o n c bs _ _ W hW hn1 hn h1 hW2 hpm hpb hpg (by rw [hsz]; exact hfit) (by unfold maxLen; omega) hnc (by unfold maxLen; omega)
  have c0 : w.cell? ⟨p, 0, none⟩ = some (memV m) := by rw [hp.cells]; rfl
  have hmeth := ctx_Deadline
  have hnil := ctx_nil_Deadline
  have hp1 := hp.1
  clear hp
  go_enter Tryz.func229, Tryz.ntmps229
  go_wp2_with fail
  refine (deadline_any _).mono ?_
  rintro e W0 ⟨rfl, hb0⟩
  have hs0 : Step [b, p] [b, p] w W0 := Step.ofBelow hb0
  have h0 : Mem m b g off bs W0 := h.step (Step.ofBelow (S := []) hb0) (by simp) (by simp) (by simp)
  have hp0 := ((Step.ofBelow (S := []) hb0).block p (lt_heap hp1) (by simp)).trans hp1
  have c0' : ∀ x, (W0.alloc x).cell? ⟨p, 0, none⟩ = some (memV m) := fun x => by rw [cell_heap (heap_alloc_old hp0 x)]; simp
  have hs1 : ∀ x, Step [b, p] [b, p] w (W0.alloc x) := fun x => hs0.alloc x
  have h2 : ∀ x, Mem m b g off bs (W0.alloc x) := fun x => h0.alloc x
  have hp2 : ∀ x, (W0.alloc x).heap[p]? = some (.cells (memV m :: og :: cf :: sc).toArray 145 (0, 0)) := fun x => heap_alloc_old hp0 x
  have HP := Lib.hid hp2
  have HM := Lib.hid h2
  have HS := Lib.hid hs1
  clear hp1 c0 hp0 hp2 hs0 hb0 h0 h2 hs1
  go_wp2_with fail
  refine wp_loop_rounds 1 ?_
  rw [rounds_succ]
  go_wp2_with fail
  refine (hR _ (HM.out _) (HP.out _)).mono ?_
  rintro e W1 ⟨rfl, hM, hpp, hs⟩
  go_wp2_with (first | (go_at_call 149; go_in))
  go_ret
  exact ⟨rfl, hM, hpp, (HS.out _).trans hs⟩

end Go.Proofs.YtnpiheoglilcbaaGreatDoor

/-! The binary protocol over a memory buffer: a number of four bytes is read, where they are there. -/
namespace Go.Proofs.YtnpiheoglilcbaaGreatDoor
open Go.RowKit Go.Deep
set_option linter.unusedVariables false
set_option linter.unusedSimpArgs false

/-- The scratch behind a reading into its first bytes. -/
theorem Bin.filled {p n : Nat} {tr og cf : Value} {sc bs : List Value} {w w1 : World} (h : Bin p tr og cf sc w) (hn : n ≤ 64) (hb : n ≤ bs.length) (h1 : ∀ v ∈ bs, v.oneCell' = true)
    (hw : w1.heap[p]? = some (.cells ((tr :: og :: cf :: sc).take 3 ++ bs.take n ++ (tr :: og :: cf :: sc).drop (3 + n)).toArray 145 (0, 0))) : Bin p tr og cf (bs.take n ++ sc.drop n) w1 := by
  refine ⟨?_, ?_, fun v hv => ?_⟩
  · rw [hw]
    congr 3
    simp [Nat.add_comm 3]
  · have := h.2.1
    simp; omega
  · rcases List.mem_append.1 hv with hv | hv
    · exact h1 v (List.mem_of_mem_take hv)
    · exact h.2.2 v (List.mem_of_mem_drop hv)

set_option maxRecDepth 100000 in
set_option maxHeartbeats 1000000 in
theorem bin_readI32 (p m b g off : Nat) (og cf : Value) (sc : List Value) (b0 b1 b2 b3 : UInt8) (l : List UInt8) (w : World) (hp : Bin p (memV m) og cf sc w) (h : Mem m b g off (Lib.byteCells (b0 :: b1 :: b2 :: b3 :: l)) w) (hpm : p ≠ m) (hpb : p ≠ b) (hpg : p ≠ g) :
    Calls Tryz.prog 190 #[.pointer (some ⟨p, 0, none⟩), ctxV] w fun e w' => e = .returned (.tuple #[.int .i32 (wrap32 (Lib.beNat [b0, b1, b2, b3])), .nilIface]) ∧
      ∃ sc1, Bin p (memV m) og cf sc1 w' ∧ Mem m b g (off + 4) (Lib.byteCells l) w' ∧ Step [b, p] [b, p] w w' := by
  have hR := readAll_whole p m b g off 3 4 64 og cf sc (Lib.byteCells (b0 :: b1 :: b2 :: b3 :: l)) w hp h hpm hpb hpg (by omega) (by simp [Lib.byteCells_length]) (Lib.byteCells_one _) (by omega) (by omega) (by omega) (by omega)
  have HR := Lib.hid hR
  clear hR
  go_enter Tryz.func190, Tryz.ntmps190
  go_wp2_with fail
  refine HR.out.mono ?_
  rintro e W1 ⟨rfl, hM, hpp, hs⟩
  have hB := hp.filled (bs := Lib.byteCells (b0 :: b1 :: b2 :: b3 :: l)) (n := 4) (by omega) (by simp [Lib.byteCells_length]) (Lib.byteCells_one _) hpp
  have hM' : Mem m b g (off + 4) (Lib.byteCells l) W1 := hM
  have d0 : W1.cell? ⟨p, 3, none⟩ = some (.int .u8 b0.toNat) := by rw [hB.cells]; rfl
  have d1 : W1.cell? ⟨p, 4, none⟩ = some (.int .u8 b1.toNat) := by rw [hB.cells]; rfl
  have d2 : W1.cell? ⟨p, 5, none⟩ = some (.int .u8 b2.toNat) := by rw [hB.cells]; rfl
  have d3 : W1.cell? ⟨p, 6, none⟩ = some (.int .u8 b3.toNat) := by rw [hB.cells]; rfl
  have HB := Lib.hid hB
  clear HR hM hpp hB
  go_wp2_with fail
  refine (Tryz.binary_BE_Uint32 p 3 4 64 b0 b1 b2 b3 _ (Nat.le_refl _) d0 d1 d2 d3).mono ?_
  rintro e W2 ⟨rfl, hb⟩
  have hs2 : Step [b, p] [b, p] w W2 := hs.trans (Step.ofBelow hb)
  have hM2 : Mem m b g (off + 4) (Lib.byteCells l) W2 := hM'.step (Step.ofBelow (S := []) hb) (by simp) (by simp) (by simp)
  have hB2 := HB.out.step (Step.ofBelow (S := []) hb) (by simp)
  clear d0 d1 d2 d3
  go_wp2
  go_ret2
  exact ⟨rfl, _, hB2, hM2, hs2⟩

end Go.Proofs.YtnpiheoglilcbaaGreatDoor
