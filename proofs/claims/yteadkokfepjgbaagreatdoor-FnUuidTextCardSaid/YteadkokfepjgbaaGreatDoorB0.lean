/- The words in which the contracts of this claim speak of memory: which blocks a call may turn (Step), and the plain lemmas on them. -/
import Derived.WalkKit
import Derived.Lib.Buffer
import Derived.Lib.Hide
import Derived.Deep.Quiet
namespace Go.Proofs.YteadkokfepjgbaaGreatDoor
open Go.RowKit
set_option linter.unusedVariables false
set_option linter.unusedSimpArgs false

/-- From w to w1 only the blocks of S, and new ones, have turned; what is owned behind it (T) was owned ahead of it or is new. -/
structure Step (S T : List Nat) (w w1 : World) : Prop where
  os : w1.os = w.os
  tape : w1.tape = w.tape
  output : w1.output = w.output
  size : w.heap.size ≤ w1.heap.size
  block : ∀ k, k < w.heap.size → k ∉ S → w1.heap[k]? = w.heap[k]?
  own : ∀ k, k ∈ T → k ∈ S ∨ w.heap.size ≤ k

theorem Step.refl (S : List Nat) (w : World) : Step S S w w := ⟨rfl, rfl, rfl, Nat.le_refl _, fun _ _ _ => rfl, fun _ h => .inl h⟩

theorem Step.trans {S T U : List Nat} {a b c : World} (h : Step S T a b) (k : Step T U b c) : Step S U a c := by
  refine ⟨k.os.trans h.os, k.tape.trans h.tape, k.output.trans h.output, Nat.le_trans h.size k.size, fun i hi hn => ?_, fun i hi => ?_⟩
  · have hs := h.size
    rw [k.block i (by omega) (fun ht => by rcases h.own i ht with hh | hh; exact hn hh; omega), h.block i hi hn]
  · have hs := h.size
    rcases k.own i hi with hh | hh
    · exact h.own i hh
    · exact .inr (by omega)

theorem Step.drew {S T : List Nat} {a b : World} (h : Step S T a b) : Step S T a b.drew := ⟨h.os, h.tape, h.output, h.size, h.block, h.own⟩
theorem Step.drewN {S T : List Nat} {a b : World} (h : Step S T a b) (n : Nat) : Step S T a (b.drewN n) := ⟨h.os, h.tape, h.output, h.size, h.block, h.own⟩

theorem Step.undrew {S T : List Nat} {a b : World} (h : Step S T a.drew b) : Step S T a b := ⟨h.os, h.tape, h.output, h.size, h.block, h.own⟩

theorem Step.alloc {S T : List Nat} {a b : World} (h : Step S T a b) (o : Obj) : Step S T a (b.alloc o) := by
  refine ⟨h.os, h.tape, h.output, by have := h.size; simp; omega, fun k hk hn => ?_, h.own⟩
  rw [Below.heap_alloc _ _ _ (by have := h.size; omega), h.block k hk hn]

theorem Step.setCell {S T : List Nat} {a b : World} (h : Step S T a b) {p : Addr} (hp : p.block ∈ S ∨ a.heap.size ≤ p.block) (v : Value) : Step S T a (b.setCell p v) := by
  refine ⟨h.os, h.tape, h.output, by have := h.size; simpa [World.setCell] using this, fun k hk hn => ?_, h.own⟩
  rw [Below.heap_setCell _ _ _ _ (fun e => by subst e; rcases hp with hp | hp; exact hn hp; omega), h.block k hk hn]

theorem Step.setCells {S T : List Nat} {a b : World} (h : Step S T a b) {g : Nat} (hp : g ∈ S ∨ a.heap.size ≤ g) (o : Nat) (vs : List Value) : Step S T a (b.setCells g o vs) := by
  induction vs generalizing b o with
  | nil => exact h
  | cons v vs ih => exact ih (h.setCell (p := ⟨g, o, none⟩) hp v) (o + 1)

/-- What has turned lies among more. -/
theorem Step.more {S T S1 T1 : List Nat} {a b : World} (h : Step S T a b) (hS : ∀ k, k ∈ S → k ∈ S1) (hT : ∀ k, k ∈ T1 → k ∈ T ∨ k ∈ S1 ∨ a.heap.size ≤ k) : Step S1 T1 a b :=
  ⟨h.os, h.tape, h.output, h.size, fun k hk hn => h.block k hk (fun e => hn (hS k e)), fun k hk => by
    rcases hT k hk with hh | hh
    · rcases h.own k hh with h1 | h1
      · exact .inl (hS k h1)
      · exact .inr h1
    · exact hh⟩

theorem Step.ofBelow {S : List Nat} {a b : World} (h : Below a.heap.size a b) : Step S S a b :=
  ⟨h.os, h.tape, h.output, h.size, fun k hk _ => h.block k hk, fun _ hk => .inl hk⟩

theorem Step.below {S T : List Nat} {a b : World} (h : Step S T a b) (B : Nat) (hB : B ≤ a.heap.size) (hS : ∀ k, k ∈ S → B ≤ k) : Below B a b :=
  ⟨h.os, h.tape, h.output, h.size, fun k hk => h.block k (by omega) (fun e => by have := hS k e; omega)⟩

theorem Step.cell {S T : List Nat} {a b : World} (h : Step S T a b) {p : Addr} (hp : p.block < a.heap.size) (hn : p.block ∉ S) : b.cell? p = a.cell? p :=
  World.cell?_of_block (w := a) (h.block p.block hp hn)

theorem Step.frozen {S T : List Nat} {a b : World} (h : Step S T a b) {p : Addr} (hp : p.block < a.heap.size) (hn : p.block ∉ S) : b.frozen? p = a.frozen? p :=
  World.frozen?_of_block (w := a) (h.block p.block hp hn)

theorem lt_heap {w : World} {k : Nat} {o : Obj} (h : w.heap[k]? = some o) : k < w.heap.size := Lib.lt_of_heap h

theorem heap_alloc_new (w : World) (o : Obj) : (w.alloc o).heap[w.heap.size]? = some o := by
  show (w.heap.push o)[w.heap.size]? = _
  simp

theorem heap_alloc_at {w : World} {k : Nat} (h : k = w.heap.size) (o : Obj) : (w.alloc o).heap[k]? = some o := by subst h; exact heap_alloc_new w o

theorem heap_alloc_old {w : World} {k : Nat} {x : Obj} (h : w.heap[k]? = some x) (o : Obj) : (w.alloc o).heap[k]? = some x := by
  rw [Below.heap_alloc _ _ _ (lt_heap h)]; exact h

theorem heap_set_other {w : World} {k : Nat} {x : Obj} (h : w.heap[k]? = some x) {p : Addr} (hp : k ≠ p.block) (v : Value) : (w.setCell p v).heap[k]? = some x := by
  rw [Below.heap_setCell _ _ _ _ hp]; exact h

theorem heap_set_same {w : World} {b o : Nat} {cs : Array Value} {e : TypeId} {fz : Nat × Nat} (h : w.heap[b]? = some (.cells cs e fz)) (v : Value) :
    (w.setCell ⟨b, o, none⟩ v).heap[b]? = some (.cells (cs.setIfInBounds o v) e fz) := by
  simp [World.setCell, Array.getElem?_modify, h]

theorem cell_heap {w : World} {b : Nat} {cs : Array Value} {e : TypeId} {fz : Nat × Nat} (h : w.heap[b]? = some (.cells cs e fz)) (o : Nat) : w.cell? ⟨b, o, none⟩ = cs[o]? := by
  simp [World.cell?, h]

theorem frozen_heap {w : World} {b : Nat} {cs : Array Value} {e : TypeId} (h : w.heap[b]? = some (.cells cs e (0, 0))) (o : Nat) : w.frozen? ⟨b, o, none⟩ = false := by
  simp [World.frozen?, h]

/-- The cells of a row from some place on, all set. -/
theorem heap_setCells {w : World} {g : Nat} {cs : Array Value} {e : TypeId} {fz : Nat × Nat} (h : w.heap[g]? = some (.cells cs e fz)) (o : Nat) (vs : List Value) :
    ∃ cs1 : Array Value, (w.setCells g o vs).heap[g]? = some (.cells cs1 e fz) ∧ cs1.size = cs.size ∧ (o + vs.length ≤ cs.size → cs1.toList = cs.toList.take o ++ vs ++ cs.toList.drop (o + vs.length)) := by
  induction vs generalizing w cs o with
  | nil => exact ⟨cs, h, rfl, fun _ => by simp⟩
  | cons v vs ih =>
    obtain ⟨cs1, h1, h2, h3⟩ := ih (heap_set_same (o := o) h v) (o + 1)
    refine ⟨cs1, h1, by simpa using h2, fun hle => ?_⟩
    simp only [List.length_cons] at hle
    have hsz : (cs.setIfInBounds o v).size = cs.size := by simp
    rw [h3 (by omega)]
    have hlt : o < cs.toList.length := by simp; omega
    have e1 : List.take (o + 1) (cs.setIfInBounds o v).toList = cs.toList.take o ++ [v] := by
      simp only [Array.toList_setIfInBounds]
      rw [List.take_succ_eq_append_getElem (by simpa using hlt), List.take_set_of_le (Nat.le_refl _)]
      simp
    have e2 : List.drop (o + 1 + vs.length) (cs.setIfInBounds o v).toList = cs.toList.drop (o + (vs.length + 1)) := by
      simp only [Array.toList_setIfInBounds]
      rw [List.drop_set_of_lt (by omega)]
      congr 1
      omega
    rw [e1, e2]
    simp

theorem heap_setCells_other {w : World} {g k : Nat} (h : k ≠ g) (o : Nat) (vs : List Value) : (w.setCells g o vs).heap[k]? = w.heap[k]? := by
  induction vs generalizing w o with
  | nil => rfl
  | cons v vs ih =>
    show ((w.setCell ⟨g, o, none⟩ v).setCells g (o + 1) vs).heap[k]? = _
    rw [ih, Below.heap_setCell _ _ _ _ h]

theorem size_setCells {w : World} {g : Nat} (o : Nat) (vs : List Value) : (w.setCells g o vs).heap.size = w.heap.size := by
  induction vs generalizing w o with
  | nil => rfl
  | cons v vs ih =>
    show ((w.setCell ⟨g, o, none⟩ v).setCells g (o + 1) vs).heap.size = _
    rw [ih]; simp [World.setCell]

theorem ret_of {v v1 : Value} (h : v = v1) : Ending.returned v = Ending.returned v1 := by rw [h]

end Go.Proofs.YteadkokfepjgbaaGreatDoor
