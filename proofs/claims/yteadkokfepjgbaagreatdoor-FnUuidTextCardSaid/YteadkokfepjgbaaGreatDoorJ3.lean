/- The text of an identifier as the implementation writes it. -/
import Derived.Test.YteadkokfepjgbaaGreatDoorJ2
namespace Go.Proofs.YteadkokfepjgbaaGreatDoor
open Go.RowKit Go.Deep
set_option linter.unusedVariables false
set_option linter.unusedSimpArgs false

/-- What the thirty-six cells hold: a row f with one cell set. -/
def put1 (f : Nat → Value) (o : Nat) (v : Value) : Nat → Value := fun j => if j = o then v else f j

theorem rowIs_put {w : World} {b : Nat} {t : TypeId} {n : Nat} {f : Nat → Value} (h : w.rowIs b t n f) (o : Nat) (v : Value) : (w.setCell ⟨b, o, none⟩ v).rowIs b t n (put1 f o v) := (h.set o v).congr (fun j _ => rfl)

/-- The source's cells: sixteen bytes in a block. -/
def Src (w : World) (b : Nat) (u : List UInt8) : Prop := ∀ i c, u[i]? = some c → w.cell? ⟨b, i, none⟩ = some (.int .u8 (c.toNat : Nat))

theorem Src.part {w : World} {b : Nat} {u : List UInt8} (h : Src w b u) (o n : Nat) : ∀ i c, ((u.drop o).take n)[i]? = some c → w.cell? ⟨b, o + i, none⟩ = some (.int .u8 (c.toNat : Nat)) := fun i c hi => by
  rw [List.getElem?_take] at hi
  split at hi
  · rw [List.getElem?_drop] at hi; exact h _ _ hi
  · cases hi

theorem Src.grown {w w1 : World} {b k : Nat} {u : List UInt8} (h : Src w b u) (hg : w.grownBy w1 (some k)) (hne : b ≠ k) : Src w1 b u := fun i c hi => hg.cell (h i c hi) (by simpa using hne)

/-- Where the walk stands: the text's row holds f, the bytes are as they were, below all is as it was. -/
structure Txt (w0 W : World) (f : Nat → Value) (u : List UInt8) : Prop where
  row : W.rowIs (w0.heap.size + 1) 121 36 f
  src : Src W w0.heap.size u
  below : Below w0.heap.size w0 W

theorem Txt.dash {w0 W : World} {f : Nat → Value} {u : List UInt8} (h : Txt w0 W f u) (o : Nat) (v : Value) : Txt w0 (W.setCell ⟨w0.heap.size + 1, o, none⟩ v) (put1 f o v) u :=
  ⟨rowIs_put h.row o v, h.src.grown (grown_set (grown_refl W (some (w0.heap.size + 1))) o v) (by omega), h.below.setCell (by simp) v⟩

theorem Txt.enc {w0 W W1 : World} {f f1 : Nat → Value} {u : List UInt8} (h : Txt w0 W f u) (hr : W1.rowIs (w0.heap.size + 1) 121 36 f1) (hg : W.drew.grownBy W1 (some (w0.heap.size + 1))) : Txt w0 W1 f1 u :=
  ⟨hr, (show Src W.drew w0.heap.size u from h.src).grown hg (by omega), h.below.drew.grown hg h.below.size (fun k hk => by cases hk; omega)⟩

/-- The row behind the five pieces and the four dashes. -/
def textRow (u : List UInt8) : Nat → Value :=
  (Lib.Hx.row (put1 (Lib.Hx.row (put1 (Lib.Hx.row (put1 (Lib.Hx.row (put1 (Lib.Hx.row (fun _ => .int .u8 0) 0 ((u.drop 0).take 4) 4) 8 (.int .u8 45)) 9 ((u.drop 4).take 2) 2) 13 (.int .u8 45)) 14 ((u.drop 6).take 2) 2) 18 (.int .u8 45)) 19 ((u.drop 8).take 2) 2) 23 (.int .u8 45)) 24 ((u.drop 10).take 6) 6)

theorem list16 {α : Type} {l : List α} (h : l.length = 16) : ∃ b0 b1 b2 b3 b4 b5 b6 b7 b8 b9 b10 b11 b12 b13 b14 b15, l = [b0, b1, b2, b3, b4, b5, b6, b7, b8, b9, b10, b11, b12, b13, b14, b15] := by
  match l, h with
  | [b0, b1, b2, b3, b4, b5, b6, b7, b8, b9, b10, b11, b12, b13, b14, b15], _ => exact ⟨b0, b1, b2, b3, b4, b5, b6, b7, b8, b9, b10, b11, b12, b13, b14, b15, rfl⟩

/-- The text of an identifier: thirty-two digits and four dashes. -/
def uuidText (u : List UInt8) : List UInt8 := Lib.Hx.encode ((u.drop 0).take 4) ++ [45] ++ Lib.Hx.encode ((u.drop 4).take 2) ++ [45] ++ Lib.Hx.encode ((u.drop 6).take 2) ++ [45] ++ Lib.Hx.encode ((u.drop 8).take 2) ++ [45] ++ Lib.Hx.encode ((u.drop 10).take 6)

theorem uuidText_length (u : List UInt8) (h : u.length = 16) : (uuidText u).length = 36 := by
  simp [uuidText, Lib.Hx.encode_length, h]

set_option maxRecDepth 100000 in
theorem text_at (u : List UInt8) (h : u.length = 16) : ∀ i, i < 36 → textRow u i = .int .u8 (((uuidText u).map fun b => (b.toNat : Int)).getD i 0) := by
  obtain ⟨b0, b1, b2, b3, b4, b5, b6, b7, b8, b9, b10, b11, b12, b13, b14, b15, rfl⟩ := list16 h
  intro i hi
  rcases (show i = 0 ∨ i = 1 ∨ i = 2 ∨ i = 3 ∨ i = 4 ∨ i = 5 ∨ i = 6 ∨ i = 7 ∨ i = 8 ∨ i = 9 ∨ i = 10 ∨ i = 11 ∨ i = 12 ∨ i = 13 ∨ i = 14 ∨ i = 15 ∨ i = 16 ∨ i = 17 ∨ i = 18 ∨ i = 19 ∨ i = 20 ∨ i = 21 ∨ i = 22 ∨ i = 23 ∨ i = 24 ∨ i = 25 ∨ i = 26 ∨ i = 27 ∨ i = 28 ∨ i = 29 ∨ i = 30 ∨ i = 31 ∨ i = 32 ∨ i = 33 ∨ i = 34 ∨ i = 35 by omega) with rfl | rfl | rfl | rfl | rfl | rfl | rfl | rfl | rfl | rfl | rfl | rfl | rfl | rfl | rfl | rfl | rfl | rfl | rfl | rfl | rfl | rfl | rfl | rfl | rfl | rfl | rfl | rfl | rfl | rfl | rfl | rfl | rfl | rfl | rfl | rfl <;> kernel_rfl

theorem text_str (l : List UInt8) : strOfNums (l.map fun b => (b.toNat : Int)) = ⟨l.toArray⟩ := by
  unfold strOfNums
  congr 2
  rw [List.map_map]
  refine (List.map_congr_left fun b _ => ?_).trans (List.map_id l)
  simp

set_option maxRecDepth 100000 in
set_option maxHeartbeats 1000000 in
theorem ustring_any (u : List UInt8) (hu : u.length = 16) (w : World) : Calls Tryz.prog 41 #[.agg (Lib.byteCells u).toArray] w fun e w' => e = .returned (.string ⟨(uuidText u).toArray⟩) ∧ Below w.heap.size w w' := by
  have hE := Lib.hid hex_enc
  have h0 : Txt w ((w.alloc (.cells (Lib.byteCells u).toArray 66)).alloc (.cells #[.int .u8 0, .int .u8 0, .int .u8 0, .int .u8 0, .int .u8 0, .int .u8 0, .int .u8 0, .int .u8 0, .int .u8 0, .int .u8 0, .int .u8 0, .int .u8 0, .int .u8 0, .int .u8 0, .int .u8 0, .int .u8 0, .int .u8 0, .int .u8 0, .int .u8 0, .int .u8 0, .int .u8 0, .int .u8 0, .int .u8 0, .int .u8 0, .int .u8 0, .int .u8 0, .int .u8 0, .int .u8 0, .int .u8 0, .int .u8 0, .int .u8 0, .int .u8 0, .int .u8 0, .int .u8 0, .int .u8 0, .int .u8 0] 121)) (fun _ => .int .u8 0) u := by
    refine ⟨⟨_, heap_alloc_at (by simp) _, rfl, fun i hi => ?_⟩, fun i c hi => ?_, ((Below.refl w.heap.size w).alloc (Nat.le_refl _) _).alloc (by simp) _⟩
    · show ((List.replicate 36 (Value.int .u8 0)).toArray)[i]? = _
      rw [List.getElem?_toArray]
      exact List.getElem?_replicate_of_lt hi
    · rw [cell_heap (heap_alloc_old (heap_alloc_new w _) _)]
      simp [Lib.byteCells, hi]
  go_enter Tryz.func41, Tryz.ntmps41
  go_wp2
  generalize ((w.alloc (.cells (Lib.byteCells u).toArray 66)).alloc (.cells #[.int .u8 0, .int .u8 0, .int .u8 0, .int .u8 0, .int .u8 0, .int .u8 0, .int .u8 0, .int .u8 0, .int .u8 0, .int .u8 0, .int .u8 0, .int .u8 0, .int .u8 0, .int .u8 0, .int .u8 0, .int .u8 0, .int .u8 0, .int .u8 0, .int .u8 0, .int .u8 0, .int .u8 0, .int .u8 0, .int .u8 0, .int .u8 0, .int .u8 0, .int .u8 0, .int .u8 0, .int .u8 0, .int .u8 0, .int .u8 0, .int .u8 0, .int .u8 0, .int .u8 0, .int .u8 0, .int .u8 0, .int .u8 0] 121)) = W0 at *
  have H0 := Lib.hid h0
  clear h0
  go_region_held3 (fun _ => True) (trivial)
    (first
      | (go_at_call 75; refine (hE.out (w.heap.size + 1) 0 36 36 36 121 (fun _ => .int .u8 0) w.heap.size 0 4 16 ((u.drop 0).take 4) _ ?_ ?_ ?_ (by omega) (by omega) (by omega) (by omega)).mono ?_; simp [hu]; exact H0.out.src.part 0 4; exact H0.out.row; rintro e W1 ⟨rfl, hr, hg⟩; have H1 := Lib.hid (H0.out.enc hr hg); clear hr hg))
  have d0 := H1.out.row.cell (i := 8) (by omega)
  have z0 := H1.out.row.frozen 8
  go_wp2_with (fail)
  have g1 := H1.out.dash 8 (.int .u8 45)
  generalize W1.setCell ⟨w.heap.size + 1, 8, none⟩ (.int .u8 45) = W2 at *
  have H2 := Lib.hid g1
  clear d0 z0 g1
  go_region_held3 (fun _ => True) (trivial)
    (first
      | (go_at_call 75; refine (hE.out (w.heap.size + 1) 9 27 27 36 121 (put1 (Lib.Hx.row (fun _ => .int .u8 0) 0 ((u.drop 0).take 4) 4) 8 (.int .u8 45)) w.heap.size 4 2 12 ((u.drop 4).take 2) _ ?_ ?_ ?_ (by omega) (by omega) (by omega) (by omega)).mono ?_; simp [hu]; exact H2.out.src.part 4 2; exact H2.out.row; rintro e W3 ⟨rfl, hr, hg⟩; have H3 := Lib.hid (H2.out.enc hr hg); clear hr hg))
  have d1 := H3.out.row.cell (i := 13) (by omega)
  have z1 := H3.out.row.frozen 13
  go_wp2_with (fail)
  have g3 := H3.out.dash 13 (.int .u8 45)
  generalize W3.setCell ⟨w.heap.size + 1, 13, none⟩ (.int .u8 45) = W4 at *
  have H4 := Lib.hid g3
  clear d1 z1 g3
  go_region_held3 (fun _ => True) (trivial)
    (first
      | (go_at_call 75; refine (hE.out (w.heap.size + 1) 14 22 22 36 121 (put1 (Lib.Hx.row (put1 (Lib.Hx.row (fun _ => .int .u8 0) 0 ((u.drop 0).take 4) 4) 8 (.int .u8 45)) 9 ((u.drop 4).take 2) 2) 13 (.int .u8 45)) w.heap.size 6 2 10 ((u.drop 6).take 2) _ ?_ ?_ ?_ (by omega) (by omega) (by omega) (by omega)).mono ?_; simp [hu]; exact H4.out.src.part 6 2; exact H4.out.row; rintro e W5 ⟨rfl, hr, hg⟩; have H5 := Lib.hid (H4.out.enc hr hg); clear hr hg))
  have d2 := H5.out.row.cell (i := 18) (by omega)
  have z2 := H5.out.row.frozen 18
  go_wp2_with (fail)
  have g5 := H5.out.dash 18 (.int .u8 45)
  generalize W5.setCell ⟨w.heap.size + 1, 18, none⟩ (.int .u8 45) = W6 at *
  have H6 := Lib.hid g5
  clear d2 z2 g5
  go_region_held3 (fun _ => True) (trivial)
    (first
      | (go_at_call 75; refine (hE.out (w.heap.size + 1) 19 17 17 36 121 (put1 (Lib.Hx.row (put1 (Lib.Hx.row (put1 (Lib.Hx.row (fun _ => .int .u8 0) 0 ((u.drop 0).take 4) 4) 8 (.int .u8 45)) 9 ((u.drop 4).take 2) 2) 13 (.int .u8 45)) 14 ((u.drop 6).take 2) 2) 18 (.int .u8 45)) w.heap.size 8 2 8 ((u.drop 8).take 2) _ ?_ ?_ ?_ (by omega) (by omega) (by omega) (by omega)).mono ?_; simp [hu]; exact H6.out.src.part 8 2; exact H6.out.row; rintro e W7 ⟨rfl, hr, hg⟩; have H7 := Lib.hid (H6.out.enc hr hg); clear hr hg))
  have d3 := H7.out.row.cell (i := 23) (by omega)
  have z3 := H7.out.row.frozen 23
  go_wp2_with (fail)
  have g7 := H7.out.dash 23 (.int .u8 45)
  generalize W7.setCell ⟨w.heap.size + 1, 23, none⟩ (.int .u8 45) = W8 at *
  have H8 := Lib.hid g7
  clear d3 z3 g7
  go_region_held3 (fun _ => True) (trivial)
    (first
      | (go_at_call 75; refine (hE.out (w.heap.size + 1) 24 12 12 36 121 (put1 (Lib.Hx.row (put1 (Lib.Hx.row (put1 (Lib.Hx.row (put1 (Lib.Hx.row (fun _ => .int .u8 0) 0 ((u.drop 0).take 4) 4) 8 (.int .u8 45)) 9 ((u.drop 4).take 2) 2) 13 (.int .u8 45)) 14 ((u.drop 6).take 2) 2) 18 (.int .u8 45)) 19 ((u.drop 8).take 2) 2) 23 (.int .u8 45)) w.heap.size 10 6 6 ((u.drop 10).take 6) _ ?_ ?_ ?_ (by omega) (by omega) (by omega) (by omega)).mono ?_; simp [hu]; exact H8.out.src.part 10 6; exact H8.out.row; rintro e W9 ⟨rfl, hr, hg⟩; have H9 := Lib.hid (H8.out.enc hr hg); clear hr hg))
  have hcv := run_convert_bytes_arg (P := Tryz.prog) W9 29 5 Tryz.underlying29 Tryz.underlying5 (w.heap.size + 1) 0 36 36 ((uuidText u).map fun b => (b.toNat : Int)) (by rw [List.length_map, uuidText_length u hu]) (fun i hi => by rw [Nat.zero_add, H9.out.row.cell hi]; exact congrArg some (text_at u hu i hi)) 9 Tryz.underlying9
  rw [text_str] at hcv
  go_wp2
  go_ret
  exact ⟨rfl, H9.out.below⟩

end Go.Proofs.YteadkokfepjgbaaGreatDoor
