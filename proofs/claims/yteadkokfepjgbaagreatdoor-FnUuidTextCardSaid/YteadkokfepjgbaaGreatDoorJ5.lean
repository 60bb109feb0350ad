/- The text of an identifier as the specification writes it. -/
import Derived.Test.YteadkokfepjgbaaGreatDoorJ4
import Derived.Deep.AppendLies
namespace Go.Proofs.YteadkokfepjgbaaGreatDoor
open Go.RowKit Go.Deep
set_option linter.unusedVariables false
set_option linter.unusedSimpArgs false

/-- A dash stands ahead of the digits at these places. -/
def dashAt (n : Nat) : Bool := n == 8 || n == 13 || n == 18 || n == 23

/-- The text of the first k bytes. -/
def pre (u : List UInt8) : Nat → List UInt8
  | 0 => []
  | k + 1 => (if dashAt (pre u k).length then pre u k ++ [45] else pre u k) ++ [Lib.Hx.digit ((u.getD k 0).toNat / 16), Lib.Hx.digit ((u.getD k 0).toNat % 16)]

theorem pre_le (u : List UInt8) (k : Nat) : (pre u k).length ≤ 3 * k := by
  induction k with
  | zero => simp [pre]
  | succ k ih => unfold pre; split <;> simp <;> omega

set_option maxRecDepth 100000 in
theorem pre_all (u : List UInt8) (h : u.length = 16) : pre u 16 = uuidText u := by
  obtain ⟨b0, b1, b2, b3, b4, b5, b6, b7, b8, b9, b10, b11, b12, b13, b14, b15, rfl⟩ := list16 h
  kernel_rfl

theorem pre_plain (u : List UInt8) (k : Nat) (b : UInt8) (hb : u[k]? = some b) (h : dashAt (pre u k).length = false) : pre u (k + 1) = pre u k ++ [Lib.Hx.digit (b.toNat / 16), Lib.Hx.digit (b.toNat % 16)] := by
  have e : u.getD k 0 = b := by rw [List.getD_eq_getElem?_getD, hb]; rfl
  show (if dashAt (pre u k).length = true then pre u k ++ [45] else pre u k) ++ _ = _
  rw [h, e]
  rfl

theorem pre_dash (u : List UInt8) (k : Nat) (b : UInt8) (hb : u[k]? = some b) (h : dashAt (pre u k).length = true) : pre u (k + 1) = pre u k ++ [45] ++ [Lib.Hx.digit (b.toNat / 16), Lib.Hx.digit (b.toNat % 16)] := by
  have e : u.getD k 0 = b := by rw [List.getD_eq_getElem?_getD, hb]; rfl
  show (if dashAt (pre u k).length = true then pre u k ++ [45] else pre u k) ++ _ = _
  rw [h, e]
  rfl

/-- The two digits as the walk spells them. -/
theorem two_cells (b : UInt8) (h1 : ((b.toNat : Int) / 16).toNat < Lib.Hx.tab.size) (h2 : ((b.toNat : Int) % 16).toNat < Lib.Hx.tab.size) :
    ([.int .u8 ((Lib.Hx.tab[((b.toNat : Int) / 16).toNat]'h1).toNat : Nat), .int .u8 ((Lib.Hx.tab[((b.toNat : Int) % 16).toNat]'h2).toNat : Nat)] : List Value) = Lib.byteCells [Lib.Hx.digit (b.toNat / 16), Lib.Hx.digit (b.toNat % 16)] := by
  rw [dig_is _ h1, dig_is _ h2, show ((b.toNat : Int) / 16).toNat = b.toNat / 16 by omega, show ((b.toNat : Int) % 16).toNat = b.toNat % 16 by omega]
  rfl

set_option maxRecDepth 100000 in
theorem uuidText_spec (a : Option Addr) (len cap : Nat) (l : List UInt8) (w : World) (h : Holds w a len l) : Calls Tryz.prog 21 #[.slice a len cap] w fun e w' => ∃ v k, e = .returned v ∧ IsB (Lib.byteCells (uuidText (u16 l))) v k w' ∧ Below w.heap.size w w' := by
  have h1 := Lib.hid (uuid16_any a len cap l w h)
  go_enter Tryz.func21, Tryz.ntmps21
  go_wp2_with (fail)
  refine h1.out.mono ?_
  rintro e W1 ⟨rfl, hg, hB⟩
  obtain ⟨u, hu⟩ : ∃ u, u16 l = u := ⟨_, rfl⟩
  have HE := Lib.hid hu
  have HU := Lib.hid (show u.length = 16 by rw [← hu]; exact u16_length l)
  rw [hu] at hg
  clear hu
  obtain ⟨i0, hi, hz0, hz1, hz2⟩ := info_parts infoU8
  have HG := Lib.hid hg
  have HB := Lib.hid hB
  clear hg hB h h1
  go_wp2
  go_loopw [4, 5] (fun v i wr => ∃ k : Nat, k ≤ 16 ∧ i = .int .i64 k ∧ Hid (wr.ownsRow (w.heap.size + 1) 5 1 v (pre u k).length (Lib.byteCells (pre u k))) ∧ Hid (wr.heap[w.heap.size]? = some (.cells (Lib.byteCells u).toArray 5 (0, 0))) ∧ Hid (Below w.heap.size w wr)) (fun _ i _ => 16 - (intOf i).toNat)
  case atStart => exact ⟨0, by omega, rfl, World.ownsRow_nil _ _ _ _, HG.out, HB.out⟩
  case round =>
    obtain ⟨k, hk, rfl, ho, hgr, hbr⟩ := hrel
    have hpl := pre_le u k
    obtain ⟨ao, co, rfl⟩ : ∃ ao co, u4 = .slice ao (pre u k).length co := by
      rcases ho.out.2 with ⟨rfl, h0⟩ | ⟨g, cap, cur, rfl, _⟩
      · exact ⟨none, 0, by rw [h0]⟩
      · exact ⟨_, _, rfl⟩
    by_cases hlt : k < 16
    · obtain ⟨b, hb⟩ : ∃ b, u[k]? = some b := ⟨_, List.getElem?_eq_getElem (by rw [HU.out]; exact hlt)⟩
      have hcx : wr.cell? ⟨w.heap.size, k, none⟩ = some (.int .u8 (b.toNat : Nat)) := by rw [cell_heap hgr.out]; simp [Lib.byteCells, hb]
      have hbn : b.toNat < 256 := b.toNat_lt
      have hsz : w.heap.size < wr.heap.size := lt_heap hgr.out
      have HK := Lib.hid hb
      clear hb
      have m1 : b.toNat % 16 < 16 := by omega
      have m2 : b.toNat / 16 < 16 := by omega
      have m3 : (b.toNat : Int) % 16 < 16 := by omega
      have m4 : (0 : Int) ≤ (b.toNat : Int) % 16 := by omega
      have m5 : (b.toNat : Int) / 16 < 16 := by omega
      have m7 : b.toNat % 16 < (⟨#[48, 49, 50, 51, 52, 53, 54, 55, 56, 57, 97, 98, 99, 100, 101, 102]⟩ : ByteArray).size := by show _ < 16; omega
      have m8 : b.toNat / 16 < (⟨#[48, 49, 50, 51, 52, 53, 54, 55, 56, 57, 97, 98, 99, 100, 101, 102]⟩ : ByteArray).size := by show _ < 16; omega
      have m9 : ((b.toNat : Int) % 16).toNat < 16 := by omega
      have m10 : ((b.toNat % 16 : Nat) : Int) < 16 := by omega
      have m11 : bits .and .u8 (b.toNat : Int) 15 = (b.toNat : Int) % 16 := by
        have := bits_mask .u8 8 (by decide) wraps_u8 4 (by decide) (b.toNat : Int) (by omega) (by omega)
        simpa using this
      have m6 : (0 : Int) ≤ (b.toNat : Int) / 16 := by omega
      obtain ⟨n, hn⟩ : ∃ n, (pre u k).length = n := ⟨_, rfl⟩
      rw [hn] at hpl ho
      rw [hn]
      go_wp2_with (fail)
      refine (isDash_any _ _).mono ?_
      rintro e W2 ⟨rfl, rfl⟩
      by_cases hd : (n == 8 || n == 13 || n == 18 || n == 23) = true
      · have hd' : (((n : Int) == 8) || ((n : Int) == 13) || ((n : Int) == 18) || ((n : Int) == 23)) = true := by
          simp at hd ⊢; omega
        rw [hd']
        have hne0 : some w.heap.size ≠ (Value.slice ao n co).ownBlock := fun e => by have := (ho.out.lt _ e.symm).1; omega
        go_wp2_with (first
          | (at_builtin; refine wpList_append_lies _ rfl _ _ _ rfl (w.heap.size + 1) 5 i0 (.int .u8 0) 1 1 Tryz.underlying29 hi hz0 hz1 hz2 rfl (by omega) _ _ _ rfl (ho.out.alloc _) ⟨wr.heap.size, 0, none⟩ 1 1 _ rfl ?_ (World.news_of_block (heap_alloc_new _ _)) ?_ (by omega) ?_ ?_ ?_ _ rfl ?_; rfl; (intro x hx; simp at hx; subst hx; rfl); (unfold maxLen; omega); omega; (simp <;> omega); intro g1 cap1 W3 hown3 hgrow3 hat3 hlt3))
        have hg3 := Lib.hid ((hgrow3.block _ (by simp <;> omega) hne0).trans (heap_alloc_old hgr.out _))
        have hb3 := Lib.hid ((hbr.out.alloc hbr.out.size _).grown hgrow3 (by simp; omega) (fun q hq => by have := (ho.out.lt q hq).1; omega))
        have ho3 := Lib.hid (show W3.ownsRow (w.heap.size + 1) 5 1 (.slice (some ⟨g1, 0, none⟩) (n + 1) cap1) (n + 1) (Lib.byteCells (pre u k ++ [45])) by rw [Lib.byteCells_append]; exact hown3)
        have hc3 : W3.cell? ⟨w.heap.size, k, none⟩ = some (.int .u8 (b.toNat : Nat)) := by rw [cell_heap hg3.out]; have := HK.out; simp [Lib.byteCells, this]
        have hsz3 : w.heap.size < W3.heap.size := lt_heap hg3.out
        clear hown3 hgrow3 hcx
        have hne : some w.heap.size ≠ (Value.slice (some ⟨g1, 0, none⟩) (n + 1) cap1).ownBlock := fun e => by have := (ho3.out.lt _ e.symm).1; omega
        have HO := Lib.hid (fun o => show (W3.alloc o).drew.ownsRow (w.heap.size + 1) 5 1 (.slice (some ⟨g1, 0, none⟩) (n + 1) cap1) (n + 1) (Lib.byteCells (pre u k ++ [45])) from ho3.out.alloc o)
        have HN := Lib.hid (fun cs => World.news_of_block (show (W3.alloc (.cells cs 5)).drew.heap[W3.heap.size]? = some (.cells cs 5 (0, 0)) from heap_alloc_new W3 _))
        go_region_held3 (fun W' => W'.cell? ⟨w.heap.size, k, none⟩ = some (.int .u8 (b.toNat : Nat)))
          (first | assumption | (simp [go_sem, *]) | (exact (World.cell?_of_block (hgrow.block _ (by simp <;> omega) hne)).trans (by simp [go_sem, *])))
          (first
            | (refine step_append_lies _ (by rfl) _ _ _ (by rfl) (w.heap.size + 1) 5 i0 (.int .u8 0) 1 1 Tryz.underlying29 hi hz0 hz1 hz2 rfl (by omega) _ _ _ rfl (HO.out _) ⟨W3.heap.size, 0, none⟩ 2 2 _ rfl ?_ (HN.out _) ?_ (by omega) ?_ ?_ ?_ _ rfl ?_; rfl; (intro x hx; simp at hx; rcases hx with rfl | rfl <;> rfl); (unfold maxLen; omega); omega; (simp <;> omega); intro g cap W2 hown hgrow hat hlt))
        all_goals (
          have hown2 := Lib.hid hown
          have hgw := Lib.hid hgrow
          clear hown hgrow
          go_wp2
          have hpn : pre u (k + 1) = pre u k ++ [45] ++ [Lib.Hx.digit (b.toNat / 16), Lib.Hx.digit (b.toNat % 16)] := pre_dash u k b HK.out (by rw [hn]; exact hd)
          have hw2 : W2.heap[w.heap.size]? = some (.cells (Lib.byteCells u).toArray 5 (0, 0)) := (hgw.out.block _ (by simp <;> omega) hne).trans (heap_alloc_old hg3.out _)
          refine ⟨⟨k + 1, by omega, by simp, ?_, hw2, ((hb3.out.alloc hb3.out.size _).drew).grown hgw.out (by simp; omega) (fun q hq => by have := (ho3.out.lt q hq).1; omega)⟩, by simp [intOf]; omega⟩
          rw [hpn, Lib.byteCells_append, List.length_append, List.length_append, hn, ← two_cells b (by show _ < 16; omega) (by show _ < 16; omega)]
          exact hown2.out)
      · have hd' : (((n : Int) == 8) || ((n : Int) == 13) || ((n : Int) == 18) || ((n : Int) == 23)) = false := by
          simp at hd ⊢; omega
        rw [hd']
        go_wp2
        have hne : some w.heap.size ≠ (Value.slice ao n co).ownBlock := fun e => by have := (ho.out.lt _ e.symm).1; omega
        have HO := Lib.hid (fun o => show (wr.alloc o).drew.ownsRow (w.heap.size + 1) 5 1 (.slice ao n co) n (Lib.byteCells (pre u k)) from ho.out.alloc o)
        have HN := Lib.hid (fun cs => World.news_of_block (show (wr.alloc (.cells cs 5)).drew.heap[wr.heap.size]? = some (.cells cs 5 (0, 0)) from heap_alloc_new wr _))
        go_region_held3 (fun W' => W'.cell? ⟨w.heap.size, k, none⟩ = some (.int .u8 (b.toNat : Nat)))
          (first | assumption | (simp [go_sem, *]) | (exact (World.cell?_of_block (hgrow.block _ (by simp <;> omega) hne)).trans (by simp [go_sem, *])))
          (first
            | (refine step_append_lies _ (by rfl) _ _ _ (by rfl) (w.heap.size + 1) 5 i0 (.int .u8 0) 1 1 Tryz.underlying29 hi hz0 hz1 hz2 rfl (by omega) _ _ _ rfl (HO.out _) ⟨wr.heap.size, 0, none⟩ 2 2 _ rfl ?_ (HN.out _) ?_ (by omega) ?_ ?_ ?_ _ rfl ?_; rfl; (intro x hx; simp at hx; rcases hx with rfl | rfl <;> rfl); (unfold maxLen; omega); omega; (simp <;> omega); intro g cap W2 hown hgrow hat hlt))
        all_goals (
          have hown2 := Lib.hid hown
          have hgw := Lib.hid hgrow
          clear hown hgrow
          go_wp2
          have hpn : pre u (k + 1) = pre u k ++ [Lib.Hx.digit (b.toNat / 16), Lib.Hx.digit (b.toNat % 16)] := pre_plain u k b HK.out (by rw [hn]; simpa [dashAt] using hd)
          have hw2 : W2.heap[w.heap.size]? = some (.cells (Lib.byteCells u).toArray 5 (0, 0)) := (hgw.out.block _ (by simp <;> omega) hne).trans (heap_alloc_old hgr.out _)
          refine ⟨⟨k + 1, by omega, by simp, ?_, hw2, ((hbr.out.alloc hbr.out.size _).drew).grown hgw.out (by simp; omega) (fun q hq => by have := (ho.out.lt q hq).1; omega)⟩, by simp [intOf]; omega⟩
          rw [hpn, Lib.byteCells_append, List.length_append, hn, ← two_cells b (by show _ < 16; omega) (by show _ < 16; omega)]
          exact hown2.out)
    · have hk2 : k = 16 := by omega
      subst hk2
      go_wp2
      go_ret
      rw [pre_all u HU.out] at ho
      have he := HE.out
      rw [he]
      obtain ⟨hx, h⟩ := ho.out
      rcases h with ⟨hv, h0⟩ | ⟨g, cap1, cur, hv, hgb, hgh, hnc, hcm, hcs, htk⟩
      · rw [uuidText_length u HU.out] at h0
        cases h0
      · have hv2 : Value.slice ao (pre u 16).length co = .slice (some ⟨g, 0, none⟩) (uuidText u).length cap1 := by
          rw [pre_all u HU.out]
          exact hv
        refine ⟨.slice (some ⟨g, 0, none⟩) (uuidText u).length cap1, g, ret_of hv2, ⟨cap1, .inr ⟨0, by simp [Lib.byteCells_length], by simpa [Lib.byteCells_length] using hnc, hcm, lt_heap hgh, fun j x hj => ?_⟩⟩, hbr.out⟩
        rw [← htk, List.getElem?_take] at hj
        split at hj
        · rw [cell_heap hgh, Nat.zero_add]
          simpa using hj
        · cases hj

end Go.Proofs.YteadkokfepjgbaaGreatDoor
