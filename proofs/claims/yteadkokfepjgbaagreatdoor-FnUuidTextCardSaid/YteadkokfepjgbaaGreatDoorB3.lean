/- Bytes are written into a bytes.Buffer: a slice of them, a byte, a text: it holds them behind what it held. -/
import Derived.Test.YteadkokfepjgbaaGreatDoorB2
import Derived.Lib.BufferWrite
import Derived.Lib.BufferSrc
import Derived.Laws.IdiomCopy
import Derived.Laws.CopyRow
namespace Go.Proofs.YteadkokfepjgbaaGreatDoor
open Go.RowKit Go.Deep
set_option linter.unusedVariables false
set_option linter.unusedSimpArgs false

/-- There is room for n more behind the l cells bs. -/
def Ready (b g g1 l n : Nat) (bs : List Value) (w w1 : World) : Prop :=
  ∃ lr cap cur, w1.heap[b]? = some (.cells #[.slice (some ⟨g1, 0, none⟩) (l + n) cap, .int .i64 0, .int .i8 lr] 151 (0, 0)) ∧ g1 ≠ b ∧ w1.heap[g1]? = some (.cells cur 5 (0, 0)) ∧
    l + n ≤ cap ∧ cap ≤ maxLen ∧ cur.size = cap ∧ cur.toList.take l = bs ∧ Step [b, g] [b, g1] w w1

def NoRoom (b n : Nat) (w : World) : Prop := ∃ ao l cap, w.cell? ⟨b, 0, none⟩ = some (.slice ao l cap) ∧ cap - l < n

theorem try_any (b g n : Nat) (bs : List Value) (w : World) (h : Buf b g 0 bs w) (hn : 1 ≤ n) :
    Calls Tryz.prog 93 #[.pointer (some ⟨b, 0, none⟩), .int .i64 n] w fun e w' =>
      (e = .returned (.tuple #[.int .i64 bs.length, .bool true]) ∧ Ready b g g bs.length n bs w w') ∨ (e = .returned (.tuple #[.int .i64 0, .bool false]) ∧ w = w' ∧ NoRoom b n w) := by
  obtain ⟨lr, ⟨hbk, rfl, _, rfl⟩ | ⟨cap, cur, hbk, hgb, hg, hnc, hcm, hcs, htk⟩⟩ := h
  · have c0 : w.cell? ⟨g, 0, none⟩ = some (.slice none 0 0) := by rw [cell_heap hbk]; rfl
    refine (Tryz.Buffer_tryGrow_none g _ 0 0 n w c0 (Nat.le_refl _) (Nat.zero_le _) (by omega)).mono ?_
    rintro e w' ⟨rfl, rfl⟩
    exact .inr ⟨rfl, rfl, _, _, _, c0, by omega⟩
  · simp only [Nat.zero_add, List.drop_zero] at hbk hnc htk
    have c0 : w.cell? ⟨b, 0, none⟩ = some (.slice (some ⟨g, 0, none⟩) bs.length cap) := by rw [cell_heap hbk]; rfl
    by_cases hroom : n ≤ cap - bs.length
    · refine (Tryz.Buffer_tryGrow_room b _ bs.length cap n w c0 (frozen_heap hbk 0) hnc hcm hroom).mono ?_
      rintro e w' ⟨rfl, rfl⟩
      refine .inl ⟨rfl, lr, cap, cur, ?_, hgb, heap_set_other hg hgb _, by omega, hcm, hcs, htk, ?_⟩
      · rw [heap_set_same hbk]; simp
      · exact ((Step.refl [b, g] w).setCell (p := ⟨b, 0, none⟩) (.inl (by simp)) _)
    · refine (Tryz.Buffer_tryGrow_none b _ bs.length cap n w c0 hnc hcm (by omega)).mono ?_
      rintro e w' ⟨rfl, rfl⟩
      exact .inr ⟨rfl, rfl, _, _, _, c0, by omega⟩

theorem grew_ready {b g l n : Nat} {lr : Int} {bs : List Value} {w w1 : World} (h : Grew b l n lr bs w w1) : ∃ g1, Ready b g g1 l n bs w w1 := by
  obtain ⟨N, cap, cells, h1, h2, h3, h4, h5, h6, h7, h8⟩ := h
  refine ⟨N, lr, cap, cells, h1, h3, h2, h4, h5, h6, h7, h8.more (by simp) (fun k hk => by
    simp only [List.mem_cons, List.not_mem_nil, or_false] at hk ⊢
    omega)⟩

theorem grow_any (b g n : Nat) (bs : List Value) (w : World) (h : Buf b g 0 bs w) (h1 : ∀ v ∈ bs, v.oneCell' = true) (hn : 1 ≤ n) (hno : NoRoom b n w) (hlim : bs.length + n ≤ 140737488355328) :
    Calls Tryz.prog 94 #[.pointer (some ⟨b, 0, none⟩), .int .i64 n] w fun e w' => e = .returned (.int .i64 bs.length) ∧ ∃ g1, Ready b g g1 bs.length n bs w w' := by
  obtain ⟨ao, l, cap', hc, hr⟩ := hno
  obtain ⟨lr, ⟨hbk, rfl, _, rfl⟩ | ⟨cap, cur, hbk, hgb, hg, hnc, hcm, hcs, htk⟩⟩ := h
  · by_cases h64 : n ≤ 64
    · refine (grow_nil_small g n lr w hbk hn h64).mono ?_
      rintro e w' ⟨rfl, hG⟩
      exact ⟨rfl, grew_ready hG⟩
    · refine (grow_nil_big g n lr w hbk (by omega) (by simpa using hlim)).mono ?_
      rintro e w' ⟨rfl, hG⟩
      exact ⟨rfl, grew_ready hG⟩
  · simp only [Nat.zero_add, List.drop_zero] at hbk hnc htk
    have c0 : w.cell? ⟨b, 0, none⟩ = some (.slice (some ⟨g, 0, none⟩) bs.length cap) := by rw [cell_heap hbk]; rfl
    rw [c0] at hc
    simp only [Option.some.injEq, Value.slice.injEq] at hc
    obtain ⟨_, rfl, rfl⟩ := hc
    refine (grow_row b g bs.length cap n lr cur w hbk hg hnc hcm hcs (by rw [htk]; exact h1) hn hr hlim).mono ?_
    rintro e w' ⟨rfl, hG⟩
    rw [htk] at hG
    exact ⟨rfl, grew_ready hG⟩

theorem Step.setRow {S T : List Nat} {a b : World} (h : Step S T a b) {g : Nat} (hp : g ∈ S ∨ a.heap.size ≤ g) (cs : Array Value) : Step S T a (b.setRow g cs) :=
  ⟨h.os, h.tape, h.output, by have := h.size; simpa using this, fun k hk hn => by
    rw [setRow_other _ _ _ _ (fun e => by subst e; rcases hp with hp | hp; exact hn hp; omega), h.block k hk hn], h.own⟩

theorem own_mem {b g g1 : Nat} {w w1 : World} (h : Step [b, g] [b, g1] w w1) : g1 ∈ [b, g] ∨ w.heap.size ≤ g1 := h.own g1 (by simp)

/-- The room is filled. -/
theorem wrote {b g g1 l n cap : Nat} {lr : Int} {cur : Array Value} {bs news : List Value} {w w1 : World} (hbk : w1.heap[b]? = some (.cells #[.slice (some ⟨g1, 0, none⟩) (l + n) cap, .int .i64 0, .int .i8 lr] 151 (0, 0)))
    (hgb : g1 ≠ b) (hg : w1.heap[g1]? = some (.cells cur 5 (0, 0))) (hnc : l + n ≤ cap) (hcm : cap ≤ maxLen) (hcs : cur.size = cap) (htk : cur.toList.take l = bs) (hs : Step [b, g] [b, g1] w w1) (hnl : news.length = n) :
    Buf b g1 0 (bs ++ news) (w1.setRow g1 (bs ++ (news ++ cur.toList.drop (l + n))).toArray) ∧ Step [b, g] [b, g1] w (w1.setRow g1 (bs ++ (news ++ cur.toList.drop (l + n))).toArray) := by
  have e : bs ++ (news ++ cur.toList.drop (l + n)) = cur.toList.take l ++ news ++ cur.toList.drop (l + n) := by rw [htk, List.append_assoc]
  rw [e]
  have hl : (cur.toList.take l).length = l := by rw [List.length_take, Array.length_toList]; omega
  have hbl : bs.length = l := by rw [← htk]; exact hl
  subst hnl
  refine ⟨⟨lr, .inr ⟨cap, (cur.toList.take l ++ news ++ cur.toList.drop (l + news.length)).toArray, ?_, hgb, ?_, ?_, hcm, ?_, ?_⟩⟩, hs.setRow (own_mem hs) _⟩
  · rw [setRow_other _ _ _ _ (Ne.symm hgb), hbk]; simp [hbl]
  · exact setRow_heap w1 g1 cur _ _ _ hg
  · simp [hbl]; omega
  · simp only [List.size_toArray, List.length_append, hl, List.length_drop, Array.length_toList]; omega
  · simp only [List.length_append, hbl, Nat.zero_add, List.drop_zero, List.toList_toArray]
    rw [List.take_append_of_le_length (by rw [List.length_append, hl]; exact Nat.le_refl _), List.take_of_length_le (by rw [List.length_append, hl]; exact Nat.le_refl _), htk]

/-- What stands ahead of every writing: the struct's third cell is set. -/
theorem Buf.last {b g off : Nat} {bs : List Value} {w : World} (h : Buf b g off bs w) (x : Int) : Buf b g off bs (w.setCell ⟨b, 2, none⟩ (.int .i8 x)) := by
  obtain ⟨lr, ⟨h1, h2⟩ | ⟨cap, cur, h1, hn, h2, h3⟩⟩ := h
  · exact ⟨x, .inl ⟨by rw [heap_set_same h1]; simp, h2⟩⟩
  · exact ⟨x, .inr ⟨cap, cur, by rw [heap_set_same h1]; simp, hn, heap_set_other h2 hn _, h3⟩⟩

theorem Buf.cell2 {b g off : Nat} {bs : List Value} {w : World} (h : Buf b g off bs w) : ∃ lr, w.cell? ⟨b, 2, none⟩ = some (.int .i8 lr) ∧ w.frozen? ⟨b, 2, none⟩ = false := by
  obtain ⟨lr, ⟨h1, _⟩ | ⟨cap, cur, h1, _⟩⟩ := h
  · exact ⟨lr, by rw [cell_heap h1]; rfl, frozen_heap h1 2⟩
  · exact ⟨lr, by rw [cell_heap h1]; rfl, frozen_heap h1 2⟩

theorem size8 : (Tryz.prog.info? 5).map (·.size) = some 1 := by
  obtain ⟨i0, hi, -, hz1, -⟩ := info_parts info8
  rw [hi]; simp [hz1]

set_option maxHeartbeats 2000000 in
set_option maxRecDepth 100000 in
/-- Write: a slice of bytes, in whatever block but the buffer's own. -/
theorem buf_write (b g n c : Nat) (bs cs : List Value) (a : Addr) (w : World) (h : Buf b g 0 bs w) (h1 : ∀ v ∈ bs, v.oneCell' = true) (hn : cs.length = n) (hab : a.block ≠ b) (hag : a.block ≠ g) (hal : a.block < w.heap.size)
    (hsrc : ∀ j v, cs[j]? = some v → w.cell? (a.add j) = some v) (h1c : ∀ v ∈ cs, v.oneCell' = true) (hn1 : 1 ≤ n) (hlim : bs.length + n ≤ 140737488355328) :
    Calls Tryz.prog 76 #[.pointer (some ⟨b, 0, none⟩), .slice (some a) n c] w fun e w' => e = .returned (.tuple #[.int .i64 n, .nilIface]) ∧ ∃ g1, Buf b g1 0 (bs ++ cs) w' ∧ Step [b, g] [b, g1] w w' := by
  obtain ⟨lr, c2, f2⟩ := h.cell2
  have h0 := h.last 0
  have hs0 : Step [b, g] [b, g] w (w.setCell ⟨b, 2, none⟩ (.int .i8 0)) := (Step.refl _ _).setCell (p := ⟨b, 2, none⟩) (.inl (by simp)) _
  have hal0 : a.block < (w.setCell ⟨b, 2, none⟩ (.int .i8 0)).heap.size := by simpa [World.setCell] using hal
  have hsrc0 : ∀ j v, cs[j]? = some v → (w.setCell ⟨b, 2, none⟩ (.int .i8 0)).cell? (a.add j) = some v := fun j v hj => by
    rw [hs0.cell (by rw [Lib.block_add]; exact hal) (by rw [Lib.block_add]; simp [hab, hag])]; exact hsrc j v hj
  clear hsrc
  go_enter Tryz.func76, Tryz.ntmps76
  go_wp2_with (go_at_call 93; refine (try_any b g n bs _ ?_ hn1).mono ?_)
  · exact h0
  generalize w.setCell ⟨b, 2, none⟩ (.int .i8 0) = w0 at *
  rintro e W1 (⟨rfl, hR⟩ | ⟨rfl, rfl, hno⟩)
  · obtain ⟨lr1, cap, cur, hbk, hgb, hg, hnc, hcm, hcs, htk, hs⟩ := hR
    have d0 : W1.cell? ⟨b, 0, none⟩ = some (.slice (some ⟨g, 0, none⟩) (bs.length + n) cap) := by rw [cell_heap hbk]; rfl
    have hne : ¬ cap = bs.length := by omega
    have hsrc1 : ∀ j v, cs[j]? = some v → W1.cell? (a.add j) = some v := fun j v hj => by
      rw [hs.cell (by rw [Lib.block_add]; exact hal0) (by rw [Lib.block_add]; simp [hab, hag])]; exact hsrc0 j v hj
    have hcp := run_copy_row (P := Tryz.prog) W1 29 29 3 5 g bs.length n (cap - bs.length) a n c cur 5 cs Tryz.underlying29 size8 hg (by rw [hn]; exact (Nat.min_self n).symm) hsrc1 (by rw [hn]; omega) h1c
    rw [hn] at hcp
    have hcm' := hcm
    unfold maxLen at hcm'
    clear hsrc1 hsrc0 c2 f2
    go_wp2
    go_ret2
    obtain ⟨r1, r2⟩ := wrote hbk hgb hg hnc hcm hcs htk (hs0.trans hs) hn
    exact ⟨rfl, g, r1, r2⟩
  · go_wp2_with (go_at_call 94; refine (grow_any b g n bs _ h0 h1 hn1 hno hlim).mono ?_)
    rintro e W1 ⟨rfl, g1, hR⟩
    obtain ⟨lr1, cap, cur, hbk, hgb, hg, hnc, hcm, hcs, htk, hs⟩ := hR
    have d0 : W1.cell? ⟨b, 0, none⟩ = some (.slice (some ⟨g1, 0, none⟩) (bs.length + n) cap) := by rw [cell_heap hbk]; rfl
    have hne : ¬ cap = bs.length := by omega
    have hsrc1 : ∀ j v, cs[j]? = some v → W1.cell? (a.add j) = some v := fun j v hj => by
      rw [hs.cell (by rw [Lib.block_add]; exact hal0) (by rw [Lib.block_add]; simp [hab, hag])]; exact hsrc0 j v hj
    have hcp := run_copy_row (P := Tryz.prog) W1 29 29 3 5 g1 bs.length n (cap - bs.length) a n c cur 5 cs Tryz.underlying29 size8 hg (by rw [hn]; exact (Nat.min_self n).symm) hsrc1 (by rw [hn]; omega) h1c
    rw [hn] at hcp
    have hcm' := hcm
    unfold maxLen at hcm'
    clear hsrc1 hsrc0 c2 f2
    go_wp2
    go_ret2
    obtain ⟨r1, r2⟩ := wrote hbk hgb hg hnc hcm hcs htk (hs0.trans hs) hn
    exact ⟨rfl, g1, r1, r2⟩

set_option maxHeartbeats 2000000 in
set_option maxRecDepth 100000 in
/-- Write: of no byte. -/
theorem buf_write_none (b g c : Nat) (bs : List Value) (ao : Option Addr) (w : World) (h : Buf b g 0 bs w) :
    Calls Tryz.prog 76 #[.pointer (some ⟨b, 0, none⟩), .slice ao 0 c] w fun e w' => e = .returned (.tuple #[.int .i64 0, .nilIface]) ∧ Buf b g 0 bs w' ∧ Step [b, g] [b, g] w w' := by
  obtain ⟨lr, c2, f2⟩ := h.cell2
  have h0 := h.last 0
  have hs0 : Step [b, g] [b, g] w (w.setCell ⟨b, 2, none⟩ (.int .i8 0)) := (Step.refl _ _).setCell (p := ⟨b, 2, none⟩) (.inl (by simp)) _
  have hce : ∀ d dLen dCap W, (Builtin.copy_ #[29, 29] 3 #[.slice d dLen dCap, .slice ao 0 c]).run Tryz.prog W = .ok (goInt 0) W := fun d dLen dCap W => run_copy_none W 29 29 3 5 d ao dLen dCap 0 c Tryz.underlying29 size8 (by simp)
  obtain ⟨lr0, ⟨hbk, rfl, _, rfl⟩ | ⟨cap, cur, hbk, hgb, hg, hnc, hcm, hcs, htk⟩⟩ := id h0
  · have d0 : (w.setCell ⟨g, 2, none⟩ (.int .i8 0)).cell? ⟨g, 0, none⟩ = some (.slice none 0 0) := by rw [cell_heap hbk]; rfl
    have hT := Tryz.Buffer_tryGrow_room g none 0 0 0 _ d0 (frozen_heap hbk 0) (Nat.le_refl _) (Nat.zero_le _) (Nat.le_refl _)
    have hbk2 := heap_set_same (o := 0) hbk (.slice none (0 + 0) 0)
    have d1 : ((w.setCell ⟨g, 2, none⟩ (.int .i8 0)).setCell ⟨g, 0, none⟩ (.slice none (0 + 0) 0)).cell? ⟨g, 0, none⟩ = some (.slice none 0 0) := by rw [cell_heap hbk2]; rfl
    have hs1 : Step [g, g] [g, g] w ((w.setCell ⟨g, 2, none⟩ (.int .i8 0)).setCell ⟨g, 0, none⟩ (.slice none (0 + 0) 0)) := hs0.setCell (p := ⟨g, 0, none⟩) (.inl (by simp)) _
    have hB : Buf g g 0 [] ((w.setCell ⟨g, 2, none⟩ (.int .i8 0)).setCell ⟨g, 0, none⟩ (.slice none (0 + 0) 0)) := ⟨lr0, .inl ⟨by rw [hbk2]; simp, rfl, rfl, rfl⟩⟩
    clear hbk2
    go_enter Tryz.func76, Tryz.ntmps76
    go_wp2_with (go_at_call 93; refine hT.mono ?_; rintro e W1 ⟨rfl, rfl⟩)
    all_goals (go_ret2; exact ⟨by simp, hB, hs1⟩)
  · simp only [Nat.zero_add, List.drop_zero] at hbk hnc htk
    have d0 : (w.setCell ⟨b, 2, none⟩ (.int .i8 0)).cell? ⟨b, 0, none⟩ = some (.slice (some ⟨g, 0, none⟩) bs.length cap) := by rw [cell_heap hbk]; rfl
    have hT := Tryz.Buffer_tryGrow_room b (some ⟨g, 0, none⟩) bs.length cap 0 _ d0 (frozen_heap hbk 0) hnc hcm (by omega)
    have hbk2 := heap_set_same (o := 0) hbk (.slice (some ⟨g, 0, none⟩) (bs.length + 0) cap)
    have d1 : ((w.setCell ⟨b, 2, none⟩ (.int .i8 0)).setCell ⟨b, 0, none⟩ (.slice (some ⟨g, 0, none⟩) (bs.length + 0) cap)).cell? ⟨b, 0, none⟩ = some (.slice (some ⟨g, 0, none⟩) bs.length cap) := by rw [cell_heap hbk2]; rfl
    have hs1 : Step [b, g] [b, g] w ((w.setCell ⟨b, 2, none⟩ (.int .i8 0)).setCell ⟨b, 0, none⟩ (.slice (some ⟨g, 0, none⟩) (bs.length + 0) cap)) := hs0.setCell (p := ⟨b, 0, none⟩) (.inl (by simp)) _
    have hB : Buf b g 0 bs ((w.setCell ⟨b, 2, none⟩ (.int .i8 0)).setCell ⟨b, 0, none⟩ (.slice (some ⟨g, 0, none⟩) (bs.length + 0) cap)) :=
      ⟨lr0, .inr ⟨cap, cur, by rw [hbk2]; simp, hgb, heap_set_other hg hgb _, by omega, hcm, hcs, by simpa using htk⟩⟩
    clear hbk2
    unfold maxLen at hcm
    by_cases hne : cap = bs.length
    · subst hne
      go_enter Tryz.func76, Tryz.ntmps76
      go_wp2_with (go_at_call 93; refine hT.mono ?_; rintro e W1 ⟨rfl, rfl⟩)
      all_goals (go_ret2; exact ⟨by simp, hB, hs1⟩)
    · go_enter Tryz.func76, Tryz.ntmps76
      go_wp2_with (go_at_call 93; refine hT.mono ?_; rintro e W1 ⟨rfl, rfl⟩)
      all_goals (go_ret2; exact ⟨by simp, hB, hs1⟩)

end Go.Proofs.YteadkokfepjgbaaGreatDoor
