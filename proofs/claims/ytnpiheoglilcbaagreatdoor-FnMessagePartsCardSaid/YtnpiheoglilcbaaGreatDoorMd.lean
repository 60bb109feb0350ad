/- The writers of the binary and the compact protocol. No condition. -/
import Derived.Test.YtnpiheoglilcbaaGreatDoorMa
import Derived.Test.YtnpiheoglilcbaaGreatDoorMc
import Derived.Outline
import Derived.Test.YtnpiheoglilcbaaGreatDoorMb
import Derived.MapKept
import Derived.Deep.LoopGhost
import Derived.Deep.DeepCutAuto
import Derived.Deep.CutBlock
import Derived.Deep.RegionHeld3
import Derived.BigRegion
import Derived.Deep.AppendLies
import Derived.Test.YtnpiheoglilcbaaGreatDoorWLast
/-! Bytes and texts of whatever length are written into a memory buffer. -/
namespace Go.Proofs.YtnpiheoglilcbaaGreatDoor
open Go.RowKit Go.Deep
set_option linter.unusedVariables false
set_option linter.unusedSimpArgs false

set_option maxHeartbeats 2000000 in
set_option maxRecDepth 100000 in
/-- WriteString: of no byte. -/
theorem buf_writeString_none (b g : Nat) (bs : List Value) (s : ByteArray) (w : World) (h : Buf b g 0 bs w) (hs0 : s.size = 0) :
    Calls Tryz.prog 91 #[.pointer (some ⟨b, 0, none⟩), .string s] w fun e w' => e = .returned (.tuple #[.int .i64 0, .nilIface]) ∧ Buf b g 0 bs w' ∧ Step [b, g] [b, g] w w' := by
  obtain ⟨lr, c2, f2⟩ := h.cell2
  have h0 := h.last 0
  have hst0 : Step [b, g] [b, g] w (w.setCell ⟨b, 2, none⟩ (.int .i8 0)) := (Step.refl _ _).setCell (p := ⟨b, 2, none⟩) (.inl (by simp)) _
  have hce : ∀ d dLen dCap W, (Builtin.copy_ #[24, 9] 3 #[.slice d dLen dCap, .string s]).run Tryz.prog W = .ok (goInt 0) W := fun d dLen dCap W => Lib.run_copy_empty_string W 24 9 3 5 d dLen dCap s Tryz.underlying24 (by rw [size8]; rfl) hs0
  obtain rfl : s = ByteArray.empty := by
    cases s with | mk a => exact congrArg ByteArray.mk (Array.eq_empty_of_size_eq_zero hs0)
  obtain ⟨lr0, ⟨hbk, rfl, _, rfl⟩ | ⟨cap, cur, hbk, hgb, hg, hnc, hcm, hcs, htk⟩⟩ := id h0
  · have d0 : (w.setCell ⟨g, 2, none⟩ (.int .i8 0)).cell? ⟨g, 0, none⟩ = some (.slice none 0 0) := by rw [cell_heap hbk]; rfl
    have hT := Tryz.Buffer_tryGrow_room g none 0 0 0 _ d0 (frozen_heap hbk 0) (Nat.le_refl _) (Nat.zero_le _) (Nat.le_refl _)
    have hbk2 := heap_set_same (o := 0) hbk (.slice none (0 + 0) 0)
    have d1 : ((w.setCell ⟨g, 2, none⟩ (.int .i8 0)).setCell ⟨g, 0, none⟩ (.slice none (0 + 0) 0)).cell? ⟨g, 0, none⟩ = some (.slice none 0 0) := by rw [cell_heap hbk2]; rfl
    have hs1 : Step [g, g] [g, g] w ((w.setCell ⟨g, 2, none⟩ (.int .i8 0)).setCell ⟨g, 0, none⟩ (.slice none (0 + 0) 0)) := hst0.setCell (p := ⟨g, 0, none⟩) (.inl (by simp)) _
    have hB : Buf g g 0 [] ((w.setCell ⟨g, 2, none⟩ (.int .i8 0)).setCell ⟨g, 0, none⟩ (.slice none (0 + 0) 0)) := ⟨lr0, .inl ⟨by rw [hbk2]; simp, rfl, rfl, rfl⟩⟩
    clear hbk2
    go_enter Tryz.func91, Tryz.ntmps91
    go_wp2_with (go_at_call 63; refine hT.mono ?_; rintro e W1 ⟨rfl, rfl⟩)
    all_goals (go_ret2; exact ⟨by simp, hB, hs1⟩)
  · simp only [Nat.zero_add, List.drop_zero] at hbk hnc htk
    have d0 : (w.setCell ⟨b, 2, none⟩ (.int .i8 0)).cell? ⟨b, 0, none⟩ = some (.slice (some ⟨g, 0, none⟩) bs.length cap) := by rw [cell_heap hbk]; rfl
    have hT := Tryz.Buffer_tryGrow_room b (some ⟨g, 0, none⟩) bs.length cap 0 _ d0 (frozen_heap hbk 0) hnc hcm (by omega)
    have hbk2 := heap_set_same (o := 0) hbk (.slice (some ⟨g, 0, none⟩) (bs.length + 0) cap)
    have d1 : ((w.setCell ⟨b, 2, none⟩ (.int .i8 0)).setCell ⟨b, 0, none⟩ (.slice (some ⟨g, 0, none⟩) (bs.length + 0) cap)).cell? ⟨b, 0, none⟩ = some (.slice (some ⟨g, 0, none⟩) bs.length cap) := by rw [cell_heap hbk2]; rfl
    have hs1 : Step [b, g] [b, g] w ((w.setCell ⟨b, 2, none⟩ (.int .i8 0)).setCell ⟨b, 0, none⟩ (.slice (some ⟨g, 0, none⟩) (bs.length + 0) cap)) := hst0.setCell (p := ⟨b, 0, none⟩) (.inl (by simp)) _
    have hB : Buf b g 0 bs ((w.setCell ⟨b, 2, none⟩ (.int .i8 0)).setCell ⟨b, 0, none⟩ (.slice (some ⟨g, 0, none⟩) (bs.length + 0) cap)) :=
      ⟨lr0, .inr ⟨cap, cur, by rw [hbk2]; simp, hgb, heap_set_other hg hgb _, by omega, hcm, hcs, by simpa using htk⟩⟩
    clear hbk2
    unfold maxLen at hcm
    by_cases hne : cap = bs.length
    · subst hne
      go_enter Tryz.func91, Tryz.ntmps91
      go_wp2_with (go_at_call 63; refine hT.mono ?_; rintro e W1 ⟨rfl, rfl⟩)
      all_goals (go_ret2; exact ⟨by simp, hB, hs1⟩)
    · go_enter Tryz.func91, Tryz.ntmps91
      go_wp2_with (go_at_call 63; refine hT.mono ?_; rintro e W1 ⟨rfl, rfl⟩)
      all_goals (go_ret2; exact ⟨by simp, hB, hs1⟩)

/-- A text of whatever length. -/
theorem mem_writeString (m b g : Nat) (l s : List UInt8) (w : World) (h : Mem m b g 0 (Lib.byteCells l) w) (hlim : l.length + s.length ≤ 140737488355328) :
    Calls Tryz.prog 91 #[.pointer (some ⟨b, 0, none⟩), .string ⟨s.toArray⟩] w fun e w' => (∃ n, e = .returned (.tuple #[.int .i64 n, .nilIface])) ∧ ∃ g1, Mem m b g1 0 (Lib.byteCells (l ++ s)) w' ∧ Step [b, g] [b, g1] w w' := by
  by_cases hs : s.length = 0
  · refine (buf_writeString_none b g _ _ w h.2.2.2 (by show s.toArray.size = 0; simpa using hs)).mono ?_
    rintro e w' ⟨rfl, hB, hst⟩
    obtain rfl : s = [] := List.length_eq_zero_iff.1 hs
    exact ⟨⟨_, rfl⟩, g, by rw [List.append_nil]; exact h.turn hB hst, hst⟩
  · refine (buf_writeString b g _ ⟨s.toArray⟩ w h.2.2.2 (Lib.byteCells_one _) (by show 1 ≤ s.toArray.size; simp; omega) (by rw [Lib.byteCells_length]; show l.length + s.toArray.size ≤ _; simpa using hlim)).mono ?_
    rintro e w' ⟨rfl, g1, hB, hst⟩
    refine ⟨⟨_, rfl⟩, g1, ?_, hst⟩
    rw [Lib.byteCells_append]
    exact h.turn hB hst

/-- Bytes of whatever length, in another block. -/
theorem mem_writeBytes (m b g n c : Nat) (ao : Option Addr) (l s : List UInt8) (w : World) (h : Mem m b g 0 (Lib.byteCells l) w) (hn : s.length = n) (hsrc : ∀ a, ao = some a → (a.block ≠ b ∧ a.block ≠ g ∧ a.block < w.heap.size) ∧ ∀ j v, (Lib.byteCells s)[j]? = some v → w.cell? (a.add j) = some v) (hno : ao = none → n = 0) (hlim : l.length + n ≤ 140737488355328) :
    Calls Tryz.prog 55 #[.pointer (some ⟨b, 0, none⟩), .slice ao n c] w fun e w' => (∃ n, e = .returned (.tuple #[.int .i64 n, .nilIface])) ∧ ∃ g1, Mem m b g1 0 (Lib.byteCells (l ++ s)) w' ∧ Step [b, g] [b, g1] w w' := by
  by_cases hs : n = 0
  · subst hs
    obtain rfl : s = [] := List.length_eq_zero_iff.1 hn
    refine (buf_write_none b g c _ ao w h.2.2.2).mono ?_
    rintro e w' ⟨rfl, hB, hst⟩
    exact ⟨⟨_, rfl⟩, g, by rw [List.append_nil]; exact h.turn hB hst, hst⟩
  · cases ao with
    | none => exact absurd (hno rfl) hs
    | some a =>
      obtain ⟨⟨k1, k2, k3⟩, k4⟩ := hsrc a rfl
      refine (buf_write b g n c _ (Lib.byteCells s) a w h.2.2.2 (Lib.byteCells_one _) (by rw [Lib.byteCells_length]; exact hn) k1 k2 k3 k4 (Lib.byteCells_one _) (by omega) (by rw [Lib.byteCells_length]; exact hlim)).mono ?_
      rintro e w' ⟨rfl, g1, hB, hst⟩
      refine ⟨⟨_, rfl⟩, g1, ?_, hst⟩
      rw [Lib.byteCells_append]
      exact h.turn hB hst

end Go.Proofs.YtnpiheoglilcbaaGreatDoor

/-! The binary protocol over a memory buffer: numbers, texts and bytes are written. Printed by a program (wip/tools/bw.py). -/
namespace Go.Proofs.YtnpiheoglilcbaaGreatDoor
open Go.RowKit Go.Deep
set_option linter.unusedVariables false
set_option linter.unusedSimpArgs false

/-- A configuration: whether none is given, strictness, limits. -/
structure Cfg where
  plain : Bool
  rb : Bool
  sb : Bool
  ms : Int
  ct : Int
  fr : Int

/-- Where it lies: K are its blocks. -/
def CfgAt (c : Cfg) (cf : Value) (K : List Nat) (w : World) : Prop :=
  (c.plain = true ∧ cf = .pointer none ∧ K = []) ∨
    (c.plain = false ∧ ∃ k r s, K = [k, r, s] ∧ cf = .pointer (some ⟨k, 0, none⟩) ∧ k < w.heap.size ∧ r < w.heap.size ∧ s < w.heap.size ∧ IsConf k c.ms c.fr c.ct r s c.rb c.sb w)

theorem CfgAt.step {c : Cfg} {cf : Value} {K : List Nat} {w : World} (h : CfgAt c cf K w) {T U : List Nat} {w1 : World} (hs : Step T U w w1) (hn : ∀ k, k ∈ K → k ∉ T) : CfgAt c cf K w1 := by
  rcases h with h | ⟨hp, k, r, s, rfl, hc, k1, k2, k3, h0, h1, h2, h3, h4, h5, h6⟩
  · exact .inl h
  · have hz := hs.size
    have nk := hn k (by simp)
    have nr := hn r (by simp)
    have ns := hn s (by simp)
    exact .inr ⟨hp, k, r, s, rfl, hc, by omega, by omega, by omega, (hs.cell k1 nk).trans h0, (hs.cell k1 nk).trans h1, (hs.cell k1 nk).trans h2, (hs.cell k1 nk).trans h3, (hs.cell k1 nk).trans h4, (hs.cell k2 nr).trans h5, (hs.cell k3 ns).trans h6⟩

theorem CfgAt.lt {c : Cfg} {cf : Value} {K : List Nat} {w : World} (h : CfgAt c cf K w) : ∀ k, k ∈ K → k < w.heap.size := by
  rcases h with ⟨_, _, rfl⟩ | ⟨_, k, r, s, rfl, _, k1, k2, k3, _⟩
  · simp
  · intro x hx
    simp only [List.mem_cons, List.not_mem_nil, or_false] at hx
    rcases hx with rfl | rfl | rfl
    · exact k1
    · exact k2
    · exact k3

def Cfg.strictW (c : Cfg) : Bool := if c.plain then true else c.sb
def Cfg.strictR (c : Cfg) : Bool := if c.plain then false else c.rb
def Cfg.message (c : Cfg) : Int := if c.plain then 104857600 else orElse c.ms 104857600
def Cfg.container (c : Cfg) : Int := if c.plain then 2147483647 else orElse c.ct 2147483647

theorem cfg_strictW {c : Cfg} {cf : Value} {K : List Nat} {w : World} (h : CfgAt c cf K w) :
    Calls Tryz.prog 238 #[cf] w fun e w' => e = .returned (.bool c.strictW) ∧ w = w' := by
  rcases h with ⟨hp, rfl, rfl⟩ | ⟨hp, k, r, s, rfl, rfl, k1, k2, k3, h⟩
  · simp only [Cfg.strictW, hp, if_true]; exact strictWrite_nil w
  · simp only [Cfg.strictW, hp]; exact strictWrite_at k _ _ _ r s _ _ w h

theorem cfg_strictR {c : Cfg} {cf : Value} {K : List Nat} {w : World} (h : CfgAt c cf K w) :
    Calls Tryz.prog 233 #[cf] w fun e w' => e = .returned (.bool c.strictR) ∧ w = w' := by
  rcases h with ⟨hp, rfl, rfl⟩ | ⟨hp, k, r, s, rfl, rfl, k1, k2, k3, h⟩
  · simp only [Cfg.strictR, hp, if_true]; exact strictRead_nil w
  · simp only [Cfg.strictR, hp]; exact strictRead_at k _ _ _ r s _ _ w h

theorem cfg_message {c : Cfg} {cf : Value} {K : List Nat} {w : World} (h : CfgAt c cf K w) :
    Calls Tryz.prog 174 #[cf] w fun e w' => e = .returned (.int .i32 c.message) ∧ w = w' := by
  rcases h with ⟨hp, rfl, rfl⟩ | ⟨hp, k, r, s, rfl, rfl, k1, k2, k3, h⟩
  · simp only [Cfg.message, hp, if_true]; exact maxMessage_nil w
  · simp only [Cfg.message, hp]; exact maxMessage_at k _ _ _ r s _ _ w h

theorem cfg_container {c : Cfg} {cf : Value} {K : List Nat} {w : World} (h : CfgAt c cf K w) :
    Calls Tryz.prog 177 #[cf] w fun e w' => e = .returned (.int .i32 c.container) ∧ w = w' := by
  rcases h with ⟨hp, rfl, rfl⟩ | ⟨hp, k, r, s, rfl, rfl, k1, k2, k3, h⟩
  · simp only [Cfg.container, hp, if_true]; exact maxContainer_nil w
  · simp only [Cfg.container, hp]; exact maxContainer_at k _ _ _ r s _ _ w h

/-- Block p is a binary protocol over the memory buffer m, into which bytes were written. -/
def BW (p m : Nat) (og cf : Value) (c : Cfg) (S : List Nat) (l : List UInt8) (w : World) : Prop :=
  ∃ b g sc K, S = p :: m :: b :: g :: K ∧ Bin p (memV m) og cf sc w ∧ Mem m b g 0 (Lib.byteCells l) w ∧ CfgAt c cf K w ∧ p ≠ m ∧ p ≠ b ∧ p ≠ g ∧ ∀ k, k ∈ K → k ≠ p ∧ k ≠ b ∧ k ≠ g

theorem BW.step {p m : Nat} {og cf : Value} {c : Cfg} {S : List Nat} {l : List UInt8} {w : World} (h : BW p m og cf c S l w) {T U : List Nat} {w1 : World} (hs : Step T U w w1) (hn : ∀ k, k ∈ S → k ∉ T) : BW p m og cf c S l w1 := by
  obtain ⟨b, g, sc, K, rfl, hp, hm, hc, r⟩ := h
  exact ⟨b, g, sc, K, rfl, hp.step hs (hn _ (by simp)), hm.step hs (hn _ (by simp)) (hn _ (by simp)) (hn _ (by simp)), hc.step hs (fun k hk => hn k (by simp [hk])), r⟩

theorem BW.lt {p m : Nat} {og cf : Value} {c : Cfg} {S : List Nat} {l : List UInt8} {w : World} (h : BW p m og cf c S l w) : ∀ k, k ∈ S → k < w.heap.size := by
  obtain ⟨b, g, sc, K, rfl, hp, hm, hc, r⟩ := h
  intro k hk
  simp only [List.mem_cons] at hk
  rcases hk with rfl | rfl | rfl | rfl | hk
  · exact hp.lt
  · exact hm.lt
  · exact hm.2.2.2.lt.1
  · exact hm.2.2.2.lt.2
  · exact hc.lt k hk

theorem ownK {p m b g g1 : Nat} {K : List Nat} {w w1 : World} (hs : Step [b, g] [b, g1] w w1) : Step (p :: m :: b :: g :: K) (p :: m :: b :: g1 :: K) w w1 := by
  refine ⟨hs.os, hs.tape, hs.output, hs.size, fun k hk hn => hs.block k hk (fun e => hn ?_), fun k hk => ?_⟩
  · simp only [List.mem_cons, List.not_mem_nil, or_false] at e ⊢
    rcases e with rfl | rfl <;> simp
  · simp only [List.mem_cons] at hk ⊢
    rcases hk with rfl | rfl | rfl | rfl | hk
    · simp
    · simp
    · simp
    · rcases hs.own k (by simp) with hh | hh
      · simp only [List.mem_cons, List.not_mem_nil, or_false] at hh
        rcases hh with rfl | rfl <;> simp
      · exact .inr hh
    · simp [hk]

theorem ownP {p m b g : Nat} {K : List Nat} {w w1 : World} (hs : Step [p] [p] w w1) : Step (p :: m :: b :: g :: K) (p :: m :: b :: g :: K) w w1 :=
  ⟨hs.os, hs.tape, hs.output, hs.size, fun k hk hn => hs.block k hk (fun e => hn (by simp only [List.mem_cons, List.not_mem_nil, or_false] at e; subst e; simp)), fun k hk => .inl hk⟩

/-- What was written is behind the rest. -/
theorem BW.wrote {p m b g g1 : Nat} {og cf : Value} {c : Cfg} {K : List Nat} {sc : List Value} {l1 : List UInt8} {w w1 : World} (hp : Bin p (memV m) og cf sc w) (hC : CfgAt c cf K w) (hpm : p ≠ m) (hpb : p ≠ b) (hpg : p ≠ g) (hK : ∀ k, k ∈ K → k ≠ p ∧ k ≠ b ∧ k ≠ g)
    (hM : Mem m b g1 0 (Lib.byteCells l1) w1) (hs : Step [b, g] [b, g1] w w1) : BW p m og cf c (p :: m :: b :: g1 :: K) l1 w1 := by
  have hl := hp.lt
  refine ⟨b, g1, sc, K, rfl, hp.step hs (by simp [hpb, hpg]), hM, hC.step hs (fun k hk => by have := hK k hk; simp [this]), hpm, hpb, ?_, fun k hk => ⟨(hK k hk).1, (hK k hk).2.1, ?_⟩⟩
  · rcases hs.own g1 (by simp) with hh | hh
    · simp only [List.mem_cons, List.not_mem_nil, or_false] at hh
      omega
    · omega
  · have h1 := hC.lt k hk
    have h2 := hK k hk
    rcases hs.own g1 (by simp) with hh | hh
    · simp only [List.mem_cons, List.not_mem_nil, or_false] at hh
      omega
    · omega

set_option maxRecDepth 100000 in
set_option maxHeartbeats 1000000 in
theorem bw_byte {p m : Nat} {og cf : Value} {c : Cfg} {S : List Nat} {l : List UInt8} {w : World} (h : BW p m og cf c S l w) (cx : Value) (x : Int) (hlim : l.length + 1 ≤ 140737488355328) :
    Calls Tryz.prog 209 #[.pointer (some ⟨p, 0, none⟩), cx, .int .i8 x] w (Did (BW p m og cf c) S w (l ++ [u8 x], 0)) := by
  obtain ⟨b, g, sc, K, rfl, hp, hm, hC, hpm, hpb, hpg, hK⟩ := h
  refine (bin_writeByte p m b g og cf sc _ cx x w hp hm (Lib.byteCells_one _) (by rw [Lib.byteCells_length]; exact hlim)).mono ?_
  rintro e W1 ⟨rfl, g1, hM, hs⟩
  have e1 : Lib.byteCells l ++ [.int .u8 (x % 256)] = Lib.byteCells (l ++ [u8 x]) := by
    rw [Lib.byteCells_append]
    congr 1
    have h2 : ((u8 x).toNat : Int) = x % 256 := by
      unfold u8
      show (((x % 256).toNat % 256 : Nat) : Int) = x % 256
      omega
    simp [Lib.byteCells, h2]
  rw [e1] at hM
  exact ⟨_, _, rfl, IsErr.nil _, BW.wrote hp hC hpm hpb hpg hK hM hs, ownK hs⟩


set_option maxRecDepth 100000 in
set_option maxHeartbeats 1000000 in
theorem bw_i16 {p m : Nat} {og cf : Value} {c : Cfg} {S : List Nat} {l : List UInt8} {w : World} (h : BW p m og cf c S l w) (cx : Value) (x : Int) (hlim : l.length + 2 ≤ 140737488355328) :
    Calls Tryz.prog 214 #[.pointer (some ⟨p, 0, none⟩), cx, .int .i16 x] w (Did (BW p m og cf c) S w (l ++ be 2 x, 0)) := by
  obtain ⟨b, g, sc, K, rfl, hp, h, hC, hpm, hpb, hpg, hK⟩ := h
  have c0 : w.cell? ⟨p, 0, none⟩ = some (memV m) := by rw [hp.cells]; rfl
  have cm := h.cell
  have hmeth := mem_Write
  obtain ⟨v, hv⟩ : ∃ v : Nat, x % 65536 = v := ⟨(x % 65536).toNat, by omega⟩
  have hvl := Lib.hid (show v < 65536 by omega)
  have hvt : (x % (256 : Int) ^ 2).toNat = v := by
    have e : (256 : Int) ^ 2 = 65536 := by decide
    rw [e]; omega
  have hbe : be 2 x = Lib.beBytes 2 v := by unfold be; rw [hvt]
  have HBE := Lib.hid hbe
  have hv2 : IntKind.u16.wrap x = v := by rw [IntKind.wrap_u16]; omega
  clear hvt hbe hv
  obtain ⟨x0, d0, f0⟩ := hp.cell 0 (by omega)
  obtain ⟨x1, d1, f1⟩ := hp.cell 1 (by omega)
  simp only [Nat.reduceAdd] at d0 f0 d1 f1
  go_enter Tryz.func214, Tryz.ntmps214
  go_wp2_with (go_at_call 235; refine (Tryz.binary_BE_PutUint16 p 3 2 64 v hvl.out x0 x1 _ (Nat.le_refl _) d0 d1 f0 f1).mono ?_)
  rintro e W1 ⟨rfl, hW1⟩
  have hbl : (Lib.byteCells (Lib.beBytes 2 v)).length = 2 := by simp [Lib.byteCells_length, Lib.beBytes_length]
  obtain ⟨sc1, hp1, hsc⟩ := (hp.alloc (.cells #[] 297)).set (Lib.byteCells (Lib.beBytes 2 v)) (by omega) (Lib.byteCells_one _)
  rw [← hW1] at hp1
  have hs1 : Step [p] [p] w W1 := by rw [hW1]; exact ((Step.refl _ _).alloc _).setCells (.inl (by simp)) _ _
  have h2 : Mem m b g 0 (Lib.byteCells l) W1 := by
    rw [hW1]
    have ha := h.alloc (.cells #[] 297)
    exact ha.carry (heap_setCells_other (Ne.symm hpm) _ _) (heap_setCells_other (Ne.symm hpb) _ _) (heap_setCells_other (Ne.symm hpg) _ _)
  have hC1 := hC.step hs1 (fun k hk => by have := hK k hk; simp [this])
  clear hW1
  have c0' : W1.cell? ⟨p, 0, none⟩ = some (memV m) := by rw [hp1.cells]; rfl
  have cm' := h2.cell
  have hsrc : ∀ j v', (Lib.byteCells (Lib.beBytes 2 v))[j]? = some v' → W1.cell? ((⟨p, 3, none⟩ : Addr).add j) = some v' := fun j v' hj => by
    rw [Lib.addr_add, hp1.cells, Nat.add_comm]
    simp only [List.getElem?_cons_succ]
    rw [← hsc, List.getElem?_take] at hj
    split at hj
    · exact hj
    · cases hj
  have HS := Lib.hid hsrc
  have HL := Lib.hid (show (Lib.beBytes 2 v).length = 2 by simp [Lib.beBytes_length])
  clear hsrc hbl hsc c0 cm d0 d1 f0 f1 hvl
  go_wp2_with (go_at_call 55; refine (mem_writeBytes m b g 2 64 (some ⟨p, 3, none⟩) l (Lib.beBytes 2 v) _ h2 HL.out (fun a ha => ?_) (by simp) hlim).mono ?_)
  · cases ha
    exact ⟨⟨hpb, hpg, hp1.lt⟩, HS.out⟩
  rintro e W2 ⟨⟨n2, rfl⟩, g1, hM, hs⟩
  go_wp2
  go_ret
  rw [HBE.out]
  exact ⟨_, _, rfl, IsErr.nil _, BW.wrote hp1 hC1 hpm hpb hpg hK hM hs, (ownP hs1).trans (ownK hs)⟩

set_option maxRecDepth 100000 in
set_option maxHeartbeats 1000000 in
theorem bw_i32 {p m : Nat} {og cf : Value} {c : Cfg} {S : List Nat} {l : List UInt8} {w : World} (h : BW p m og cf c S l w) (cx : Value) (x : Int) (hlim : l.length + 4 ≤ 140737488355328) :
    Calls Tryz.prog 215 #[.pointer (some ⟨p, 0, none⟩), cx, .int .i32 x] w (Did (BW p m og cf c) S w (l ++ be 4 x, 0)) := by
  obtain ⟨b, g, sc, K, rfl, hp, h, hC, hpm, hpb, hpg, hK⟩ := h
  have c0 : w.cell? ⟨p, 0, none⟩ = some (memV m) := by rw [hp.cells]; rfl
  have cm := h.cell
  have hmeth := mem_Write
  obtain ⟨v, hv⟩ : ∃ v : Nat, x % 4294967296 = v := ⟨(x % 4294967296).toNat, by omega⟩
  have hvl := Lib.hid (show v < 4294967296 by omega)
  have hvt : (x % (256 : Int) ^ 4).toNat = v := by
    have e : (256 : Int) ^ 4 = 4294967296 := by decide
    rw [e]; omega
  have hbe : be 4 x = Lib.beBytes 4 v := by unfold be; rw [hvt]
  have HBE := Lib.hid hbe
  have hv2 : IntKind.u32.wrap x = v := by rw [IntKind.wrap_u32]; omega
  clear hvt hbe
  obtain ⟨x0, d0, f0⟩ := hp.cell 0 (by omega)
  obtain ⟨x1, d1, f1⟩ := hp.cell 1 (by omega)
  obtain ⟨x2, d2, f2⟩ := hp.cell 2 (by omega)
  obtain ⟨x3, d3, f3⟩ := hp.cell 3 (by omega)
  simp only [Nat.reduceAdd] at d0 f0 d1 f1 d2 f2 d3 f3
  go_enter Tryz.func215, Tryz.ntmps215
  go_wp2_with (go_at_call 236; refine (Tryz.binary_BE_PutUint32 p 3 4 64 v hvl.out x0 x1 x2 x3 _ (Nat.le_refl _) d0 d1 d2 d3 f0 f1 f2 f3).mono ?_)
  rintro e W1 ⟨rfl, hW1⟩
  have hbl : (Lib.byteCells (Lib.beBytes 4 v)).length = 4 := by simp [Lib.byteCells_length, Lib.beBytes_length]
  obtain ⟨sc1, hp1, hsc⟩ := (hp.alloc (.cells #[] 297)).set (Lib.byteCells (Lib.beBytes 4 v)) (by omega) (Lib.byteCells_one _)
  rw [← hW1] at hp1
  have hs1 : Step [p] [p] w W1 := by rw [hW1]; exact ((Step.refl _ _).alloc _).setCells (.inl (by simp)) _ _
  have h2 : Mem m b g 0 (Lib.byteCells l) W1 := by
    rw [hW1]
    have ha := h.alloc (.cells #[] 297)
    exact ha.carry (heap_setCells_other (Ne.symm hpm) _ _) (heap_setCells_other (Ne.symm hpb) _ _) (heap_setCells_other (Ne.symm hpg) _ _)
  have hC1 := hC.step hs1 (fun k hk => by have := hK k hk; simp [this])
  clear hW1
  have c0' : W1.cell? ⟨p, 0, none⟩ = some (memV m) := by rw [hp1.cells]; rfl
  have cm' := h2.cell
  have hsrc : ∀ j v', (Lib.byteCells (Lib.beBytes 4 v))[j]? = some v' → W1.cell? ((⟨p, 3, none⟩ : Addr).add j) = some v' := fun j v' hj => by
    rw [Lib.addr_add, hp1.cells, Nat.add_comm]
    simp only [List.getElem?_cons_succ]
    rw [← hsc, List.getElem?_take] at hj
    split at hj
    · exact hj
    · cases hj
  have HS := Lib.hid hsrc
  have HL := Lib.hid (show (Lib.beBytes 4 v).length = 4 by simp [Lib.beBytes_length])
  clear hsrc hbl hsc c0 cm d0 d1 d2 d3 f0 f1 f2 f3 hv hvl
  go_wp2_with (go_at_call 55; refine (mem_writeBytes m b g 4 64 (some ⟨p, 3, none⟩) l (Lib.beBytes 4 v) _ h2 HL.out (fun a ha => ?_) (by simp) hlim).mono ?_)
  · cases ha
    exact ⟨⟨hpb, hpg, hp1.lt⟩, HS.out⟩
  rintro e W2 ⟨⟨n2, rfl⟩, g1, hM, hs⟩
  go_wp2
  go_ret
  rw [HBE.out]
  exact ⟨_, _, rfl, IsErr.nil _, BW.wrote hp1 hC1 hpm hpb hpg hK hM hs, (ownP hs1).trans (ownK hs)⟩

set_option maxRecDepth 100000 in
set_option maxHeartbeats 1000000 in
theorem bw_i64 {p m : Nat} {og cf : Value} {c : Cfg} {S : List Nat} {l : List UInt8} {w : World} (h : BW p m og cf c S l w) (cx : Value) (x : Int) (hlim : l.length + 8 ≤ 140737488355328) :
    Calls Tryz.prog 216 #[.pointer (some ⟨p, 0, none⟩), cx, .int .i64 x] w (Did (BW p m og cf c) S w (l ++ be 8 x, 0)) := by
  obtain ⟨b, g, sc, K, rfl, hp, h, hC, hpm, hpb, hpg, hK⟩ := h
  have c0 : w.cell? ⟨p, 0, none⟩ = some (memV m) := by rw [hp.cells]; rfl
  have cm := h.cell
  have hmeth := mem_Write
  obtain ⟨v, hv⟩ : ∃ v : Nat, x % 18446744073709551616 = v := ⟨(x % 18446744073709551616).toNat, by omega⟩
  have hvl := Lib.hid (show v < 18446744073709551616 by omega)
  have hvt : (x % (256 : Int) ^ 8).toNat = v := by
    have e : (256 : Int) ^ 8 = 18446744073709551616 := by decide
    rw [e]; omega
  have hbe : be 8 x = Lib.beBytes 8 v := by unfold be; rw [hvt]
  have HBE := Lib.hid hbe
  have hv2 : IntKind.u64.wrap x = v := by rw [IntKind.wrap_u64]; omega
  clear hvt hbe hv
  obtain ⟨x0, d0, f0⟩ := hp.cell 0 (by omega)
  obtain ⟨x1, d1, f1⟩ := hp.cell 1 (by omega)
  obtain ⟨x2, d2, f2⟩ := hp.cell 2 (by omega)
  obtain ⟨x3, d3, f3⟩ := hp.cell 3 (by omega)
  obtain ⟨x4, d4, f4⟩ := hp.cell 4 (by omega)
  obtain ⟨x5, d5, f5⟩ := hp.cell 5 (by omega)
  obtain ⟨x6, d6, f6⟩ := hp.cell 6 (by omega)
  obtain ⟨x7, d7, f7⟩ := hp.cell 7 (by omega)
  simp only [Nat.reduceAdd] at d0 f0 d1 f1 d2 f2 d3 f3 d4 f4 d5 f5 d6 f6 d7 f7
  go_enter Tryz.func216, Tryz.ntmps216
  go_wp2_with (go_at_call 237; refine (Tryz.binary_BE_PutUint64 p 3 8 64 v hvl.out x0 x1 x2 x3 x4 x5 x6 x7 _ (Nat.le_refl _) d0 d1 d2 d3 d4 d5 d6 d7 f0 f1 f2 f3 f4 f5 f6 f7).mono ?_)
  rintro e W1 ⟨rfl, hW1⟩
  have hbl : (Lib.byteCells (Lib.beBytes 8 v)).length = 8 := by simp [Lib.byteCells_length, Lib.beBytes_length]
  obtain ⟨sc1, hp1, hsc⟩ := (hp.alloc (.cells #[] 297)).set (Lib.byteCells (Lib.beBytes 8 v)) (by omega) (Lib.byteCells_one _)
  rw [← hW1] at hp1
  have hs1 : Step [p] [p] w W1 := by rw [hW1]; exact ((Step.refl _ _).alloc _).setCells (.inl (by simp)) _ _
  have h2 : Mem m b g 0 (Lib.byteCells l) W1 := by
    rw [hW1]
    have ha := h.alloc (.cells #[] 297)
    exact ha.carry (heap_setCells_other (Ne.symm hpm) _ _) (heap_setCells_other (Ne.symm hpb) _ _) (heap_setCells_other (Ne.symm hpg) _ _)
  have hC1 := hC.step hs1 (fun k hk => by have := hK k hk; simp [this])
  clear hW1
  have c0' : W1.cell? ⟨p, 0, none⟩ = some (memV m) := by rw [hp1.cells]; rfl
  have cm' := h2.cell
  have hsrc : ∀ j v', (Lib.byteCells (Lib.beBytes 8 v))[j]? = some v' → W1.cell? ((⟨p, 3, none⟩ : Addr).add j) = some v' := fun j v' hj => by
    rw [Lib.addr_add, hp1.cells, Nat.add_comm]
    simp only [List.getElem?_cons_succ]
    rw [← hsc, List.getElem?_take] at hj
    split at hj
    · exact hj
    · cases hj
  have HS := Lib.hid hsrc
  have HL := Lib.hid (show (Lib.beBytes 8 v).length = 8 by simp [Lib.beBytes_length])
  clear hsrc hbl hsc c0 cm d0 d1 d2 d3 d4 d5 d6 d7 f0 f1 f2 f3 f4 f5 f6 f7 hvl
  go_wp2_with (go_at_call 55; refine (mem_writeBytes m b g 8 64 (some ⟨p, 3, none⟩) l (Lib.beBytes 8 v) _ h2 HL.out (fun a ha => ?_) (by simp) hlim).mono ?_)
  · cases ha
    exact ⟨⟨hpb, hpg, hp1.lt⟩, HS.out⟩
  rintro e W2 ⟨⟨n2, rfl⟩, g1, hM, hs⟩
  go_wp2
  go_ret
  rw [HBE.out]
  exact ⟨_, _, rfl, IsErr.nil _, BW.wrote hp1 hC1 hpm hpb hpg hK hM hs, (ownP hs1).trans (ownK hs)⟩

theorem be_wrap (n : Nat) (h : n < 18446744073709551616) : be 8 (wrap64 (n : Int)) = be 8 n := by
  unfold be
  congr 1
  have e : (256 : Int) ^ 8 = 18446744073709551616 := by decide
  rw [e]
  unfold wrap64
  omega

end Go.Proofs.YtnpiheoglilcbaaGreatDoor

/-! The binary protocol over a memory buffer: the calls that write by others. Printed by a program (wip/tools/bw2.py). -/
namespace Go.Proofs.YtnpiheoglilcbaaGreatDoor
open Go.RowKit Go.Deep
set_option linter.unusedVariables false
set_option linter.unusedSimpArgs false

theorem be_length (k : Nat) (n : Int) : (be k n).length = k := by unfold be; exact Lib.beBytes_length _ _

theorem wrap_i8 (n : Int) : IntKind.i8.wrap n = (n + 128) % 256 - 128 := by
  simp [IntKind.wrap, IntKind.bits, IntKind.signed]
  split <;> omega

theorem wrap_i16 (n : Int) : IntKind.i16.wrap n = (n + 32768) % 65536 - 32768 := by
  simp [IntKind.wrap, IntKind.bits, IntKind.signed]
  split <;> omega

theorem f64bits (n : Nat) (w : World) : (callFunc 65 #[.float .f64 n]).run Tryz.prog w = .ok (.value (.int .u64 n)) w := by kernel_rfl

theorem f64of (n : Int) (w : World) : (callFunc 44 #[.int .u64 n]).run Tryz.prog w = .ok (.value (.float .f64 n.toNat)) w := by kernel_rfl

theorem u8_mod (n : Int) : u8 (IntKind.i8.wrap n) = u8 n := by
  unfold u8
  congr 2
  rw [wrap_i8]
  omega

theorem be4_w32 (n : Int) : be 4 (wrap32 n) = be 4 n := by
  unfold be
  congr 1
  have e : (256 : Int) ^ 4 = 4294967296 := by decide
  rw [e]
  unfold wrap32
  omega

theorem be4_mod (n : Int) : be 4 (IntKind.i32.wrap n) = be 4 n := by
  unfold be
  congr 1
  have e : (256 : Int) ^ 4 = 4294967296 := by decide
  rw [e, IntKind.wrap_i32]
  omega

theorem be4_mod_u (n : Int) : be 4 (IntKind.i32.wrap (IntKind.u32.wrap n)) = be 4 n := by
  unfold be
  congr 1
  have e : (256 : Int) ^ 4 = 4294967296 := by decide
  rw [e, IntKind.wrap_i32, IntKind.wrap_u32]
  omega


set_option maxRecDepth 100000 in
set_option maxHeartbeats 1000000 in
theorem bw_msgE {p m : Nat} {og cf : Value} {c : Cfg} {S : List Nat} {l : List UInt8} {w : World} (h : BW p m og cf c S l w) (cx : Value) :
    Calls Tryz.prog 222 #[.pointer (some ⟨p, 0, none⟩), cx] w (Did (BW p m og cf c) S w (l, 0)) := by
  go_enter Tryz.func222, Tryz.ntmps222
  go_wp2
  go_ret
  exact ⟨_, _, rfl, IsErr.nil _, h, Step.refl _ _⟩

set_option maxRecDepth 100000 in
set_option maxHeartbeats 1000000 in
theorem bw_strE {p m : Nat} {og cf : Value} {c : Cfg} {S : List Nat} {l : List UInt8} {w : World} (h : BW p m og cf c S l w) (cx : Value) :
    Calls Tryz.prog 227 #[.pointer (some ⟨p, 0, none⟩), cx] w (Did (BW p m og cf c) S w (l, 0)) := by
  go_enter Tryz.func227, Tryz.ntmps227
  go_wp2
  go_ret
  exact ⟨_, _, rfl, IsErr.nil _, h, Step.refl _ _⟩

set_option maxRecDepth 100000 in
set_option maxHeartbeats 1000000 in
theorem bw_fldE {p m : Nat} {og cf : Value} {c : Cfg} {S : List Nat} {l : List UInt8} {w : World} (h : BW p m og cf c S l w) (cx : Value) :
    Calls Tryz.prog 212 #[.pointer (some ⟨p, 0, none⟩), cx] w (Did (BW p m og cf c) S w (l, 0)) := by
  go_enter Tryz.func212, Tryz.ntmps212
  go_wp2
  go_ret
  exact ⟨_, _, rfl, IsErr.nil _, h, Step.refl _ _⟩

set_option maxRecDepth 100000 in
set_option maxHeartbeats 1000000 in
theorem bw_mapE {p m : Nat} {og cf : Value} {c : Cfg} {S : List Nat} {l : List UInt8} {w : World} (h : BW p m og cf c S l w) (cx : Value) :
    Calls Tryz.prog 220 #[.pointer (some ⟨p, 0, none⟩), cx] w (Did (BW p m og cf c) S w (l, 0)) := by
  go_enter Tryz.func220, Tryz.ntmps220
  go_wp2
  go_ret
  exact ⟨_, _, rfl, IsErr.nil _, h, Step.refl _ _⟩

set_option maxRecDepth 100000 in
set_option maxHeartbeats 1000000 in
theorem bw_lstE {p m : Nat} {og cf : Value} {c : Cfg} {S : List Nat} {l : List UInt8} {w : World} (h : BW p m og cf c S l w) (cx : Value) :
    Calls Tryz.prog 218 #[.pointer (some ⟨p, 0, none⟩), cx] w (Did (BW p m og cf c) S w (l, 0)) := by
  go_enter Tryz.func218, Tryz.ntmps218
  go_wp2
  go_ret
  exact ⟨_, _, rfl, IsErr.nil _, h, Step.refl _ _⟩

set_option maxRecDepth 100000 in
set_option maxHeartbeats 1000000 in
theorem bw_setE {p m : Nat} {og cf : Value} {c : Cfg} {S : List Nat} {l : List UInt8} {w : World} (h : BW p m og cf c S l w) (cx : Value) :
    Calls Tryz.prog 224 #[.pointer (some ⟨p, 0, none⟩), cx] w (Did (BW p m og cf c) S w (l, 0)) := by
  go_enter Tryz.func224, Tryz.ntmps224
  go_wp2
  go_ret
  exact ⟨_, _, rfl, IsErr.nil _, h, Step.refl _ _⟩

set_option maxRecDepth 100000 in
set_option maxHeartbeats 1000000 in
theorem bw_strB {p m : Nat} {og cf : Value} {c : Cfg} {S : List Nat} {l : List UInt8} {w : World} (h : BW p m og cf c S l w) (cx : Value) (nm : Value) :
    Calls Tryz.prog 226 #[.pointer (some ⟨p, 0, none⟩), cx, nm] w (Did (BW p m og cf c) S w (l, 0)) := by
  go_enter Tryz.func226, Tryz.ntmps226
  go_wp2
  go_ret
  exact ⟨_, _, rfl, IsErr.nil _, h, Step.refl _ _⟩

set_option maxRecDepth 100000 in
set_option maxHeartbeats 1000000 in
theorem bw_stop {p m : Nat} {og cf : Value} {c : Cfg} {S : List Nat} {l : List UInt8} {w : World} (h : BW p m og cf c S l w) (cx : Value) (hlim : l.length + 1 ≤ 140737488355328) :
    Calls Tryz.prog 213 #[.pointer (some ⟨p, 0, none⟩), cx] w (Did (BW p m og cf c) S w (l ++ [0], 0)) := by
  go_enter Tryz.func213, Tryz.ntmps213
  go_wp2_with (fail)
  refine (bw_byte h _ _ (by first | omega | (simp only [List.length_append, be_length, List.length_cons, List.length_nil]; omega))).mono ?_
  rintro e W1 ⟨ev, S1, rfl, he, h1, s1⟩
  obtain rfl := he.zero
  clear he
  go_wp2
  go_ret
  refine ⟨_, _, rfl, IsErr.nil _, ?_, s1⟩
  simpa [List.append_assoc, u8_mod, be4_mod, be4_w32, u8] using h1

set_option maxRecDepth 100000 in
set_option maxHeartbeats 1000000 in
theorem bw_fldB {p m : Nat} {og cf : Value} {c : Cfg} {S : List Nat} {l : List UInt8} {w : World} (h : BW p m og cf c S l w) (cx : Value) (nm : Value) (t id : Int) (hlim : l.length + 3 ≤ 140737488355328) :
    Calls Tryz.prog 211 #[.pointer (some ⟨p, 0, none⟩), cx, nm, .int .u8 t, .int .i16 id] w (Did (BW p m og cf c) S w (l ++ (u8 t :: be 2 id), 0)) := by
  go_enter Tryz.func211, Tryz.ntmps211
  go_wp2_with (fail)
  refine (bw_byte h _ _ (by first | omega | (simp only [List.length_append, be_length, List.length_cons, List.length_nil]; omega))).mono ?_
  rintro e W1 ⟨ev, S1, rfl, he, h1, s1⟩
  obtain rfl := he.zero
  clear he
  go_wp2_with (fail)
  refine (bw_i16 h1 _ _ (by first | omega | (simp only [List.length_append, be_length, List.length_cons, List.length_nil]; omega))).mono ?_
  rintro e W2 ⟨ev, S2, rfl, he, h2, s2⟩
  obtain rfl := he.zero
  clear he
  go_wp2
  go_ret
  refine ⟨_, _, rfl, IsErr.nil _, ?_, s1.trans (s2)⟩
  simpa [List.append_assoc, u8_mod, be4_mod, be4_w32] using h2

set_option maxRecDepth 100000 in
set_option maxHeartbeats 1000000 in
theorem bw_mapB {p m : Nat} {og cf : Value} {c : Cfg} {S : List Nat} {l : List UInt8} {w : World} (h : BW p m og cf c S l w) (cx : Value) (k t n : Int) (hlim : l.length + 6 ≤ 140737488355328) :
    Calls Tryz.prog 219 #[.pointer (some ⟨p, 0, none⟩), cx, .int .u8 k, .int .u8 t, .int .i64 n] w (Did (BW p m og cf c) S w (l ++ (u8 k :: u8 t :: be 4 n), 0)) := by
  go_enter Tryz.func219, Tryz.ntmps219
  go_wp2_with (fail)
  refine (bw_byte h _ _ (by first | omega | (simp only [List.length_append, be_length, List.length_cons, List.length_nil]; omega))).mono ?_
  rintro e W1 ⟨ev, S1, rfl, he, h1, s1⟩
  obtain rfl := he.zero
  clear he
  go_wp2_with (fail)
  refine (bw_byte h1 _ _ (by first | omega | (simp only [List.length_append, be_length, List.length_cons, List.length_nil]; omega))).mono ?_
  rintro e W2 ⟨ev, S2, rfl, he, h2, s2⟩
  obtain rfl := he.zero
  clear he
  go_wp2_with (fail)
  refine (bw_i32 h2 _ _ (by first | omega | (simp only [List.length_append, be_length, List.length_cons, List.length_nil]; omega))).mono ?_
  rintro e W3 ⟨ev, S3, rfl, he, h3, s3⟩
  obtain rfl := he.zero
  clear he
  go_wp2
  go_ret
  refine ⟨_, _, rfl, IsErr.nil _, ?_, s1.trans (s2.trans (s3))⟩
  simpa [List.append_assoc, u8_mod, be4_mod, be4_w32] using h3

set_option maxRecDepth 100000 in
set_option maxHeartbeats 1000000 in
theorem bw_lstB {p m : Nat} {og cf : Value} {c : Cfg} {S : List Nat} {l : List UInt8} {w : World} (h : BW p m og cf c S l w) (cx : Value) (t n : Int) (hlim : l.length + 5 ≤ 140737488355328) :
    Calls Tryz.prog 217 #[.pointer (some ⟨p, 0, none⟩), cx, .int .u8 t, .int .i64 n] w (Did (BW p m og cf c) S w (l ++ (u8 t :: be 4 n), 0)) := by
  go_enter Tryz.func217, Tryz.ntmps217
  go_wp2_with (fail)
  refine (bw_byte h _ _ (by first | omega | (simp only [List.length_append, be_length, List.length_cons, List.length_nil]; omega))).mono ?_
  rintro e W1 ⟨ev, S1, rfl, he, h1, s1⟩
  obtain rfl := he.zero
  clear he
  go_wp2_with (fail)
  refine (bw_i32 h1 _ _ (by first | omega | (simp only [List.length_append, be_length, List.length_cons, List.length_nil]; omega))).mono ?_
  rintro e W2 ⟨ev, S2, rfl, he, h2, s2⟩
  obtain rfl := he.zero
  clear he
  go_wp2
  go_ret
  refine ⟨_, _, rfl, IsErr.nil _, ?_, s1.trans (s2)⟩
  simpa [List.append_assoc, u8_mod, be4_mod, be4_w32] using h2

set_option maxRecDepth 100000 in
set_option maxHeartbeats 1000000 in
theorem bw_setB {p m : Nat} {og cf : Value} {c : Cfg} {S : List Nat} {l : List UInt8} {w : World} (h : BW p m og cf c S l w) (cx : Value) (t n : Int) (hlim : l.length + 5 ≤ 140737488355328) :
    Calls Tryz.prog 223 #[.pointer (some ⟨p, 0, none⟩), cx, .int .u8 t, .int .i64 n] w (Did (BW p m og cf c) S w (l ++ (u8 t :: be 4 n), 0)) := by
  go_enter Tryz.func223, Tryz.ntmps223
  go_wp2_with (fail)
  refine (bw_byte h _ _ (by first | omega | (simp only [List.length_append, be_length, List.length_cons, List.length_nil]; omega))).mono ?_
  rintro e W1 ⟨ev, S1, rfl, he, h1, s1⟩
  obtain rfl := he.zero
  clear he
  go_wp2_with (fail)
  refine (bw_i32 h1 _ _ (by first | omega | (simp only [List.length_append, be_length, List.length_cons, List.length_nil]; omega))).mono ?_
  rintro e W2 ⟨ev, S2, rfl, he, h2, s2⟩
  obtain rfl := he.zero
  clear he
  go_wp2
  go_ret
  refine ⟨_, _, rfl, IsErr.nil _, ?_, s1.trans (s2)⟩
  simpa [List.append_assoc, u8_mod, be4_mod, be4_w32] using h2

set_option maxRecDepth 100000 in
set_option maxHeartbeats 1000000 in
theorem bw_dbl {p m : Nat} {og cf : Value} {c : Cfg} {S : List Nat} {l : List UInt8} {w : World} (h : BW p m og cf c S l w) (cx : Value) (n : Nat) (hn : n < 18446744073709551616) (hlim : l.length + 8 ≤ 140737488355328) :
    Calls Tryz.prog 210 #[.pointer (some ⟨p, 0, none⟩), cx, .float .f64 n] w (Did (BW p m og cf c) S w (l ++ be 8 n, 0)) := by
  have HB := Lib.hid (be_wrap n hn)
  have hfb := f64bits
  clear hn
  go_enter Tryz.func210, Tryz.ntmps210
  go_wp2_with (fail)
  refine (bw_i64 h _ _ (by first | omega | (simp only [List.length_append, be_length, List.length_cons, List.length_nil]; omega))).mono ?_
  rintro e W1 ⟨ev, S1, rfl, he, h1, s1⟩
  obtain rfl := he.zero
  clear he
  go_wp2
  go_ret
  refine ⟨_, _, rfl, IsErr.nil _, ?_, s1⟩
  simpa [List.append_assoc, u8_mod, be4_mod, be4_w32, HB.out] using h1

theorem bw_bool {p m : Nat} {og cf : Value} {c : Cfg} {S : List Nat} {l : List UInt8} {w : World} (h : BW p m og cf c S l w) (cx : Value) (b : Bool) (hlim : l.length + 1 ≤ 140737488355328) :
    Calls Tryz.prog 208 #[.pointer (some ⟨p, 0, none⟩), cx, .bool b] w (Did (BW p m og cf c) S w (l ++ [if b then 1 else 0], 0)) := by
  cases b
  all_goals (
    go_enter Tryz.func208, Tryz.ntmps208
    go_wp2_with (fail)
    refine (bw_byte h _ _ hlim).mono ?_
    rintro e W1 ⟨ev, S1, rfl, he, h1, s1⟩
    obtain rfl := he.zero
    go_wp2
    go_ret
    refine ⟨_, _, rfl, IsErr.nil _, ?_, s1⟩
    simpa [u8] using h1)

set_option maxRecDepth 100000 in
set_option maxHeartbeats 1000000 in
theorem bw_str {p m : Nat} {og cf : Value} {c : Cfg} {S : List Nat} {l : List UInt8} {w : World} (h : BW p m og cf c S l w) (cx : Value) (s : List UInt8) (hs : s.length ≤ 2147483647) (hlim : l.length + 4 + s.length ≤ 140737488355328) :
    Calls Tryz.prog 225 #[.pointer (some ⟨p, 0, none⟩), cx, strV s] w (Did (BW p m og cf c) S w (l ++ bText s, 0)) := by
  have hsz : (⟨s.toArray⟩ : ByteArray).size = s.length := by show s.toArray.size = _; simp
  have HZ := Lib.hid hsz
  clear hsz
  go_enter Tryz.func225, Tryz.ntmps225
  go_wp2_with (fail)
  refine (bw_i32 h _ _ (by omega)).mono ?_
  rintro e W1 ⟨ev, S1, rfl, he, h1, s1⟩
  obtain rfl := he.zero
  clear he
  obtain ⟨b, g, sc, K, rfl, hp, hm, hC, hpm, hpb, hpg, hK⟩ := h1
  have c0 : W1.cell? ⟨p, 0, none⟩ = some (memV m) := by rw [hp.cells]; rfl
  have cm := hm.cell
  have hmeth := mem_WriteString
  go_wp2_with (go_at_call 91; refine (mem_writeString m b g _ s _ hm (by simp only [List.length_append, be_length]; omega)).mono ?_)
  rintro e W2 ⟨⟨n2, rfl⟩, g1, hM, s2⟩
  go_wp2
  go_ret
  refine ⟨_, _, rfl, IsErr.nil _, ?_, s1.trans (ownK s2)⟩
  have hw := BW.wrote hp hC hpm hpb hpg hK hM s2
  rw [List.append_assoc] at hw
  exact hw

set_option maxRecDepth 100000 in
set_option maxHeartbeats 1000000 in
theorem bw_bin {p m : Nat} {og cf : Value} {c : Cfg} {S : List Nat} {l : List UInt8} {w : World} (h : BW p m og cf c S l w) (cx : Value) (s : List UInt8) (ao : Option Addr) (n cp : Nat) (hn : s.length = n) (hs : n ≤ 2147483647) (hlim : l.length + 4 + n ≤ 140737488355328)
    (hsrc : ∀ a, ao = some a → (a.block < w.heap.size ∧ a.block ∉ S) ∧ ∀ j v, (Lib.byteCells s)[j]? = some v → w.cell? (a.add j) = some v) (hno : ao = none → n = 0) :
    Calls Tryz.prog 207 #[.pointer (some ⟨p, 0, none⟩), cx, .slice ao n cp] w (Did (BW p m og cf c) S w (l ++ bText s, 0)) := by
  have HN := Lib.hid hn
  have HO := Lib.hid hno
  have HS := Lib.hid hsrc
  clear hn hno hsrc
  go_enter Tryz.func207, Tryz.ntmps207
  go_wp2_with (fail)
  refine (bw_i32 h _ _ (by omega)).mono ?_
  rintro e W1 ⟨ev, S1, rfl, he, h1, s1⟩
  obtain rfl := he.zero
  clear he
  obtain ⟨b, g, sc, K, rfl, hp, hm, hC, hpm, hpb, hpg, hK⟩ := h1
  have c0 : W1.cell? ⟨p, 0, none⟩ = some (memV m) := by rw [hp.cells]; rfl
  have cm := hm.cell
  have hmeth := mem_Write
  have hgo : ∀ k, k < w.heap.size → k ∉ S → k ≠ b ∧ k ≠ g := fun k k1 k2 => by
    constructor
    · rintro rfl
      rcases s1.own k (by simp) with hh | hh
      · exact k2 hh
      · omega
    · rintro rfl
      rcases s1.own k (by simp) with hh | hh
      · exact k2 hh
      · omega
  have HG := Lib.hid hgo
  clear hgo
  go_wp2_with (go_at_call 55; refine (mem_writeBytes m b g n cp ao _ s _ hm HN.out (fun a ha => ?_) HO.out (by simp only [List.length_append, be_length]; omega)).mono ?_)
  · obtain ⟨⟨k1, k2⟩, k3⟩ := HS.out a ha
    obtain ⟨k4, k5⟩ := HG.out _ k1 k2
    refine ⟨⟨k4, k5, Nat.lt_of_lt_of_le k1 s1.size⟩, fun j v hj => ?_⟩
    rw [s1.cell (by rw [Lib.block_add]; exact k1) (by rw [Lib.block_add]; exact k2)]
    exact k3 j v hj
  rintro e W2 ⟨⟨n2, rfl⟩, g1, hM, s2⟩
  go_wp2
  go_ret
  refine ⟨_, _, rfl, IsErr.nil _, ?_, s1.trans (ownK s2)⟩
  have hw := BW.wrote hp hC hpm hpb hpg hK hM s2
  rw [List.append_assoc] at hw
  unfold bText
  rw [HN.out]
  exact hw

set_option maxRecDepth 100000 in
set_option maxHeartbeats 1000000 in
theorem bw_uuid {p m : Nat} {og cf : Value} {c : Cfg} {S : List Nat} {l : List UInt8} {w : World} (h : BW p m og cf c S l w) (cx : Value) (s : List UInt8) (hs : s.length = 16) (hlim : l.length + 16 ≤ 140737488355328) :
    Calls Tryz.prog 228 #[.pointer (some ⟨p, 0, none⟩), cx, .agg (Lib.byteCells s).toArray] w (Did (BW p m og cf c) S w (l ++ s, 0)) := by
  have hlt := h.lt
  obtain ⟨b, g, sc, K, rfl, hp, hm, hC, hpm, hpb, hpg, hK⟩ := h
  have hst : ∀ o, Step [] [] w (w.alloc o) := fun o => (Step.refl _ _).alloc o
  have hp1 : ∀ o, Bin p (memV m) og cf sc (w.alloc o) := fun o => hp.alloc o
  have hm1 : ∀ o, Mem m b g 0 (Lib.byteCells l) (w.alloc o) := fun o => hm.alloc o
  have hC1 : ∀ o, CfgAt c cf K (w.alloc o) := fun o => hC.step (hst o) (by simp)
  have c0 : ∀ o, (w.alloc o).cell? ⟨p, 0, none⟩ = some (memV m) := fun o => by rw [(hp1 o).cells]; rfl
  have cm : ∀ o, (w.alloc o).cell? ⟨m, 0, none⟩ = some (.pointer (some ⟨b, 0, none⟩)) := fun o => (hm1 o).cell
  have hmeth := mem_Write
  have hb := hm.2.2.2.lt
  have HP := Lib.hid hp1
  have HM := Lib.hid hm1
  have HC := Lib.hid hC1
  have HS := Lib.hid hs
  have HL := Lib.hid hlt
  clear hp1 hm1 hC1 hs hp hm hC hst hlt
  go_enter Tryz.func228, Tryz.ntmps228
  have hsrc : ∀ o, o = Obj.cells (Lib.byteCells s).toArray 109 (0, 0) → ∀ a, some (⟨w.heap.size, 0, none⟩ : Addr) = some a → (a.block ≠ b ∧ a.block ≠ g ∧ a.block < (w.alloc o).drew.heap.size) ∧ ∀ j v, (Lib.byteCells s)[j]? = some v → (w.alloc o).drew.cell? (a.add j) = some v := by
    rintro o rfl a ha
    cases ha
    refine ⟨⟨by show w.heap.size ≠ b; omega, by show w.heap.size ≠ g; omega, by show w.heap.size < _; simp⟩, fun j v hj => ?_⟩
    rw [Lib.addr_add, World.cell?_drew, cell_heap (heap_alloc_new _ _)]
    simpa using hj
  have HSR := Lib.hid hsrc
  clear hsrc
  go_wp2_with (fail)
  go_region_with ((go_at_call 55; refine (mem_writeBytes m b g 16 16 (some ⟨w.heap.size, 0, none⟩) l s _ ?_ HS.out ?_ (by simp) hlim).mono ?_; exact HM.out _; exact HSR.out _ rfl; rintro e W2 ⟨⟨n2, rfl⟩, g1, hM, s2⟩))
  go_wp2
  go_ret
  exact ⟨_, _, rfl, IsErr.nil _, BW.wrote (HP.out _) (HC.out _) hpm hpb hpg hK hM s2.undrew, ((Step.refl _ _).alloc _).trans (ownK s2.undrew)⟩

end Go.Proofs.YtnpiheoglilcbaaGreatDoor

/-! The binary protocol over a memory buffer: the begin of a message. -/
namespace Go.Proofs.YtnpiheoglilcbaaGreatDoor
open Go.RowKit Go.Deep
set_option linter.unusedVariables false
set_option linter.unusedSimpArgs false

set_option maxRecDepth 100000 in
set_option maxHeartbeats 1000000 in
theorem bw_msgB_loose {p m : Nat} {og cf : Value} {c : Cfg} {S : List Nat} {l : List UInt8} {w : World} (h : BW p m og cf c S l w) (cx : Value) (nm : List UInt8) (t seq : Int) (hs : nm.length ≤ 2147483647) (hlim : l.length + nm.length + 32 ≤ 140737488355328) (hc : c.strictW = false) :
    Calls Tryz.prog 221 #[.pointer (some ⟨p, 0, none⟩), cx, strV nm, .int .i32 t, .int .i32 seq] w (Did (BW p m og cf c) S w (l ++ (bText nm ++ [u8 t] ++ be 4 seq), 0)) := by
  have HI := Lib.hid h
  obtain ⟨b, g, sc, K, rfl, hp, hm, hC, hpm, hpb, hpg, hK⟩ := h
  have c2 : w.cell? ⟨p, 2, none⟩ = some cf := by rw [hp.cells]; rfl
  have hW := cfg_strictW hC
  rw [hc] at hW
  have HW := Lib.hid hW
  clear hW hp hm hC hK hpm hpb hpg
  go_enter Tryz.func221, Tryz.ntmps221
  go_wp2_with (fail)
  ((with_reducible refine HW.out.mono ?_); rintro e w' ⟨rfl, rfl⟩)
  go_wp2_with (fail)
  ((with_reducible refine (bw_str HI.out _ nm hs (by omega)).mono ?_); rintro e W1 ⟨ev, S1, rfl, he, h1, s1⟩)
  obtain rfl := he.zero
  clear he
  go_wp2_with (fail)
  refine (bw_byte h1 _ _ (by simp [bText, be_length]; omega)).mono ?_
  rintro e W2 ⟨ev, S2, rfl, he, h2, s2⟩
  obtain rfl := he.zero
  clear he
  go_wp2_with (fail)
  ((with_reducible refine (bw_i32 h2 _ _ (by simp [bText, be_length]; omega)).mono ?_); rintro e W3 ⟨ev, S3, rfl, he, h3, s3⟩)
  obtain rfl := he.zero
  clear he
  go_wp2
  go_ret
  refine ⟨_, _, rfl, IsErr.nil _, ?_, s1.trans (s2.trans s3)⟩
  simpa [List.append_assoc, u8_mod] using h3

theorem verOf (t : Int) : be 4 (IntKind.i32.wrap (bits .or .u32 2147549184 (t % 4294967296))) = be 4 ((2147549184 ||| (t % 4294967296).toNat : Nat) : Int) := by
  rw [be4_mod]
  congr 1
  have h := (bits_nat .u32 32 (by decide) (fun n h0 h1 => by rw [IntKind.wrap_u32]; omega) 2147549184 (t % 4294967296).toNat (by omega) (by omega)).2
  have e : (((t % 4294967296).toNat : Nat) : Int) = t % 4294967296 := by omega
  rw [e] at h
  exact h

set_option maxRecDepth 100000 in
set_option maxHeartbeats 1000000 in
theorem bw_msgB_strict {p m : Nat} {og cf : Value} {c : Cfg} {S : List Nat} {l : List UInt8} {w : World} (h : BW p m og cf c S l w) (cx : Value) (nm : List UInt8) (t seq : Int) (hs : nm.length ≤ 2147483647) (hlim : l.length + nm.length + 32 ≤ 140737488355328) (hc : c.strictW = true) :
    Calls Tryz.prog 221 #[.pointer (some ⟨p, 0, none⟩), cx, strV nm, .int .i32 t, .int .i32 seq] w (Did (BW p m og cf c) S w (l ++ (be 4 ((2147549184 ||| (t % 4294967296).toNat : Nat) : Int) ++ bText nm ++ be 4 seq), 0)) := by
  have HI := Lib.hid h
  obtain ⟨b, g, sc, K, rfl, hp, hm, hC, hpm, hpb, hpg, hK⟩ := h
  have c2 : w.cell? ⟨p, 2, none⟩ = some cf := by rw [hp.cells]; rfl
  have hW := cfg_strictW hC
  rw [hc] at hW
  have HW := Lib.hid hW
  have HV := Lib.hid (verOf t)
  clear hW hp hm hC hK hpm hpb hpg
  go_enter Tryz.func221, Tryz.ntmps221
  go_wp2_with (fail)
  ((with_reducible refine HW.out.mono ?_); rintro e w' ⟨rfl, rfl⟩)
  go_wp2_with (fail)
  ((with_reducible refine (bw_i32 HI.out _ _ (by omega)).mono ?_); rintro e W0 ⟨ev, S0, rfl, he, h0, s0⟩)
  obtain rfl := he.zero
  clear he
  have h0' : BW p m og cf c S0 (l ++ be 4 ((2147549184 ||| (t % 4294967296).toNat : Nat) : Int)) W0 := by
    first
      | (rw [← HV.out]; exact h0)
      | (have e1 := HV.out; rw [be4_mod] at e1; rw [← e1, ← be4_w32]; exact h0)
  clear h0
  go_wp2_with (fail)
  ((with_reducible refine (bw_str h0' _ nm hs (by simp [be_length]; omega)).mono ?_); rintro e W1 ⟨ev, S1, rfl, he, h1, s1⟩)
  obtain rfl := he.zero
  clear he
  go_wp2_with (fail)
  ((with_reducible refine (bw_i32 h1 _ _ (by simp [bText, be_length]; omega)).mono ?_); rintro e W3 ⟨ev, S3, rfl, he, h3, s3⟩)
  obtain rfl := he.zero
  clear he
  go_wp2
  go_ret
  refine ⟨_, _, rfl, IsErr.nil _, ?_, s0.trans (s1.trans s3)⟩
  simpa [List.append_assoc] using h3

end Go.Proofs.YtnpiheoglilcbaaGreatDoor

/-! The compact protocol over a memory buffer: what it keeps; a byte, a number, a text is written. Printed by a program (wip/tools/cw.py). -/
namespace Go.Proofs.YtnpiheoglilcbaaGreatDoor
open Go.RowKit Go.Deep
set_option linter.unusedVariables false
set_option linter.unusedSimpArgs false

/-- What a compact protocol keeps, in plain words. -/
structure CSt where
  stk : List Int
  last : Int
  pend : Bool
  pid : Int
  bv : Bool
  bn : Bool

/-- The fields' ids of the structs around: a row of the protocol's own, or none yet (r = p). -/
def StkAt (r p : Nat) (v : Value) (xs : List Int) (w : World) : Prop :=
  (v = .slice none 0 0 ∧ xs = [] ∧ r = p) ∨
    ∃ cap cur, v = .slice (some ⟨r, 0, none⟩) xs.length cap ∧ w.heap[r]? = some (.cells cur 3 (0, 0)) ∧ cur.size = cap ∧ xs.length ≤ cap ∧ cap ≤ maxLen ∧ cur.toList.take xs.length = xs.map (Value.int .i64) ∧ r ≠ p

theorem StkAt.step {r p : Nat} {v : Value} {xs : List Int} {w : World} (h : StkAt r p v xs w) {T U : List Nat} {w1 : World} (hs : Step T U w w1) (hn : r ≠ p → r ∉ T) : StkAt r p v xs w1 := by
  rcases h with h | ⟨cap, cur, h1, h2, h3, h4, h5, h6, h7⟩
  · exact .inl h
  · exact .inr ⟨cap, cur, h1, (hs.block r (lt_heap h2) (hn h7)).trans h2, h3, h4, h5, h6, h7⟩

theorem StkAt.lt {r p : Nat} {v : Value} {xs : List Int} {w : World} (h : StkAt r p v xs w) (hp : p < w.heap.size) : r < w.heap.size := by
  rcases h with ⟨_, _, rfl⟩ | ⟨cap, cur, h1, h2, _⟩
  · exact hp
  · exact lt_heap h2

/-- Block p is a compact protocol over the memory buffer m. -/
def CP (p m : Nat) (og cf : Value) (c : Cfg) (off : Nat) (S : List Nat) (st : CSt) (l : List UInt8) (w : World) : Prop :=
  ∃ b g r K lf nm sc, S = p :: m :: b :: g :: r :: K ∧ Cmp p (memV m) og cf ⟨lf, st.last, nm, st.pid, st.pend, st.bv, st.bn⟩ sc w ∧ Mem m b g off (Lib.byteCells l) w ∧ CfgAt c cf K w ∧ StkAt r p lf st.stk w ∧
    (p ≠ m ∧ p ≠ b ∧ p ≠ g) ∧ (r ≠ m ∧ r ≠ b ∧ r ≠ g) ∧ ∀ k, k ∈ K → k ≠ p ∧ k ≠ b ∧ k ≠ g ∧ k ≠ r

theorem CP.step {p m : Nat} {og cf : Value} {c : Cfg} {off : Nat} {S : List Nat} {st : CSt} {l : List UInt8} {w : World} (h : CP p m og cf c off S st l w) {T U : List Nat} {w1 : World} (hs : Step T U w w1) (hn : ∀ k, k ∈ S → k ∉ T) : CP p m og cf c off S st l w1 := by
  obtain ⟨b, g, r, K, lf, nm, sc, rfl, hp, hm, hc, hk, rest⟩ := h
  exact ⟨b, g, r, K, lf, nm, sc, rfl, hp.step hs (hn _ (by simp)), hm.step hs (hn _ (by simp)) (hn _ (by simp)) (hn _ (by simp)), hc.step hs (fun k hk => hn k (by simp [hk])), hk.step hs (fun _ => hn _ (by simp)), rest⟩

theorem CP.lt {p m : Nat} {og cf : Value} {c : Cfg} {off : Nat} {S : List Nat} {st : CSt} {l : List UInt8} {w : World} (h : CP p m og cf c off S st l w) : ∀ k, k ∈ S → k < w.heap.size := by
  obtain ⟨b, g, r, K, lf, nm, sc, rfl, hp, hm, hc, hk, rest⟩ := h
  intro k hk'
  simp only [List.mem_cons] at hk'
  rcases hk' with rfl | rfl | rfl | rfl | rfl | hk'
  · exact hp.lt
  · exact hm.lt
  · exact hm.2.2.2.lt.1
  · exact hm.2.2.2.lt.2
  · exact hk.lt hp.lt
  · exact hc.lt k hk'

theorem ownC {p m b g g1 r : Nat} {K : List Nat} {w w1 : World} (hs : Step [p, b, g] [p, b, g1] w w1) : Step (p :: m :: b :: g :: r :: K) (p :: m :: b :: g1 :: r :: K) w w1 := by
  refine ⟨hs.os, hs.tape, hs.output, hs.size, fun k hk hn => hs.block k hk (fun e => hn ?_), fun k hk => ?_⟩
  · simp only [List.mem_cons, List.not_mem_nil, or_false] at e ⊢
    rcases e with rfl | rfl | rfl <;> simp
  · simp only [List.mem_cons] at hk ⊢
    rcases hk with rfl | rfl | rfl | rfl | rfl | hk
    · simp
    · simp
    · simp
    · rcases hs.own k (by simp) with hh | hh
      · simp only [List.mem_cons, List.not_mem_nil, or_false] at hh
        rcases hh with rfl | rfl | rfl <;> simp
      · exact .inr hh
    · simp
    · simp [hk]

theorem with_p {p b g g1 : Nat} {w w1 : World} (hs : Step [b, g] [b, g1] w w1) : Step [p, b, g] [p, b, g1] w w1 :=
  hs.more (by simp) (fun k hk => by
    simp only [List.mem_cons, List.not_mem_nil, or_false] at hk ⊢
    omega)

theorem ne_of_types {w : World} {a b : Nat} {c1 c2 : Array Value} {t1 t2 : TypeId} {f1 f2 : Nat × Nat} (h1 : w.heap[a]? = some (.cells c1 t1 f1)) (h2 : w.heap[b]? = some (.cells c2 t2 f2)) (ht : t1 ≠ t2) : a ≠ b := by
  rintro rfl
  rw [h1] at h2
  injection h2 with h2
  injection h2 with _ h2
  exact ht h2

theorem Cmp.ne_row {p m b g off : Nat} {tr og cf : Value} {s : CS} {sc bs : List Value} {w : World} (hp : Cmp p tr og cf s sc w) (hm : Mem m b g off bs w) : p ≠ g := by
  obtain ⟨_, _, _, lr, ⟨h1, rfl, _⟩ | ⟨cap, cur, h1, _, h2, _⟩⟩ := hm
  · exact ne_of_types hp.1 h1 (by decide)
  · exact ne_of_types hp.1 h2 (by decide)

/-- What was written is behind the rest (the protocol's own cells may have turned with it). -/
theorem CP.wrote {p m b g g1 r : Nat} {og cf lf nm : Value} {c : Cfg} {K : List Nat} {st : CSt} {sc : List Value} {l1 : List UInt8} {w w1 : World} (hlt : p < w.heap.size) (hC : CfgAt c cf K w) (hk : StkAt r p lf st.stk w) (hd : p ≠ m ∧ p ≠ b ∧ p ≠ g) (hr : r ≠ m ∧ r ≠ b ∧ r ≠ g) (hK : ∀ k, k ∈ K → k ≠ p ∧ k ≠ b ∧ k ≠ g ∧ k ≠ r)
    (hp : Cmp p (memV m) og cf ⟨lf, st.last, nm, st.pid, st.pend, st.bv, st.bn⟩ sc w1) (hM : Mem m b g1 0 (Lib.byteCells l1) w1) (hs : Step [p, b, g] [p, b, g1] w w1) (hpg1 : p ≠ g1) : CP p m og cf c 0 (p :: m :: b :: g1 :: r :: K) st l1 w1 := by
  have hrl := hk.lt hlt
  have hg1 : g1 = p ∨ g1 = b ∨ g1 = g ∨ w.heap.size ≤ g1 := by
    rcases hs.own g1 (by simp) with hh | hh
    · simp only [List.mem_cons, List.not_mem_nil, or_false] at hh
      omega
    · omega
  refine ⟨b, g1, r, K, lf, nm, sc, rfl, hp, hM, hC.step hs (fun k hk => by have := hK k hk; simp [this]), hk.step hs (fun h => by simp [h, hr]), ⟨hd.1, hd.2.1, hpg1⟩, ⟨hr.1, hr.2.1, ?_⟩, fun k hk => ⟨(hK k hk).1, (hK k hk).2.1, ?_, (hK k hk).2.2.2⟩⟩
  · by_cases hrp : r = p
    · rw [hrp]; exact hpg1
    · omega
  · have h1 := hC.lt k hk
    have h2 := hK k hk
    omega

/-- The same, where its own cells stay. -/
theorem CP.wrote0 {p m b g g1 r : Nat} {og cf lf nm : Value} {c : Cfg} {K : List Nat} {st : CSt} {sc : List Value} {l1 : List UInt8} {w w1 : World} (hp : Cmp p (memV m) og cf ⟨lf, st.last, nm, st.pid, st.pend, st.bv, st.bn⟩ sc w) (hC : CfgAt c cf K w) (hk : StkAt r p lf st.stk w) (hd : p ≠ m ∧ p ≠ b ∧ p ≠ g) (hr : r ≠ m ∧ r ≠ b ∧ r ≠ g) (hK : ∀ k, k ∈ K → k ≠ p ∧ k ≠ b ∧ k ≠ g ∧ k ≠ r)
    (hM : Mem m b g1 0 (Lib.byteCells l1) w1) (hs : Step [b, g] [b, g1] w w1) : CP p m og cf c 0 (p :: m :: b :: g1 :: r :: K) st l1 w1 := by
  refine CP.wrote hp.lt hC hk hd hr hK (hp.step hs (by simp [hd])) hM (with_p hs) ?_
  have hl := hp.lt
  rcases hs.own g1 (by simp) with hh | hh
  · simp only [List.mem_cons, List.not_mem_nil, or_false] at hh
    omega
  · omega


/-- What a call of a compact protocol leaves. -/
abbrev CIs (p m : Nat) (og cf : Value) (c : Cfg) : List Nat → CSt × List UInt8 → World → Prop := fun S r w => CP p m og cf c 0 S r.1 r.2 w

set_option maxRecDepth 100000 in
set_option maxHeartbeats 1000000 in
theorem cp_direct {p m : Nat} {og cf : Value} {c : Cfg} {S : List Nat} {st : CSt} {l : List UInt8} {w : World} (h : CP p m og cf c 0 S st l w) (x : UInt8) (hlim : l.length + 1 ≤ 140737488355328) :
    Calls Tryz.prog 168 #[.pointer (some ⟨p, 0, none⟩), .int .u8 x.toNat] w (Did (CIs p m og cf c) S w ((st, l ++ [x]), 0)) := by
  obtain ⟨b, g, r, K, lf, nm, sc, rfl, hp, hm, hC, hk, hd, hr, hK⟩ := h
  have c0 : w.cell? ⟨p, 0, none⟩ = some (memV m) := by rw [hp.cells]; rfl
  have cm := hm.cell
  have hmeth := mem_WriteByte
  have HP := Lib.hid hp
  have HM := Lib.hid hm
  clear hp hm
  go_enter Tryz.func168, Tryz.ntmps168
  go_wp2_with (go_at_call 90; refine (buf_writeByte b g _ _ _ HM.out.2.2.2 (Lib.byteCells_one _) (by rw [Lib.byteCells_length]; exact hlim)).mono ?_)
  rintro e W1 ⟨rfl, g1, hB, hs⟩
  go_wp2
  go_ret
  refine ⟨_, _, rfl, IsErr.nil _, CP.wrote0 HP.out hC hk hd hr hK ?_ hs, ownC (with_p hs)⟩
  have := HM.out.turn hB hs
  rw [Lib.byteCells_append]
  exact this

theorem cp_varint32 {p m : Nat} {og cf : Value} {c : Cfg} {S : List Nat} {st : CSt} {l : List UInt8} {w : World} (h : CP p m og cf c 0 S st l w) (n : Int) (N : Nat) (hn : n % 4294967296 = N) (hlim : l.length + 5 ≤ 140737488355328) :
    Calls Tryz.prog 166 #[.pointer (some ⟨p, 0, none⟩), .int .i32 n] w fun e w' => (∃ k, e = .returned (.tuple #[.int .i64 k, .nilIface])) ∧ ∃ S', CP p m og cf c 0 S' st (l ++ Lib.uvarint N) w' ∧ Step S S' w w' := by
  obtain ⟨b, g, r, K, lf, nm, sc, rfl, hp, hm, hC, hk, hd, hr, hK⟩ := h
  refine (cmp_writeVarint32 p m b g og cf _ sc l n N w hp hm hd.1 hd.2.1 hd.2.2 hn hlim).mono ?_
  rintro e w' ⟨rfl, g1, sc1, hp1, hm1, hs⟩
  exact ⟨⟨_, rfl⟩, _, CP.wrote hp.lt hC hk hd hr hK hp1 hm1 hs (hp1.ne_row hm1), ownC hs⟩


theorem cp_varint64 {p m : Nat} {og cf : Value} {c : Cfg} {S : List Nat} {st : CSt} {l : List UInt8} {w : World} (h : CP p m og cf c 0 S st l w) (n : Int) (N : Nat) (hn : n % 18446744073709551616 = N) (hlim : l.length + 10 ≤ 140737488355328) :
    Calls Tryz.prog 170 #[.pointer (some ⟨p, 0, none⟩), .int .i64 n] w fun e w' => (∃ k, e = .returned (.tuple #[.int .i64 k, .nilIface])) ∧ ∃ S', CP p m og cf c 0 S' st (l ++ Lib.uvarint N) w' ∧ Step S S' w w' := by
  obtain ⟨b, g, r, K, lf, nm, sc, rfl, hp, hm, hC, hk, hd, hr, hK⟩ := h
  refine (cmp_writeVarint64 p m b g og cf _ sc l n N w hp hm hd.1 hd.2.1 hd.2.2 hn hlim).mono ?_
  rintro e w' ⟨rfl, g1, sc1, hp1, hm1, hs⟩
  exact ⟨⟨_, rfl⟩, _, CP.wrote hp.lt hC hk hd hr hK hp1 hm1 hs (hp1.ne_row hm1), ownC hs⟩

set_option maxRecDepth 100000 in
set_option maxHeartbeats 1000000 in
theorem cp_byte {p m : Nat} {og cf : Value} {c : Cfg} {S : List Nat} {st : CSt} {l : List UInt8} {w : World} (h : CP p m og cf c 0 S st l w) (cx : Value) (x : Int) (hlim : l.length + 1 ≤ 140737488355328) :
    Calls Tryz.prog 128 #[.pointer (some ⟨p, 0, none⟩), cx, .int .i8 x] w (Did (CIs p m og cf c) S w ((st, l ++ [u8 x]), 0)) := by
  have e1 : x % 256 = ((u8 x).toNat : Int) := by
    unfold u8
    show x % 256 = (((x % 256).toNat % 256 : Nat) : Int)
    omega
  have H1 := Lib.hid e1
  clear e1
  go_enter Tryz.func128, Tryz.ntmps128
  go_wp2_with (fail)
  rw [H1.out]
  refine (cp_direct h _ hlim).mono ?_
  rintro e W1 ⟨ev, S1, rfl, he, h1, s1⟩
  obtain rfl := he.zero
  go_wp2_with (first | (go_at_call 149; go_in))
  go_ret
  exact ⟨_, _, rfl, IsErr.nil _, h1, s1⟩


set_option maxRecDepth 100000 in
set_option maxHeartbeats 2000000 in
theorem cp_i16 {p m : Nat} {og cf : Value} {c : Cfg} {S : List Nat} {st : CSt} {l : List UInt8} {w : World} (h : CP p m og cf c 0 S st l w) (cx : Value) (x : Int) (h0 : -32768 ≤ x) (h1 : x < 32768) (hlim : l.length + 5 ≤ 140737488355328) :
    Calls Tryz.prog 133 #[.pointer (some ⟨p, 0, none⟩), cx, .int .i16 x] w (Did (CIs p m og cf c) S w ((st, l ++ Lib.uvarint (Lib.zigzag x)), 0)) := by
  obtain ⟨hz, hz2⟩ := i32_zigzag x (by omega) (by omega)
  have hn : (bits .xor .i32 (x * 2) (x / 2147483648)) % 4294967296 = (Lib.zigzag x : Nat) := by
    have e : x * 2 = IntKind.i32.wrap (x * 2) := by rw [IntKind.wrap_i32]; omega
    rw [e, hz, IntKind.wrap_i32]
    omega
  have hW := cp_varint32 h _ _ hn hlim
  have HW := Lib.hid hW
  clear hW hn hz hz2
  go_enter Tryz.func133, Tryz.ntmps133
  go_wp2_with (first | (go_at_call 148; go_in))
  refine HW.out.mono ?_
  rintro e W1 ⟨⟨k1, rfl⟩, S1, h1, s1⟩
  go_wp2_with (first | (go_at_call 149; go_in))
  go_ret
  exact ⟨_, _, rfl, IsErr.nil _, h1, s1⟩


set_option maxRecDepth 100000 in
set_option maxHeartbeats 2000000 in
theorem cp_i32 {p m : Nat} {og cf : Value} {c : Cfg} {S : List Nat} {st : CSt} {l : List UInt8} {w : World} (h : CP p m og cf c 0 S st l w) (cx : Value) (x : Int) (h0 : -2147483648 ≤ x) (h1 : x < 2147483648) (hlim : l.length + 5 ≤ 140737488355328) :
    Calls Tryz.prog 134 #[.pointer (some ⟨p, 0, none⟩), cx, .int .i32 x] w (Did (CIs p m og cf c) S w ((st, l ++ Lib.uvarint (Lib.zigzag x)), 0)) := by
  obtain ⟨hz, hz2⟩ := i32_zigzag x (by omega) (by omega)
  have hn : (bits .xor .i32 (wrap32 (x * 2)) (x / 2147483648)) % 4294967296 = (Lib.zigzag x : Nat) := by
    have e : wrap32 (x * 2) = IntKind.i32.wrap (x * 2) := by rw [IntKind.wrap_i32]; unfold wrap32; omega
    rw [e, hz, IntKind.wrap_i32]
    omega
  have hW := cp_varint32 h _ _ hn hlim
  have HW := Lib.hid hW
  clear hW hn hz hz2
  go_enter Tryz.func134, Tryz.ntmps134
  go_wp2_with (first | (go_at_call 148; go_in))
  refine HW.out.mono ?_
  rintro e W1 ⟨⟨k1, rfl⟩, S1, h1, s1⟩
  go_wp2_with (first | (go_at_call 149; go_in))
  go_ret
  exact ⟨_, _, rfl, IsErr.nil _, h1, s1⟩


set_option maxRecDepth 100000 in
set_option maxHeartbeats 2000000 in
theorem cp_i64 {p m : Nat} {og cf : Value} {c : Cfg} {S : List Nat} {st : CSt} {l : List UInt8} {w : World} (h : CP p m og cf c 0 S st l w) (cx : Value) (x : Int) (h0 : -9223372036854775808 ≤ x) (h1 : x < 9223372036854775808) (hlim : l.length + 10 ≤ 140737488355328) :
    Calls Tryz.prog 135 #[.pointer (some ⟨p, 0, none⟩), cx, .int .i64 x] w (Did (CIs p m og cf c) S w ((st, l ++ Lib.uvarint (Lib.zigzag x)), 0)) := by
  obtain ⟨hz, hz2⟩ := i64_zigzag x (by omega) (by omega)
  have hn : (bits .xor .i64 (wrap64 (x * 2)) (x / 9223372036854775808)) % 18446744073709551616 = (Lib.zigzag x : Nat) := by
    have e : wrap64 (x * 2) = IntKind.i64.wrap (x * 2) := by rw [IntKind.wrap_i64]; unfold wrap64; omega
    rw [e, hz, IntKind.wrap_i64]
    omega
  have hW := cp_varint64 h _ _ hn hlim
  have HW := Lib.hid hW
  clear hW hn hz hz2
  go_enter Tryz.func135, Tryz.ntmps135
  go_wp2_with (first | (go_at_call 171; go_in))
  refine HW.out.mono ?_
  rintro e W1 ⟨⟨k1, rfl⟩, S1, h1, s1⟩
  go_wp2_with (first | (go_at_call 149; go_in))
  go_ret
  exact ⟨_, _, rfl, IsErr.nil _, h1, s1⟩


set_option maxRecDepth 100000 in
set_option maxHeartbeats 2000000 in
theorem cp_str {p m : Nat} {og cf : Value} {c : Cfg} {S : List Nat} {st : CSt} {l : List UInt8} {w : World} (h : CP p m og cf c 0 S st l w) (cx : Value) (s : List UInt8) (hs : s.length ≤ 2147483647) (hlim : l.length + 5 + s.length ≤ 140737488355328) :
    Calls Tryz.prog 144 #[.pointer (some ⟨p, 0, none⟩), cx, strV s] w (Did (CIs p m og cf c) S w ((st, l ++ cText s), 0)) := by
  have hsz : (⟨s.toArray⟩ : ByteArray).size = s.length := by show s.toArray.size = _; simp
  have HZ := Lib.hid hsz
  have hw : IntKind.i32.wrap (s.length : Int) = s.length := by rw [IntKind.wrap_i32]; omega
  have HV := Lib.hid (cp_varint32 h (s.length : Int) s.length (by omega) (by omega))
  have hlen : (Lib.uvarint s.length).length ≤ 5 := Lib.uvarint_length 4 _ (by omega)
  have HLE := Lib.hid hlen
  clear hsz hlen
  by_cases h0 : s.length = 0
  · obtain rfl : s = [] := List.length_eq_zero_iff.1 h0
    go_enter Tryz.func144, Tryz.ntmps144
    go_wp2_with (fail)
    refine HV.out.mono ?_
    rintro e W1 ⟨⟨k1, rfl⟩, S1, h1, s1⟩
    go_wp2
    go_ret
    exact ⟨_, _, rfl, IsErr.nil _, by simpa [cText] using h1, s1⟩
  · have h0' : ((s.length : Int) == 0) = false := by simpa using h0
    go_enter Tryz.func144, Tryz.ntmps144
    go_wp2_with (fail)
    have e1 : ((⟨s.toArray⟩ : ByteArray).size : Int) = s.length := by rw [HZ.out]
    refine HV.out.mono ?_
    rintro e W1 ⟨⟨k1, rfl⟩, S1, h1, s1⟩
    obtain ⟨b, g, r, K, lf, nm, sc, rfl, hp, hm, hC, hk, hd, hr, hK⟩ := h1
    have c0 : W1.cell? ⟨p, 0, none⟩ = some (memV m) := by rw [hp.cells]; rfl
    have cm := hm.cell
    have hmeth := mem_WriteString
    have HP := Lib.hid hp
    clear hp
    go_wp2_with (go_at_call 91; refine (mem_writeString m b g _ s _ hm (by simp only [List.length_append]; have := HLE.out; omega)).mono ?_)
    rintro e W2 ⟨⟨n2, rfl⟩, g1, hM, s2⟩
    go_wp2
    go_ret
    refine ⟨_, _, rfl, IsErr.nil _, ?_, s1.trans (ownC (with_p s2))⟩
    have hw := CP.wrote0 HP.out hC hk hd hr hK hM s2
    rw [List.append_assoc] at hw
    exact hw

theorem cp_uuid {p m : Nat} {og cf : Value} {c : Cfg} {S : List Nat} {st : CSt} {l : List UInt8} {w : World} (h : CP p m og cf c 0 S st l w) (cx : Value) (s : List UInt8) (hs : s.length = 16) (hlim : l.length + 16 ≤ 140737488355328) :
    Calls Tryz.prog 147 #[.pointer (some ⟨p, 0, none⟩), cx, .agg (Lib.byteCells s).toArray] w (Did (CIs p m og cf c) S w ((st, l ++ s), 0)) := by
  obtain ⟨b, g, r, K, lf, nm, sc, rfl, hp, hm, hC, hk, hd, hr, hK⟩ := h
  have hst : ∀ o, Step [] [] w (w.alloc o) := fun o => (Step.refl _ _).alloc o
  have hp1 : ∀ o, Cmp p (memV m) og cf ⟨lf, st.last, nm, st.pid, st.pend, st.bv, st.bn⟩ sc (w.alloc o) := fun o => hp.alloc o
  have hm1 : ∀ o, Mem m b g 0 (Lib.byteCells l) (w.alloc o) := fun o => hm.alloc o
  have hC1 : ∀ o, CfgAt c cf K (w.alloc o) := fun o => hC.step (hst o) (by simp)
  have hk1 : ∀ o, StkAt r p lf st.stk (w.alloc o) := fun o => hk.step (hst o) (by simp)
  have c0 : ∀ o, (w.alloc o).cell? ⟨p, 0, none⟩ = some (memV m) := fun o => by rw [(hp1 o).cells]; rfl
  have cm : ∀ o, (w.alloc o).cell? ⟨m, 0, none⟩ = some (.pointer (some ⟨b, 0, none⟩)) := fun o => (hm1 o).cell
  have hmeth := mem_Write
  have hb := hm.2.2.2.lt
  have HP := Lib.hid hp1
  have HM := Lib.hid hm1
  have HC := Lib.hid hC1
  have HK := Lib.hid hk1
  have HS := Lib.hid hs
  clear hp1 hm1 hC1 hk1 hs hp hm hC hk hst
  go_enter Tryz.func147, Tryz.ntmps147
  have hsrc : ∀ o, o = Obj.cells (Lib.byteCells s).toArray 109 (0, 0) → ∀ a, some (⟨w.heap.size, 0, none⟩ : Addr) = some a → (a.block ≠ b ∧ a.block ≠ g ∧ a.block < (w.alloc o).drew.heap.size) ∧ ∀ j v, (Lib.byteCells s)[j]? = some v → (w.alloc o).drew.cell? (a.add j) = some v := by
    rintro o rfl a ha
    cases ha
    refine ⟨⟨by show w.heap.size ≠ b; omega, by show w.heap.size ≠ g; omega, by show w.heap.size < _; simp⟩, fun j v hj => ?_⟩
    rw [Lib.addr_add, World.cell?_drew, cell_heap (heap_alloc_new _ _)]
    simpa using hj
  have HSR := Lib.hid hsrc
  clear hsrc
  go_wp2_with (fail)
  go_region_with ((go_at_call 55; refine (mem_writeBytes m b g 16 16 (some ⟨w.heap.size, 0, none⟩) l s _ ?_ HS.out ?_ (by simp) hlim).mono ?_; exact HM.out _; exact HSR.out _ rfl; rintro e W2 ⟨⟨n2, rfl⟩, g1, hM, s2⟩))
  go_wp2
  go_ret
  exact ⟨_, _, rfl, IsErr.nil _, CP.wrote0 (HP.out _) (HC.out _) (HK.out _) hd hr hK hM s2.undrew, ((Step.refl _ _).alloc _).trans (ownC (with_p s2.undrew))⟩

end Go.Proofs.YtnpiheoglilcbaaGreatDoor

/-! The number of a type in the compact protocol, as the table has it. -/
namespace Go.Proofs.YtnpiheoglilcbaaGreatDoor
open Go.RowKit Go.Deep
set_option linter.unusedVariables false
set_option linter.unusedSimpArgs false

/-- A new key is stored into the table. -/
theorem ct_insert {w : World} {r : Nat} {es : Array MapEntry} {clock : Nat} (x : Int) (v : Value) (hb : w.heap[r]? = some (.map es clock)) (hf : Instr.findNow (.int .u8) (.int .u8 x) es.toList 0 = some none) :
    ∃ w1, (Instr.mapUpdate 285 (.map (some r)) (.int .u8 x) v).run Tryz.prog w = .ok () w1 ∧ w1.heap[r]? = some (.map (es.push { key := .int .u8 x, val := v, born := clock }) (clock + 1)) ∧ Step [r] [r] w w1 := by
  have hk : MapKept.IsKey (.int .u8) (.int .u8 x) := rfl
  refine ⟨{ w with heap := w.heap.setIfInBounds r (.map (es.push { key := .int .u8 x, val := v, born := clock }) (clock + 1)) }, ?_, (MapKept.heap_set hb).1, ⟨rfl, rfl, rfl, by simp, fun k hk hn => ?_, fun _ h => .inl h⟩⟩
  · simp [Instr.mapUpdate, run_underlying Tryz.underlying285, MapKept.run_getObj_map hb, MapKept.run_checkKey Tryz.underlying68 hk, MapKept.run_findKey Tryz.underlying68 hf, MapKept.run_setObj_map _ hb, Result.andThen]
  · exact (MapKept.heap_set hb).2 k (by simpa using hn)

theorem ct_hit {w : World} {r : Nat} {es : Array MapEntry} {clock i : Nat} (x : Int) (v : Value) (hb : w.heap[r]? = some (.map es clock)) (hf : Instr.findNow (.int .u8) (.int .u8 x) es.toList 0 = some (some (i, v))) :
    (Instr.lookup 285 (.map (some r)) (.int .u8 x) false).run Tryz.prog w = .ok v w := by
  have hk : MapKept.IsKey (.int .u8) (.int .u8 x) := rfl
  simp [Instr.lookup, run_underlying Tryz.underlying285, MapKept.run_getObj_map hb, MapKept.run_checkKey Tryz.underlying68 hk, MapKept.run_findKey Tryz.underlying68 hf, Result.andThen]

theorem ct_miss {w : World} {r : Nat} {es : Array MapEntry} {clock : Nat} (x : Int) (hb : w.heap[r]? = some (.map es clock)) (hf : Instr.findNow (.int .u8) (.int .u8 x) es.toList 0 = some none) :
    (Instr.lookup 285 (.map (some r)) (.int .u8 x) false).run Tryz.prog w = .ok (.int .u8 0) w := by
  have hk : MapKept.IsKey (.int .u8) (.int .u8 x) := rfl
  have hz : (zeroValue 254).run Tryz.prog w = .ok (.int .u8 0) w := by kernel_rfl
  simp [Instr.lookup, run_underlying Tryz.underlying285, MapKept.run_getObj_map hb, MapKept.run_checkKey Tryz.underlying68 hk, MapKept.run_findKey Tryz.underlying68 hf, hz, Result.andThen]

def ctTab : Array MapEntry := #[{ key := .int .u8 0, val := .int .u8 0, born := 0 }, { key := .int .u8 2, val := .int .u8 1, born := 1 }, { key := .int .u8 3, val := .int .u8 3, born := 2 }, { key := .int .u8 6, val := .int .u8 4, born := 3 }, { key := .int .u8 8, val := .int .u8 5, born := 4 }, { key := .int .u8 10, val := .int .u8 6, born := 5 }, { key := .int .u8 4, val := .int .u8 7, born := 6 }, { key := .int .u8 11, val := .int .u8 8, born := 7 }, { key := .int .u8 15, val := .int .u8 9, born := 8 }, { key := .int .u8 14, val := .int .u8 10, born := 9 }, { key := .int .u8 13, val := .int .u8 11, born := 10 }, { key := .int .u8 12, val := .int .u8 12, born := 11 }, { key := .int .u8 16, val := .int .u8 13, born := 12 }]

set_option maxRecDepth 100000 in
set_option maxHeartbeats 4000000 in
theorem ct_table (w : World) : Calls Tryz.prog 180 #[] w fun e w' => ∃ r clock, e = .returned (.map (some r)) ∧ w.heap.size ≤ r ∧ w'.heap[r]? = some (.map ctTab clock) ∧ Below w.heap.size w w' := by
  have hmm := @run_makeMap Tryz.prog
  have g0 := heap_alloc_new w (.map #[] 0)
  obtain ⟨W1, u1, g1, s1⟩ := ct_insert 0 (.int .u8 0) g0 (by rfl)
  obtain ⟨W2, u2, g2, s2⟩ := ct_insert 2 (.int .u8 1) g1 (by rfl)
  obtain ⟨W3, u3, g3, s3⟩ := ct_insert 3 (.int .u8 3) g2 (by rfl)
  obtain ⟨W4, u4, g4, s4⟩ := ct_insert 6 (.int .u8 4) g3 (by rfl)
  obtain ⟨W5, u5, g5, s5⟩ := ct_insert 8 (.int .u8 5) g4 (by rfl)
  obtain ⟨W6, u6, g6, s6⟩ := ct_insert 10 (.int .u8 6) g5 (by rfl)
  obtain ⟨W7, u7, g7, s7⟩ := ct_insert 4 (.int .u8 7) g6 (by rfl)
  obtain ⟨W8, u8, g8, s8⟩ := ct_insert 11 (.int .u8 8) g7 (by rfl)
  obtain ⟨W9, u9, g9, s9⟩ := ct_insert 15 (.int .u8 9) g8 (by rfl)
  obtain ⟨W10, u10, g10, s10⟩ := ct_insert 14 (.int .u8 10) g9 (by rfl)
  obtain ⟨W11, u11, g11, s11⟩ := ct_insert 13 (.int .u8 11) g10 (by rfl)
  obtain ⟨W12, u12, g12, s12⟩ := ct_insert 12 (.int .u8 12) g11 (by rfl)
  obtain ⟨W13, u13, g13, s13⟩ := ct_insert 16 (.int .u8 13) g12 (by rfl)
  have hs : Step [w.heap.size] [w.heap.size] (w.alloc (.map #[] 0)) W13 := ((((((((((((s1.trans s2).trans s3).trans s4).trans s5).trans s6).trans s7).trans s8).trans s9).trans s10).trans s11).trans s12).trans s13)
  have hB : Below w.heap.size w W13 := ((Below.refl w.heap.size w).alloc (Nat.le_refl _) _).trans (hs.below _ (by simp) (by simp))
  have HG := Lib.hid g13
  have HB := Lib.hid hB
  clear g0 g1 g2 g3 g4 g5 g6 g7 g8 g9 g10 g11 g12 g13 s1 s2 s3 s4 s5 s6 s7 s8 s9 s10 s11 s12 s13 hs hB
  go_enter Tryz.func180, Tryz.ntmps180
  go_wp2
  go_ret
  exact ⟨w.heap.size, 13, rfl, Nat.le_refl _, HG.out, HB.out⟩

theorem ct_look (t : Int) (w : World) (r clock : Nat) (h : w.heap[r]? = some (.map ctTab clock)) : (Instr.lookup 285 (.map (some r)) (.int .u8 t) false).run Tryz.prog w = .ok (.int .u8 (cCode t : Nat)) w := by
  by_cases h0 : t = 0
  · subst h0
    exact ct_hit 0 _ h (i := 0) (by rfl)
  by_cases h2 : t = 2
  · subst h2
    exact ct_hit 2 _ h (i := 1) (by rfl)
  by_cases h3 : t = 3
  · subst h3
    exact ct_hit 3 _ h (i := 2) (by rfl)
  by_cases h6 : t = 6
  · subst h6
    exact ct_hit 6 _ h (i := 3) (by rfl)
  by_cases h8 : t = 8
  · subst h8
    exact ct_hit 8 _ h (i := 4) (by rfl)
  by_cases h10 : t = 10
  · subst h10
    exact ct_hit 10 _ h (i := 5) (by rfl)
  by_cases h4 : t = 4
  · subst h4
    exact ct_hit 4 _ h (i := 6) (by rfl)
  by_cases h11 : t = 11
  · subst h11
    exact ct_hit 11 _ h (i := 7) (by rfl)
  by_cases h15 : t = 15
  · subst h15
    exact ct_hit 15 _ h (i := 8) (by rfl)
  by_cases h14 : t = 14
  · subst h14
    exact ct_hit 14 _ h (i := 9) (by rfl)
  by_cases h13 : t = 13
  · subst h13
    exact ct_hit 13 _ h (i := 10) (by rfl)
  by_cases h12 : t = 12
  · subst h12
    exact ct_hit 12 _ h (i := 11) (by rfl)
  by_cases h16 : t = 16
  · subst h16
    exact ct_hit 16 _ h (i := 12) (by rfl)
  have hc : cCode t = 0 := by unfold cCode; simp [h0, h2, h3, h6, h8, h10, h4, h11, h15, h14, h13, h12, h16]
  rw [hc]
  refine ct_miss t h ?_
  have b0 : (t == 0) = false := by simpa using h0
  have b2 : (t == 2) = false := by simpa using h2
  have b3 : (t == 3) = false := by simpa using h3
  have b6 : (t == 6) = false := by simpa using h6
  have b8 : (t == 8) = false := by simpa using h8
  have b10 : (t == 10) = false := by simpa using h10
  have b4 : (t == 4) = false := by simpa using h4
  have b11 : (t == 11) = false := by simpa using h11
  have b15 : (t == 15) = false := by simpa using h15
  have b14 : (t == 14) = false := by simpa using h14
  have b13 : (t == 13) = false := by simpa using h13
  have b12 : (t == 12) = false := by simpa using h12
  have b16 : (t == 16) = false := by simpa using h16
  simp [ctTab, Instr.findNow, Instr.sameNow, b0, b2, b3, b6, b8, b10, b4, b11, b15, b14, b13, b12, b16]

set_option maxRecDepth 100000 in
set_option maxHeartbeats 4000000 in
theorem compactType_of (p : Value) (t : Int) (w : World) : Calls Tryz.prog 173 #[p, .int .u8 t] w fun e w' => e = .returned (.int .u8 (cCode t : Nat)) ∧ Below w.heap.size w w' := by
  go_enter Tryz.func173, Tryz.ntmps173
  go_wp2_with (fail)
  refine (ct_table _).mono ?_
  rintro e W1 ⟨r, clock, rfl, hr, hm, hb⟩
  have hl := ct_look t W1 r clock hm
  go_wp2
  go_ret
  exact ⟨rfl, hb⟩

end Go.Proofs.YtnpiheoglilcbaaGreatDoor

/-! The compact protocol over a memory buffer: its own cells; the begin of a field. -/
namespace Go.Proofs.YtnpiheoglilcbaaGreatDoor
open Go.RowKit Go.Deep
set_option linter.unusedVariables false
set_option linter.unusedSimpArgs false

/-- The cells that a compact protocol keeps. -/
theorem CP.read {p m : Nat} {og cf : Value} {c : Cfg} {off : Nat} {S : List Nat} {st : CSt} {l : List UInt8} {w : World} (h : CP p m og cf c off S st l w) :
    w.cell? ⟨p, 0, none⟩ = some (memV m) ∧ w.cell? ⟨p, 4, none⟩ = some (.int .i64 st.last) ∧ (∃ nm, w.cell? ⟨p, 5, none⟩ = some nm) ∧ w.cell? ⟨p, 6, none⟩ = some (.int .i16 st.pid) ∧ w.cell? ⟨p, 7, none⟩ = some (.bool st.pend) ∧
      w.cell? ⟨p, 8, none⟩ = some (.bool st.bv) ∧ w.cell? ⟨p, 9, none⟩ = some (.bool st.bn) ∧ ∀ i, w.frozen? ⟨p, i, none⟩ = false := by
  obtain ⟨b, g, r, K, lf, nm, sc, rfl, hp, hm, hC, hk, hd, hr, hK⟩ := h
  exact ⟨by rw [hp.cells]; rfl, by rw [hp.cells]; rfl, ⟨nm, by rw [hp.cells]; rfl⟩, by rw [hp.cells]; rfl, by rw [hp.cells]; rfl, by rw [hp.cells]; rfl, by rw [hp.cells]; rfl, fun i => frozen_heap hp.1 i⟩

theorem CP.own {p m : Nat} {og cf : Value} {c : Cfg} {off : Nat} {S : List Nat} {st : CSt} {l : List UInt8} {w : World} (h : CP p m og cf c off S st l w) : p ∈ S := by
  obtain ⟨b, g, r, K, lf, nm, sc, rfl, _⟩ := h
  simp

/-- One of its own cells is set. -/
theorem CP.poke {p m : Nat} {og cf : Value} {c : Cfg} {off : Nat} {S : List Nat} {st : CSt} {l : List UInt8} {w : World} (h : CP p m og cf c off S st l w) (i : Nat) (v : Value) (st' : CSt) (hs : st'.stk = st.stk)
    (hv : ∀ lf nm sc, ∃ nm', ((CS.row (memV m) og cf ⟨lf, st.last, nm, st.pid, st.pend, st.bv, st.bn⟩ sc).toArray.setIfInBounds i v) = (CS.row (memV m) og cf ⟨lf, st'.last, nm', st'.pid, st'.pend, st'.bv, st'.bn⟩ sc).toArray) :
    CP p m og cf c off S st' l (w.setCell ⟨p, i, none⟩ v) := by
  obtain ⟨b, g, r, K, lf, nm, sc, rfl, hp, hm, hC, hk, hd, hr, hK⟩ := h
  obtain ⟨nm', hv⟩ := hv lf nm sc
  have hst : Step [p] [p] w (w.setCell ⟨p, i, none⟩ v) := (Step.refl _ _).setCell (p := ⟨p, i, none⟩) (.inl (by simp)) v
  refine ⟨b, g, r, K, lf, nm', sc, rfl, ⟨?_, hp.2⟩, hm.step hst (by simp [Ne.symm hd.1]) (by simp [Ne.symm hd.2.1]) (by simp [Ne.symm hd.2.2]), hC.step hst (fun k hk => by have := hK k hk; simp [this]), ?_, hd, hr, hK⟩
  · rw [heap_set_same hp.1, hv]
  · rw [hs]
    exact hk.step hst (fun h => by simpa using h)

theorem CP.setLast {p m : Nat} {og cf : Value} {c : Cfg} {off : Nat} {S : List Nat} {st : CSt} {l : List UInt8} {w : World} (h : CP p m og cf c off S st l w) (x : Int) : CP p m og cf c off S { st with last := x } l (w.setCell ⟨p, 4, none⟩ (.int .i64 x)) :=
  h.poke 4 _ _ rfl (fun lf nm sc => ⟨nm, by simp [CS.row]⟩)
theorem CP.setName {p m : Nat} {og cf : Value} {c : Cfg} {off : Nat} {S : List Nat} {st : CSt} {l : List UInt8} {w : World} (h : CP p m og cf c off S st l w) (x : Value) : CP p m og cf c off S st l (w.setCell ⟨p, 5, none⟩ x) :=
  h.poke 5 _ _ rfl (fun lf nm sc => ⟨x, by simp [CS.row]⟩)
theorem CP.setPid {p m : Nat} {og cf : Value} {c : Cfg} {off : Nat} {S : List Nat} {st : CSt} {l : List UInt8} {w : World} (h : CP p m og cf c off S st l w) (x : Int) : CP p m og cf c off S { st with pid := x } l (w.setCell ⟨p, 6, none⟩ (.int .i16 x)) :=
  h.poke 6 _ _ rfl (fun lf nm sc => ⟨nm, by simp [CS.row]⟩)
theorem CP.setPend {p m : Nat} {og cf : Value} {c : Cfg} {off : Nat} {S : List Nat} {st : CSt} {l : List UInt8} {w : World} (h : CP p m og cf c off S st l w) (x : Bool) : CP p m og cf c off S { st with pend := x } l (w.setCell ⟨p, 7, none⟩ (.bool x)) :=
  h.poke 7 _ _ rfl (fun lf nm sc => ⟨nm, by simp [CS.row]⟩)
theorem CP.setBv {p m : Nat} {og cf : Value} {c : Cfg} {off : Nat} {S : List Nat} {st : CSt} {l : List UInt8} {w : World} (h : CP p m og cf c off S st l w) (x : Bool) : CP p m og cf c off S { st with bv := x } l (w.setCell ⟨p, 8, none⟩ (.bool x)) :=
  h.poke 8 _ _ rfl (fun lf nm sc => ⟨nm, by simp [CS.row]⟩)
theorem CP.setBn {p m : Nat} {og cf : Value} {c : Cfg} {off : Nat} {S : List Nat} {st : CSt} {l : List UInt8} {w : World} (h : CP p m og cf c off S st l w) (x : Bool) : CP p m og cf c off S { st with bn := x } l (w.setCell ⟨p, 9, none⟩ (.bool x)) :=
  h.poke 9 _ _ rfl (fun lf nm sc => ⟨nm, by simp [CS.row]⟩)

theorem CP.stepSet {p m : Nat} {og cf : Value} {c : Cfg} {off : Nat} {S : List Nat} {st : CSt} {l : List UInt8} {w : World} (h : CP p m og cf c off S st l w) (i : Nat) (v : Value) : Step S S w (w.setCell ⟨p, i, none⟩ v) :=
  (Step.refl _ _).setCell (p := ⟨p, i, none⟩) (.inl h.own) v

theorem or_high (d k : Nat) (hd : d ≤ 15) (hk : k ≤ 15) : bits .or .u8 ((d : Int) * 16) (k : Int) = ((d * 16 + k : Nat) : Int) := by
  have h := (bits_nat .u8 8 (by decide) wraps_u8 (d * 16) k (by omega) (by omega)).2
  have e : d * 16 ||| k = d * 16 + k := by
    have : d * 16 = 2 ^ 4 * d := by omega
    rw [this, Nat.two_pow_add_eq_or_of_lt (by omega)]
  rw [e] at h
  rw [← h]
  congr 1

theorem cp_directN {p m : Nat} {og cf : Value} {c : Cfg} {S : List Nat} {st : CSt} {l : List UInt8} {w : World} (h : CP p m og cf c 0 S st l w) (x : Nat) (hx : x < 256) (hlim : l.length + 1 ≤ 140737488355328) :
    Calls Tryz.prog 168 #[.pointer (some ⟨p, 0, none⟩), .int .u8 (x : Nat)] w (Did (CIs p m og cf c) S w ((st, l ++ [x.toUInt8]), 0)) := by
  have e : ((x.toUInt8.toNat : Nat) : Int) = x := by
    show ((x % 256 : Nat) : Int) = x
    omega
  have := cp_direct h x.toUInt8 hlim
  rw [e] at this
  exact this

theorem cp_i16' {p m : Nat} {og cf : Value} {c : Cfg} {S : List Nat} {st : CSt} {l : List UInt8} {w : World} (h : CIs p m og cf c S (st, l) w) (cx : Value) (x : Int) (h0 : -32768 ≤ x) (h1 : x < 32768) (hlim : l.length + 5 ≤ 140737488355328) :
    Calls Tryz.prog 133 #[.pointer (some ⟨p, 0, none⟩), cx, .int .i16 x] w (Did (CIs p m og cf c) S w ((st, l ++ Lib.uvarint (Lib.zigzag x)), 0)) := cp_i16 h cx x h0 h1 hlim

set_option maxRecDepth 100000 in
set_option maxHeartbeats 1000000 in
theorem cp_field_near {p m : Nat} {og cf : Value} {c : Cfg} {S : List Nat} {st : CSt} {l : List UInt8} {w : World} (h : CP p m og cf c 0 S st l w) (cx nm : Value) (t id : Int) (k : Nat) (hk : k ≤ 15) (h0 : -32768 ≤ id) (h1 : id < 32768) (hl0 : -32768 ≤ st.last) (hl1 : st.last < 32768) (hlim : l.length + 16 ≤ 140737488355328) (hs1 : st.last < id) (hs2 : id - st.last ≤ 15) :
    Calls Tryz.prog 167 #[.pointer (some ⟨p, 0, none⟩), cx, nm, .int .u8 t, .int .i16 id, .int .u8 (k : Nat)] w fun e w' => (∃ j, e = .returned (.tuple #[.int .i64 j, .nilIface])) ∧ ∃ S', CP p m og cf c 0 S' { st with last := id } (l ++ cHead st.last id (k)) w' ∧ Step S S' w w' := by
  obtain ⟨c0, c4, -, -, -, -, -, f⟩ := h.read
  have f4 := f 4
  have HI := Lib.hid h
  have hs0 := Step.refl S w
  have hk255 : ((k : Int) == 255) = false := by simp; omega
  have hk255' : ¬ (k : Int) = 255 := by omega
  clear f h
  have hh : cHead st.last id k = [((id - st.last).toNat * 16 + k).toUInt8] := if_pos ⟨hs1, hs2⟩
  obtain ⟨d, hd⟩ : ∃ d : Nat, id - st.last = d := ⟨(id - st.last).toNat, by omega⟩
  have hor := or_high d k (by omega) hk
  rw [← hd] at hor
  rw [hd, Int.toNat_natCast] at hh
  have HH := Lib.hid hh
  have HOR := Lib.hid hor
  have hd15 : d ≤ 15 := by omega
  clear hd hor hh
  go_enter Tryz.func167, Tryz.ntmps167
  go_wp2_with (fail)
  rw [HOR.out]
  ((with_reducible refine (cp_directN HI.out (d * 16 + k) (by omega) (by omega)).mono ?_); rintro e W1 ⟨ev, S1, rfl, he, hI1, hs3⟩)
  obtain rfl := he.zero
  clear he
  have f4' := (hI1.read).2.2.2.2.2.2.2 4
  have c4' := (hI1.read).2.1
  go_wp2
  go_ret2
  rw [HH.out]
  exact ⟨⟨_, rfl⟩, S1, hI1.setLast id, hs0.trans (hs3.trans (hI1.stepSet 4 _))⟩
set_option maxRecDepth 100000 in
set_option maxHeartbeats 1000000 in
theorem cp_field_back {p m : Nat} {og cf : Value} {c : Cfg} {S : List Nat} {st : CSt} {l : List UInt8} {w : World} (h : CP p m og cf c 0 S st l w) (cx nm : Value) (t id : Int) (k : Nat) (hk : k ≤ 15) (h0 : -32768 ≤ id) (h1 : id < 32768) (hl0 : -32768 ≤ st.last) (hl1 : st.last < 32768) (hlim : l.length + 16 ≤ 140737488355328) (hs1 : ¬ st.last < id) :
    Calls Tryz.prog 167 #[.pointer (some ⟨p, 0, none⟩), cx, nm, .int .u8 t, .int .i16 id, .int .u8 (k : Nat)] w fun e w' => (∃ j, e = .returned (.tuple #[.int .i64 j, .nilIface])) ∧ ∃ S', CP p m og cf c 0 S' { st with last := id } (l ++ cHead st.last id (k)) w' ∧ Step S S' w w' := by
  obtain ⟨c0, c4, -, -, -, -, -, f⟩ := h.read
  have f4 := f 4
  have HI := Lib.hid h
  have hs0 := Step.refl S w
  have hk255 : ((k : Int) == 255) = false := by simp; omega
  have hk255' : ¬ (k : Int) = 255 := by omega
  clear f h
  have hh : cHead st.last id k = k.toUInt8 :: Lib.uvarint (Lib.zigzag id) := if_neg (by omega)
  have HH := Lib.hid hh
  clear hh
  go_enter Tryz.func167, Tryz.ntmps167
  go_wp2_with (fail)
  ((with_reducible refine (cp_directN HI.out k (by omega) (by omega)).mono ?_); rintro e W1 ⟨ev, S1, rfl, he, hI1, hs3⟩)
  obtain rfl := he.zero
  clear he
  go_wp2_with (fail)
  ((with_reducible refine (cp_i16' hI1 _ _ h0 h1 (by simp; omega)).mono ?_); rintro e W2 ⟨ev, S2, rfl, he, hI2, hs4⟩)
  obtain rfl := he.zero
  clear he
  have f4' := (CP.read hI2).2.2.2.2.2.2.2 4
  have c4' := (CP.read hI2).2.1
  go_wp2
  go_ret2
  rw [HH.out]
  refine ⟨⟨_, rfl⟩, S2, ?_, hs0.trans (hs3.trans (hs4.trans (CP.stepSet hI2 4 _)))⟩
  have := CP.setLast hI2 id
  simpa using this
set_option maxRecDepth 100000 in
set_option maxHeartbeats 1000000 in
theorem cp_field_far {p m : Nat} {og cf : Value} {c : Cfg} {S : List Nat} {st : CSt} {l : List UInt8} {w : World} (h : CP p m og cf c 0 S st l w) (cx nm : Value) (t id : Int) (k : Nat) (hk : k ≤ 15) (h0 : -32768 ≤ id) (h1 : id < 32768) (hl0 : -32768 ≤ st.last) (hl1 : st.last < 32768) (hlim : l.length + 16 ≤ 140737488355328) (hs1 : st.last < id) (hs2 : ¬ id - st.last ≤ 15) :
    Calls Tryz.prog 167 #[.pointer (some ⟨p, 0, none⟩), cx, nm, .int .u8 t, .int .i16 id, .int .u8 (k : Nat)] w fun e w' => (∃ j, e = .returned (.tuple #[.int .i64 j, .nilIface])) ∧ ∃ S', CP p m og cf c 0 S' { st with last := id } (l ++ cHead st.last id (k)) w' ∧ Step S S' w w' := by
  obtain ⟨c0, c4, -, -, -, -, -, f⟩ := h.read
  have f4 := f 4
  have HI := Lib.hid h
  have hs0 := Step.refl S w
  have hk255 : ((k : Int) == 255) = false := by simp; omega
  have hk255' : ¬ (k : Int) = 255 := by omega
  clear f h
  have hh : cHead st.last id k = k.toUInt8 :: Lib.uvarint (Lib.zigzag id) := if_neg (by omega)
  have HH := Lib.hid hh
  clear hh
  go_enter Tryz.func167, Tryz.ntmps167
  go_wp2_with (fail)
  ((with_reducible refine (cp_directN HI.out k (by omega) (by omega)).mono ?_); rintro e W1 ⟨ev, S1, rfl, he, hI1, hs3⟩)
  obtain rfl := he.zero
  clear he
  go_wp2_with (fail)
  ((with_reducible refine (cp_i16' hI1 _ _ h0 h1 (by simp; omega)).mono ?_); rintro e W2 ⟨ev, S2, rfl, he, hI2, hs4⟩)
  obtain rfl := he.zero
  clear he
  have f4' := (CP.read hI2).2.2.2.2.2.2.2 4
  have c4' := (CP.read hI2).2.1
  go_wp2
  go_ret2
  rw [HH.out]
  refine ⟨⟨_, rfl⟩, S2, ?_, hs0.trans (hs3.trans (hs4.trans (CP.stepSet hI2 4 _)))⟩
  have := CP.setLast hI2 id
  simpa using this
set_option maxRecDepth 100000 in
set_option maxHeartbeats 1000000 in
theorem cp_field_nearTab {p m : Nat} {og cf : Value} {c : Cfg} {S : List Nat} {st : CSt} {l : List UInt8} {w : World} (h : CP p m og cf c 0 S st l w) (cx nm : Value) (t id : Int) (h0 : -32768 ≤ id) (h1 : id < 32768) (hl0 : -32768 ≤ st.last) (hl1 : st.last < 32768) (hlim : l.length + 16 ≤ 140737488355328) (hs1 : st.last < id) (hs2 : id - st.last ≤ 15) :
    Calls Tryz.prog 167 #[.pointer (some ⟨p, 0, none⟩), cx, nm, .int .u8 t, .int .i16 id, .int .u8 255] w fun e w' => (∃ j, e = .returned (.tuple #[.int .i64 j, .nilIface])) ∧ ∃ S', CP p m og cf c 0 S' { st with last := id } (l ++ cHead st.last id (cCode t)) w' ∧ Step S S' w w' := by
  obtain ⟨k, hkk⟩ : ∃ k, k = cCode t := ⟨_, rfl⟩
  have hk : k ≤ 15 := by have := cCode_le t; omega
  have HT := Lib.hid (compactType_of (.pointer (some ⟨p, 0, none⟩)) t w)
  rw [← hkk] at HT ⊢
  clear hkk
  have HJ := Lib.hid h
  clear h
  have hh : cHead st.last id k = [((id - st.last).toNat * 16 + k).toUInt8] := if_pos ⟨hs1, hs2⟩
  obtain ⟨d, hd⟩ : ∃ d : Nat, id - st.last = d := ⟨(id - st.last).toNat, by omega⟩
  have hor := or_high d k (by omega) hk
  rw [← hd] at hor
  rw [hd, Int.toNat_natCast] at hh
  have HH := Lib.hid hh
  have HOR := Lib.hid hor
  have hd15 : d ≤ 15 := by omega
  clear hd hor hh
  go_enter Tryz.func167, Tryz.ntmps167
  go_wp2_with (fail)
  ((with_reducible refine HT.out.mono ?_); rintro e W0 ⟨rfl, hb⟩)
  have hs0' : Step [] [] w W0 := Step.ofBelow hb
  have hI0 := HJ.out.step hs0' (by simp)
  have hs0 : Step S S w W0 := Step.ofBelow hb
  obtain ⟨c0, c4, -, -, -, -, -, f⟩ := hI0.read
  have f4 := f 4
  have HI := Lib.hid hI0
  clear f hI0 hs0' hb
  go_wp2_with (fail)
  rw [HOR.out]
  ((with_reducible refine (cp_directN HI.out (d * 16 + k) (by omega) (by omega)).mono ?_); rintro e W1 ⟨ev, S1, rfl, he, hI1, hs3⟩)
  obtain rfl := he.zero
  clear he
  have f4' := (hI1.read).2.2.2.2.2.2.2 4
  have c4' := (hI1.read).2.1
  go_wp2
  go_ret2
  rw [HH.out]
  exact ⟨⟨_, rfl⟩, S1, hI1.setLast id, hs0.trans (hs3.trans (hI1.stepSet 4 _))⟩
set_option maxRecDepth 100000 in
set_option maxHeartbeats 1000000 in
theorem cp_field_backTab {p m : Nat} {og cf : Value} {c : Cfg} {S : List Nat} {st : CSt} {l : List UInt8} {w : World} (h : CP p m og cf c 0 S st l w) (cx nm : Value) (t id : Int) (h0 : -32768 ≤ id) (h1 : id < 32768) (hl0 : -32768 ≤ st.last) (hl1 : st.last < 32768) (hlim : l.length + 16 ≤ 140737488355328) (hs1 : ¬ st.last < id) :
    Calls Tryz.prog 167 #[.pointer (some ⟨p, 0, none⟩), cx, nm, .int .u8 t, .int .i16 id, .int .u8 255] w fun e w' => (∃ j, e = .returned (.tuple #[.int .i64 j, .nilIface])) ∧ ∃ S', CP p m og cf c 0 S' { st with last := id } (l ++ cHead st.last id (cCode t)) w' ∧ Step S S' w w' := by
  obtain ⟨k, hkk⟩ : ∃ k, k = cCode t := ⟨_, rfl⟩
  have hk : k ≤ 15 := by have := cCode_le t; omega
  have HT := Lib.hid (compactType_of (.pointer (some ⟨p, 0, none⟩)) t w)
  rw [← hkk] at HT ⊢
  clear hkk
  have HJ := Lib.hid h
  clear h
  have hh : cHead st.last id k = k.toUInt8 :: Lib.uvarint (Lib.zigzag id) := if_neg (by omega)
  have HH := Lib.hid hh
  clear hh
  go_enter Tryz.func167, Tryz.ntmps167
  go_wp2_with (fail)
  ((with_reducible refine HT.out.mono ?_); rintro e W0 ⟨rfl, hb⟩)
  have hs0' : Step [] [] w W0 := Step.ofBelow hb
  have hI0 := HJ.out.step hs0' (by simp)
  have hs0 : Step S S w W0 := Step.ofBelow hb
  obtain ⟨c0, c4, -, -, -, -, -, f⟩ := hI0.read
  have f4 := f 4
  have HI := Lib.hid hI0
  clear f hI0 hs0' hb
  go_wp2_with (fail)
  ((with_reducible refine (cp_directN HI.out k (by omega) (by omega)).mono ?_); rintro e W1 ⟨ev, S1, rfl, he, hI1, hs3⟩)
  obtain rfl := he.zero
  clear he
  go_wp2_with (fail)
  ((with_reducible refine (cp_i16' hI1 _ _ h0 h1 (by simp; omega)).mono ?_); rintro e W2 ⟨ev, S2, rfl, he, hI2, hs4⟩)
  obtain rfl := he.zero
  clear he
  have f4' := (CP.read hI2).2.2.2.2.2.2.2 4
  have c4' := (CP.read hI2).2.1
  go_wp2
  go_ret2
  rw [HH.out]
  refine ⟨⟨_, rfl⟩, S2, ?_, hs0.trans (hs3.trans (hs4.trans (CP.stepSet hI2 4 _)))⟩
  have := CP.setLast hI2 id
  simpa using this
set_option maxRecDepth 100000 in
set_option maxHeartbeats 1000000 in
theorem cp_field_farTab {p m : Nat} {og cf : Value} {c : Cfg} {S : List Nat} {st : CSt} {l : List UInt8} {w : World} (h : CP p m og cf c 0 S st l w) (cx nm : Value) (t id : Int) (h0 : -32768 ≤ id) (h1 : id < 32768) (hl0 : -32768 ≤ st.last) (hl1 : st.last < 32768) (hlim : l.length + 16 ≤ 140737488355328) (hs1 : st.last < id) (hs2 : ¬ id - st.last ≤ 15) :
    Calls Tryz.prog 167 #[.pointer (some ⟨p, 0, none⟩), cx, nm, .int .u8 t, .int .i16 id, .int .u8 255] w fun e w' => (∃ j, e = .returned (.tuple #[.int .i64 j, .nilIface])) ∧ ∃ S', CP p m og cf c 0 S' { st with last := id } (l ++ cHead st.last id (cCode t)) w' ∧ Step S S' w w' := by
  obtain ⟨k, hkk⟩ : ∃ k, k = cCode t := ⟨_, rfl⟩
  have hk : k ≤ 15 := by have := cCode_le t; omega
  have HT := Lib.hid (compactType_of (.pointer (some ⟨p, 0, none⟩)) t w)
  rw [← hkk] at HT ⊢
  clear hkk
  have HJ := Lib.hid h
  clear h
  have hh : cHead st.last id k = k.toUInt8 :: Lib.uvarint (Lib.zigzag id) := if_neg (by omega)
  have HH := Lib.hid hh
  clear hh
  go_enter Tryz.func167, Tryz.ntmps167
  go_wp2_with (fail)
  ((with_reducible refine HT.out.mono ?_); rintro e W0 ⟨rfl, hb⟩)
  have hs0' : Step [] [] w W0 := Step.ofBelow hb
  have hI0 := HJ.out.step hs0' (by simp)
  have hs0 : Step S S w W0 := Step.ofBelow hb
  obtain ⟨c0, c4, -, -, -, -, -, f⟩ := hI0.read
  have f4 := f 4
  have HI := Lib.hid hI0
  clear f hI0 hs0' hb
  go_wp2_with (fail)
  ((with_reducible refine (cp_directN HI.out k (by omega) (by omega)).mono ?_); rintro e W1 ⟨ev, S1, rfl, he, hI1, hs3⟩)
  obtain rfl := he.zero
  clear he
  go_wp2_with (fail)
  ((with_reducible refine (cp_i16' hI1 _ _ h0 h1 (by simp; omega)).mono ?_); rintro e W2 ⟨ev, S2, rfl, he, hI2, hs4⟩)
  obtain rfl := he.zero
  clear he
  have f4' := (CP.read hI2).2.2.2.2.2.2.2 4
  have c4' := (CP.read hI2).2.1
  go_wp2
  go_ret2
  rw [HH.out]
  refine ⟨⟨_, rfl⟩, S2, ?_, hs0.trans (hs3.trans (hs4.trans (CP.stepSet hI2 4 _)))⟩
  have := CP.setLast hI2 id
  simpa using this
theorem cp_field {p m : Nat} {og cf : Value} {c : Cfg} {S : List Nat} {st : CSt} {l : List UInt8} {w : World} (h : CP p m og cf c 0 S st l w) (cx nm : Value) (t id : Int) (k : Nat) (hk : k ≤ 15) (h0 : -32768 ≤ id) (h1 : id < 32768) (hl0 : -32768 ≤ st.last) (hl1 : st.last < 32768) (hlim : l.length + 16 ≤ 140737488355328) :
    Calls Tryz.prog 167 #[.pointer (some ⟨p, 0, none⟩), cx, nm, .int .u8 t, .int .i16 id, .int .u8 (k : Nat)] w fun e w' => (∃ j, e = .returned (.tuple #[.int .i64 j, .nilIface])) ∧ ∃ S', CP p m og cf c 0 S' { st with last := id } (l ++ cHead st.last id (k)) w' ∧ Step S S' w w' := by
  by_cases hs1 : st.last < id
  · by_cases hs2 : id - st.last ≤ 15
    · exact cp_field_near h cx nm t id k hk h0 h1 hl0 hl1 hlim hs1 hs2
    · exact cp_field_far h cx nm t id k hk h0 h1 hl0 hl1 hlim hs1 hs2
  · exact cp_field_back h cx nm t id k hk h0 h1 hl0 hl1 hlim hs1
theorem cp_fieldTab {p m : Nat} {og cf : Value} {c : Cfg} {S : List Nat} {st : CSt} {l : List UInt8} {w : World} (h : CP p m og cf c 0 S st l w) (cx nm : Value) (t id : Int) (h0 : -32768 ≤ id) (h1 : id < 32768) (hl0 : -32768 ≤ st.last) (hl1 : st.last < 32768) (hlim : l.length + 16 ≤ 140737488355328) :
    Calls Tryz.prog 167 #[.pointer (some ⟨p, 0, none⟩), cx, nm, .int .u8 t, .int .i16 id, .int .u8 255] w fun e w' => (∃ j, e = .returned (.tuple #[.int .i64 j, .nilIface])) ∧ ∃ S', CP p m og cf c 0 S' { st with last := id } (l ++ cHead st.last id (cCode t)) w' ∧ Step S S' w w' := by
  by_cases hs1 : st.last < id
  · by_cases hs2 : id - st.last ≤ 15
    · exact cp_field_nearTab h cx nm t id h0 h1 hl0 hl1 hlim hs1 hs2
    · exact cp_field_farTab h cx nm t id h0 h1 hl0 hl1 hlim hs1 hs2
  · exact cp_field_backTab h cx nm t id h0 h1 hl0 hl1 hlim hs1

end Go.Proofs.YtnpiheoglilcbaaGreatDoor

/-! The compact protocol over a memory buffer: fields, bools, structs. -/
namespace Go.Proofs.YtnpiheoglilcbaaGreatDoor
open Go.RowKit Go.Deep
set_option linter.unusedVariables false
set_option linter.unusedSimpArgs false

set_option maxRecDepth 100000 in
set_option maxHeartbeats 1000000 in
theorem cp_fldB_bool {p m : Nat} {og cf : Value} {c : Cfg} {S : List Nat} {st : CSt} {l : List UInt8} {w : World} (h : CP p m og cf c 0 S st l w) (cx : Value) (nm : ByteArray) (id : Int) :
    Calls Tryz.prog 130 #[.pointer (some ⟨p, 0, none⟩), cx, .string nm, .int .u8 2, .int .i16 id] w (Did (CIs p m og cf c) S w (({ st with pend := true, pid := id }, l), 0)) := by
  obtain ⟨c0, c4, ⟨x5, c5⟩, c6, c7, c8, c9, f⟩ := h.read
  have f5 := f 5
  have f6 := f 6
  have f7 := f 7
  have HI := Lib.hid h
  clear f h c0 c4 c8 c9
  go_enter Tryz.func130, Tryz.ntmps130
  go_wp2
  go_ret
  refine ⟨_, S, rfl, IsErr.nil _, ?_, ?_⟩
  · exact ((HI.out.setName _).setPid _).setPend _
  · exact ((HI.out.stepSet 5 _).trans (((HI.out.setName _).stepSet 6 _))).trans ((((HI.out.setName _).setPid _).stepSet 7 _))

set_option maxRecDepth 100000 in
set_option maxHeartbeats 1000000 in
theorem cp_fldB {p m : Nat} {og cf : Value} {c : Cfg} {S : List Nat} {st : CSt} {l : List UInt8} {w : World} (h : CP p m og cf c 0 S st l w) (cx nm : Value) (t id : Int) (ht : ¬ t = 2) (h0 : -32768 ≤ id) (h1 : id < 32768) (hl0 : -32768 ≤ st.last) (hl1 : st.last < 32768) (hlim : l.length + 16 ≤ 140737488355328) :
    Calls Tryz.prog 130 #[.pointer (some ⟨p, 0, none⟩), cx, nm, .int .u8 t, .int .i16 id] w (Did (CIs p m og cf c) S w (({ st with last := id }, l ++ cHead st.last id (cCode t)), 0)) := by
  have HF := Lib.hid (fun cx nm => cp_fieldTab h cx nm t id h0 h1 hl0 hl1 hlim)
  have ht' : (t == 2) = false := by simpa using ht
  go_enter Tryz.func130, Tryz.ntmps130
  go_wp2_with (fail)
  ((with_reducible refine (HF.out _ _).mono ?_); rintro e W1 ⟨⟨j, rfl⟩, S1, hI, hs⟩)
  go_wp2_with (first | (go_at_call 149; go_in))
  go_ret
  exact ⟨_, _, rfl, IsErr.nil _, hI, hs⟩

set_option maxRecDepth 100000 in
set_option maxHeartbeats 1000000 in
/-- A bool that is no field's. -/
theorem cp_bool {p m : Nat} {og cf : Value} {c : Cfg} {S : List Nat} {st : CSt} {l : List UInt8} {w : World} (h : CP p m og cf c 0 S st l w) (cx : Value) (b : Bool) (hp : st.pend = false) (hlim : l.length + 16 ≤ 140737488355328) :
    Calls Tryz.prog 127 #[.pointer (some ⟨p, 0, none⟩), cx, .bool b] w (Did (CIs p m og cf c) S w ((st, l ++ [if b then 1 else 2]), 0)) := by
  obtain ⟨c0, c4, ⟨x5, c5⟩, c6, c7, c8, c9, f⟩ := h.read
  rw [hp] at c7
  have HI := Lib.hid h
  clear f h c0 c4 c8 c9
  cases b
  · go_enter Tryz.func127, Tryz.ntmps127
    go_wp2_with (fail)
    refine (cp_directN HI.out 2 (by omega) (by omega)).mono ?_
    rintro e W1 ⟨ev, S1, rfl, he, hI1, hs1⟩
    obtain rfl := he.zero
    go_wp2_with (first | (go_at_call 149; go_in))
    go_ret
    exact ⟨_, _, rfl, IsErr.nil _, hI1, hs1⟩
  · go_enter Tryz.func127, Tryz.ntmps127
    go_wp2_with (fail)
    refine (cp_directN HI.out 1 (by omega) (by omega)).mono ?_
    rintro e W1 ⟨ev, S1, rfl, he, hI1, hs1⟩
    obtain rfl := he.zero
    go_wp2_with (first | (go_at_call 149; go_in))
    go_ret
    exact ⟨_, _, rfl, IsErr.nil _, hI1, hs1⟩

set_option maxRecDepth 100000 in
set_option maxHeartbeats 1000000 in
/-- A bool that is a field's. -/
theorem cp_bool_pend {p m : Nat} {og cf : Value} {c : Cfg} {S : List Nat} {st : CSt} {l : List UInt8} {w : World} (h : CP p m og cf c 0 S st l w) (cx : Value) (b : Bool) (hp : st.pend = true) (h0 : -32768 ≤ st.pid) (h1 : st.pid < 32768) (hl0 : -32768 ≤ st.last) (hl1 : st.last < 32768) (hlim : l.length + 16 ≤ 140737488355328) :
    Calls Tryz.prog 127 #[.pointer (some ⟨p, 0, none⟩), cx, .bool b] w (Did (CIs p m og cf c) S w (({ st with last := st.pid, pend := false }, l ++ cHead st.last st.pid (if b then 1 else 2)), 0)) := by
  obtain ⟨c0, c4, ⟨x5, c5⟩, c6, c7, c8, c9, f⟩ := h.read
  rw [hp] at c7
  have HI := Lib.hid h
  clear f h c0 c4 c8 c9
  cases b
  · have hF : ∀ W, Step [] [] w W → ∀ cx nm t, Calls Tryz.prog 167 #[.pointer (some ⟨p, 0, none⟩), cx, nm, .int .u8 t, .int .i16 st.pid, .int .u8 2] W fun e w' => (∃ j, e = .returned (.tuple #[.int .i64 j, .nilIface])) ∧ ∃ S', CP p m og cf c 0 S' { st with last := st.pid } (l ++ cHead st.last st.pid 2) w' ∧ Step S S' W w' := fun W hW cx nm t => cp_field (HI.out.step hW (by simp)) cx nm t st.pid 2 (by omega) h0 h1 hl0 hl1 hlim
    have HF := Lib.hid hF
    clear hF
    go_enter Tryz.func127, Tryz.ntmps127
    go_wp2_with (fail)
    go_region_with (((with_reducible refine (HF.out _ ?_ _ _ _).mono ?_); exact (Step.refl _ _).drew; rintro e W1 ⟨⟨j, rfl⟩, S1, hI, hs⟩; replace hs := (Step.refl S w).drew.trans hs; obtain ⟨-, -, -, -, c7', -, -, f'⟩ := hI.read; have f7' := f' 7; have HI2 := Lib.hid hI; clear f' hI))
    all_goals go_wp2_with (first | (go_at_call 149; go_in))
    all_goals go_ret
    all_goals exact ⟨_, S1, rfl, IsErr.nil _, HI2.out.setPend false, hs.trans (HI2.out.stepSet 7 _)⟩
  · have hF : ∀ W, Step [] [] w W → ∀ cx nm t, Calls Tryz.prog 167 #[.pointer (some ⟨p, 0, none⟩), cx, nm, .int .u8 t, .int .i16 st.pid, .int .u8 1] W fun e w' => (∃ j, e = .returned (.tuple #[.int .i64 j, .nilIface])) ∧ ∃ S', CP p m og cf c 0 S' { st with last := st.pid } (l ++ cHead st.last st.pid 1) w' ∧ Step S S' W w' := fun W hW cx nm t => cp_field (HI.out.step hW (by simp)) cx nm t st.pid 1 (by omega) h0 h1 hl0 hl1 hlim
    have HF := Lib.hid hF
    clear hF
    go_enter Tryz.func127, Tryz.ntmps127
    go_wp2_with (fail)
    go_region_with (((with_reducible refine (HF.out _ ?_ _ _ _).mono ?_); exact (Step.refl _ _).drew; rintro e W1 ⟨⟨j, rfl⟩, S1, hI, hs⟩; replace hs := (Step.refl S w).drew.trans hs; obtain ⟨-, -, -, -, c7', -, -, f'⟩ := hI.read; have f7' := f' 7; have HI2 := Lib.hid hI; clear f' hI))
    all_goals go_wp2_with (first | (go_at_call 149; go_in))
    all_goals go_ret
    all_goals exact ⟨_, S1, rfl, IsErr.nil _, HI2.out.setPend false, hs.trans (HI2.out.stepSet 7 _)⟩

end Go.Proofs.YtnpiheoglilcbaaGreatDoor

/-! The compact protocol over a memory buffer: begins of lists, sets, maps and messages; doubles; stops. -/
namespace Go.Proofs.YtnpiheoglilcbaaGreatDoor
open Go.RowKit Go.Deep
set_option linter.unusedVariables false
set_option linter.unusedSimpArgs false

set_option maxRecDepth 100000 in
set_option maxHeartbeats 1000000 in
theorem cp_stop {p m : Nat} {og cf : Value} {c : Cfg} {S : List Nat} {st : CSt} {l : List UInt8} {w : World} (h : CP p m og cf c 0 S st l w) (cx : Value) (hlim : l.length + 1 ≤ 140737488355328) :
    Calls Tryz.prog 132 #[.pointer (some ⟨p, 0, none⟩), cx] w (Did (CIs p m og cf c) S w ((st, l ++ [0]), 0)) := by
  go_enter Tryz.func132, Tryz.ntmps132
  go_wp2_with (fail)
  refine (cp_directN h 0 (by omega) hlim).mono ?_
  rintro e W1 ⟨ev, S1, rfl, he, hI1, hs1⟩
  obtain rfl := he.zero
  go_wp2_with (first | (go_at_call 149; go_in))
  go_ret
  exact ⟨_, _, rfl, IsErr.nil _, hI1, hs1⟩

theorem or_coll (n : Int) (c : Nat) (hc : c ≤ 15) : bits .or .i32 (wrap32 (wrap64 (n * 16))) (c : Int) % 256 = (((n % 16).toNat * 16 + c : Nat) : Int) := by
  simp only [bits]
  rw [IntKind.wrap_i32, BitVec.toNat_or, BitVec.toNat_ofInt, BitVec.toNat_ofInt]
  have e1 : ((c : Int) % ((2 ^ IntKind.i32.bits : Nat) : Int)).toNat = c := by
    have e : ((2 ^ IntKind.i32.bits : Nat) : Int) = 4294967296 := by decide
    rw [e]; omega
  obtain ⟨a, ha⟩ : ∃ a : Nat, (wrap32 (wrap64 (n * 16)) % ((2 ^ IntKind.i32.bits : Nat) : Int)).toNat = a := ⟨_, rfl⟩
  have ha2 : a % 256 = (n % 16).toNat * 16 := by
    have e : ((2 ^ IntKind.i32.bits : Nat) : Int) = 4294967296 := by decide
    rw [← ha, e]; unfold wrap32 wrap64; omega
  rw [e1, ha]
  have h1 : (a ||| c) % 256 = (n % 16).toNat * 16 + c := by
    have := @Nat.or_mod_two_pow a c 8
    rw [show (2 : Nat) ^ 8 = 256 from rfl] at this
    rw [this, ha2, show c % 256 = c by omega]
    have e2 : (n % 16).toNat * 16 = 2 ^ 4 * (n % 16).toNat := by omega
    rw [e2, Nat.two_pow_add_eq_or_of_lt (by omega)]
  omega

theorem or_240 (c : Nat) (hc : c ≤ 15) : bits .or .u8 240 (c : Int) = ((240 + c : Nat) : Int) := by
  have := or_high 15 c (by omega) hc
  simpa using this

set_option maxRecDepth 100000 in
set_option maxHeartbeats 1000000 in
theorem cp_coll_near {p m : Nat} {og cf : Value} {c : Cfg} {S : List Nat} {st : CSt} {l : List UInt8} {w : World} (h : CP p m og cf c 0 S st l w) (t n : Int) (hlim : l.length + 16 ≤ 140737488355328) (hn : n ≤ 14) :
    Calls Tryz.prog 172 #[.pointer (some ⟨p, 0, none⟩), .int .u8 t, .int .i64 n] w fun e w' => (∃ k, e = .returned (.tuple #[.int .i64 k, .nilIface])) ∧ ∃ S', CP p m og cf c 0 S' st (l ++ [((n % 16).toNat * 16 + cCode t).toUInt8]) w' ∧ Step S S' w w' := by
  go_enter Tryz.func172, Tryz.ntmps172
  go_wp2_with (fail)
  refine (compactType_of _ t w).mono ?_
  rintro e W1 ⟨rfl, hB⟩
  have hs0 := Lib.hid (Step.ofBelow (S := S) hB)
  have HI := Lib.hid (h.step (Step.ofBelow (S := []) hB) (by simp))
  clear hB h
  have hct := cCode_le t
  go_wp2_with (fail)
  rw [or_coll n (cCode t) (by omega)]
  refine (cp_directN HI.out ((n % 16).toNat * 16 + cCode t) (by omega) (by omega)).mono ?_
  rintro e W2 ⟨ev, S1, rfl, he, hI1, hs1⟩
  obtain rfl := he.zero
  go_wp2
  go_ret2
  exact ⟨⟨_, rfl⟩, S1, hI1, hs0.out.trans hs1⟩

set_option maxRecDepth 100000 in
set_option maxHeartbeats 1000000 in
theorem cp_coll_far {p m : Nat} {og cf : Value} {c : Cfg} {S : List Nat} {st : CSt} {l : List UInt8} {w : World} (h : CP p m og cf c 0 S st l w) (t n : Int) (hlim : l.length + 16 ≤ 140737488355328) (hn : ¬ n ≤ 14) :
    Calls Tryz.prog 172 #[.pointer (some ⟨p, 0, none⟩), .int .u8 t, .int .i64 n] w fun e w' => (∃ k, e = .returned (.tuple #[.int .i64 k, .nilIface])) ∧ ∃ S', CP p m og cf c 0 S' st (l ++ (240 + cCode t).toUInt8 :: Lib.uvarint (n % 4294967296).toNat) w' ∧ Step S S' w w' := by
  obtain ⟨N, hN⟩ : ∃ N : Nat, (n % 4294967296).toNat = N := ⟨_, rfl⟩
  rw [hN]
  have hN2 := Lib.hid (show wrap32 n % 4294967296 = N by unfold wrap32; omega)
  clear hN
  go_enter Tryz.func172, Tryz.ntmps172
  go_wp2_with (fail)
  refine (compactType_of _ t w).mono ?_
  rintro e W1 ⟨rfl, hB⟩
  have hs0 := Lib.hid (Step.ofBelow (S := S) hB)
  have HI := Lib.hid (h.step (Step.ofBelow (S := []) hB) (by simp))
  clear hB h
  have hct := cCode_le t
  go_wp2_with (fail)
  rw [or_240 (cCode t) (by omega)]
  refine (cp_directN HI.out (240 + cCode t) (by omega) (by omega)).mono ?_
  rintro e W2 ⟨ev, S1, rfl, he, hI1, hs1⟩
  obtain rfl := he.zero
  go_wp2_with (fail)
  refine (cp_varint32 hI1 _ N hN2.out (by simp only [List.length_append, List.length_cons, List.length_nil]; omega)).mono ?_
  rintro e W3 ⟨⟨k, rfl⟩, S2, hI2, hs2⟩
  go_wp2
  go_ret2
  refine ⟨⟨_, rfl⟩, S2, ?_, hs0.out.trans (hs1.trans hs2)⟩
  simpa [List.append_assoc] using hI2

def cColl (t n : Int) : List UInt8 := if n ≤ 14 then [((n % 16).toNat * 16 + cCode t).toUInt8] else (240 + cCode t).toUInt8 :: Lib.uvarint (n % 4294967296).toNat

theorem cp_coll {p m : Nat} {og cf : Value} {c : Cfg} {S : List Nat} {st : CSt} {l : List UInt8} {w : World} (h : CP p m og cf c 0 S st l w) (t n : Int) (hlim : l.length + 16 ≤ 140737488355328) :
    Calls Tryz.prog 172 #[.pointer (some ⟨p, 0, none⟩), .int .u8 t, .int .i64 n] w fun e w' => (∃ k, e = .returned (.tuple #[.int .i64 k, .nilIface])) ∧ ∃ S', CP p m og cf c 0 S' st (l ++ cColl t n) w' ∧ Step S S' w w' := by
  by_cases hn : n ≤ 14
  · rw [cColl, if_pos hn]; exact cp_coll_near h t n hlim hn
  · rw [cColl, if_neg hn]; exact cp_coll_far h t n hlim hn

set_option maxRecDepth 100000 in
set_option maxHeartbeats 1000000 in
theorem cp_lstB {p m : Nat} {og cf : Value} {c : Cfg} {S : List Nat} {st : CSt} {l : List UInt8} {w : World} (h : CP p m og cf c 0 S st l w) (cx : Value) (t n : Int) (hlim : l.length + 16 ≤ 140737488355328) :
    Calls Tryz.prog 136 #[.pointer (some ⟨p, 0, none⟩), cx, .int .u8 t, .int .i64 n] w (Did (CIs p m og cf c) S w ((st, l ++ cColl t n), 0)) := by
  go_enter Tryz.func136, Tryz.ntmps136
  go_wp2_with (fail)
  refine (cp_coll h t n hlim).mono ?_
  rintro e W1 ⟨⟨k, rfl⟩, S1, hI1, hs1⟩
  go_wp2_with (first | (go_at_call 149; go_in))
  go_ret
  exact ⟨_, _, rfl, IsErr.nil _, hI1, hs1⟩

set_option maxRecDepth 100000 in
set_option maxHeartbeats 1000000 in
theorem cp_setB {p m : Nat} {og cf : Value} {c : Cfg} {S : List Nat} {st : CSt} {l : List UInt8} {w : World} (h : CP p m og cf c 0 S st l w) (cx : Value) (t n : Int) (hlim : l.length + 16 ≤ 140737488355328) :
    Calls Tryz.prog 142 #[.pointer (some ⟨p, 0, none⟩), cx, .int .u8 t, .int .i64 n] w (Did (CIs p m og cf c) S w ((st, l ++ cColl t n), 0)) := by
  go_enter Tryz.func142, Tryz.ntmps142
  go_wp2_with (fail)
  refine (cp_coll h t n hlim).mono ?_
  rintro e W1 ⟨⟨k, rfl⟩, S1, hI1, hs1⟩
  go_wp2_with (first | (go_at_call 149; go_in))
  go_ret
  exact ⟨_, _, rfl, IsErr.nil _, hI1, hs1⟩

set_option maxRecDepth 100000 in
set_option maxHeartbeats 1000000 in
theorem cp_mapB_none {p m : Nat} {og cf : Value} {c : Cfg} {S : List Nat} {st : CSt} {l : List UInt8} {w : World} (h : CP p m og cf c 0 S st l w) (cx : Value) (k t : Int) (hlim : l.length + 16 ≤ 140737488355328) :
    Calls Tryz.prog 138 #[.pointer (some ⟨p, 0, none⟩), cx, .int .u8 k, .int .u8 t, .int .i64 0] w (Did (CIs p m og cf c) S w ((st, l ++ [0]), 0)) := by
  go_enter Tryz.func138, Tryz.ntmps138
  go_wp2_with (fail)
  refine (cp_directN h 0 (by omega) (by omega)).mono ?_
  rintro e W1 ⟨ev, S1, rfl, he, hI1, hs1⟩
  obtain rfl := he.zero
  go_wp2_with (first | (go_at_call 149; go_in))
  go_ret
  exact ⟨_, _, rfl, IsErr.nil _, hI1, hs1⟩

set_option maxRecDepth 100000 in
set_option maxHeartbeats 1000000 in
theorem cp_mapB_some {p m : Nat} {og cf : Value} {c : Cfg} {S : List Nat} {st : CSt} {l : List UInt8} {w : World} (h : CP p m og cf c 0 S st l w) (cx : Value) (k t n : Int) (hn : ¬ n = 0) (hlim : l.length + 16 ≤ 140737488355328) :
    Calls Tryz.prog 138 #[.pointer (some ⟨p, 0, none⟩), cx, .int .u8 k, .int .u8 t, .int .i64 n] w (Did (CIs p m og cf c) S w ((st, l ++ (Lib.uvarint (n % 4294967296).toNat ++ [(cCode k * 16 + cCode t).toUInt8])), 0)) := by
  obtain ⟨N, hN⟩ : ∃ N : Nat, (n % 4294967296).toNat = N := ⟨_, rfl⟩
  rw [hN]
  have hN2 := Lib.hid (show wrap32 n % 4294967296 = N by unfold wrap32; omega)
  have hNl := Lib.hid (show (Lib.uvarint N).length ≤ 5 from Lib.uvarint_length 4 _ (by omega))
  clear hN
  have hn' : (n == 0) = false := by simpa using hn
  go_enter Tryz.func138, Tryz.ntmps138
  go_wp2_with (fail)
  refine (cp_varint32 h _ N hN2.out (by omega)).mono ?_
  rintro e W1 ⟨⟨j, rfl⟩, S1, hI1, hs1⟩
  have HI1 := Lib.hid hI1
  clear hI1
  go_wp2_with (fail)
  refine (compactType_of _ k W1).mono ?_
  rintro e W2 ⟨rfl, hB2⟩
  have hs2 := Lib.hid (Step.ofBelow (S := []) hB2)
  have hs2' := Lib.hid (Step.ofBelow (S := S1) hB2)
  have HI2 := Lib.hid (HI1.out.step hs2.out (by simp))
  clear hB2
  go_wp2_with (fail)
  refine (compactType_of _ t W2).mono ?_
  rintro e W3 ⟨rfl, hB3⟩
  have hs3 := Lib.hid (Step.ofBelow (S := []) hB3)
  have hs3' := Lib.hid (Step.ofBelow (S := S1) hB3)
  have HI3 := Lib.hid (HI2.out.step hs3.out (by simp))
  clear hB3
  have hk1 := cCode_le k
  have ht1 := cCode_le t
  go_wp2_with (fail)
  rw [show (cCode k : Int) * 16 % 256 = (cCode k : Int) * 16 by omega, or_high (cCode k) (cCode t) (by omega) (by omega)]
  refine (cp_directN HI3.out (cCode k * 16 + cCode t) (by omega) (by simp only [List.length_append]; have := hNl.out; omega)).mono ?_
  rintro e W4 ⟨ev, S4, rfl, he, hI4, hs4⟩
  obtain rfl := he.zero
  go_wp2_with (first | (go_at_call 149; go_in))
  go_ret
  refine ⟨_, _, rfl, IsErr.nil _, ?_, hs1.trans (hs2'.out.trans (hs3'.out.trans hs4))⟩
  simpa [List.append_assoc] using hI4

end Go.Proofs.YtnpiheoglilcbaaGreatDoor

/-! The compact protocol over a memory buffer: structs' begins. -/
namespace Go.Proofs.YtnpiheoglilcbaaGreatDoor
open Go.RowKit Go.Deep Go.Proofs.YtnpiheoglilcbaaGreatDoorW.PrintLast
set_option linter.unusedVariables false
set_option linter.unusedSimpArgs false

/-- What the struct's own cells hold. -/
def Keeps3 (p : Nat) (lf : Value) (x : Int) (W : World) : Prop :=
  W.cell? ⟨p, 3, none⟩ = some lf ∧ W.cell? ⟨p, 4, none⟩ = some (.int .i64 x) ∧ W.frozen? ⟨p, 3, none⟩ = false ∧ W.frozen? ⟨p, 4, none⟩ = false

theorem Keeps3.of {p : Nat} {tr og cf : Value} {s : CS} {sc : List Value} {W : World} (h : W.heap[p]? = some (.cells (CS.row tr og cf s sc).toArray 143 (0, 0))) : Keeps3 p s.lf s.last W :=
  ⟨(cell_heap h 3).trans rfl, (cell_heap h 4).trans rfl, frozen_heap h 3, frozen_heap h 4⟩

theorem infoInt : (Tryz.prog.info? 3).map (fun i => (i.zero, i.size, i.bytes)) = some (some (.int .i64 0), 1, 8) := by kernel_rfl

theorem StkAt.owns {r p : Nat} {v : Value} {xs : List Int} {w : World} (h : StkAt r p v xs w) : w.ownsRow 0 3 1 v xs.length (xs.map (Value.int .i64)) := by
  rcases h with ⟨rfl, rfl, rfl⟩ | ⟨cap, cur, rfl, h2, h3, h4, h5, h6, h7⟩
  · exact World.ownsRow_nil _ _ _ _
  · exact ⟨by simp, .inr ⟨r, cap, cur, rfl, Nat.zero_le _, h2, h4, h5, by omega, by rw [Nat.mul_one]; exact h6⟩⟩

theorem StkAt.block {r p : Nat} {v : Value} {xs : List Int} {w : World} (h : StkAt r p v xs w) : v.ownBlock = none ∨ (v.ownBlock = some r ∧ r ≠ p) := by
  rcases h with ⟨rfl, rfl, rfl⟩ | ⟨cap, cur, rfl, h2, h3, h4, h5, h6, h7⟩
  · exact .inl rfl
  · exact .inr ⟨rfl, h7⟩

theorem CP.push {p m b g r g1 cap1 H : Nat} {og cf lf n5 : Value} {c : Cfg} {K : List Nat} {st : CSt} {sc : List Value} {l : List UInt8} {w W0 W2 : World} {x : Int} (hp : Cmp p (memV m) og cf ⟨lf, st.last, n5, st.pid, st.pend, st.bv, st.bn⟩ sc w) (hm : Mem m b g 0 (Lib.byteCells l) w) (hC : CfgAt c cf K w) (hk : StkAt r p lf st.stk w)
    (hd : p ≠ m ∧ p ≠ b ∧ p ≠ g) (hr : r ≠ m ∧ r ≠ b ∧ r ≠ g) (hK : ∀ k, k ∈ K → k ≠ p ∧ k ≠ b ∧ k ≠ g ∧ k ≠ r) (h0 : Step [] [] w W0) (hg : W0.grownBy W2 lf.ownBlock)
    (hown : W2.ownsRow 0 3 1 (.slice (some ⟨g1, 0, none⟩) (st.stk.length + 1) cap1) (st.stk.length + 1) (st.stk.map (Value.int .i64) ++ [.int .i64 x])) (hat : lf.ownBlock = some g1 ∨ g1 = H) (hH : w.heap.size ≤ H) :
    CP p m og cf c 0 (p :: m :: b :: g :: g1 :: K) { st with stk := st.stk ++ [x], last := 0 } l ((W2.setCell ⟨p, 3, none⟩ (.slice (some ⟨g1, 0, none⟩) (st.stk.length + 1) cap1)).setCell ⟨p, 4, none⟩ (.int .i64 0)) ∧
      Step (p :: m :: b :: g :: r :: K) (p :: m :: b :: g :: g1 :: K) w ((W2.setCell ⟨p, 3, none⟩ (.slice (some ⟨g1, 0, none⟩) (st.stk.length + 1) cap1)).setCell ⟨p, 4, none⟩ (.int .i64 0)) := by
  have hpl := hp.lt
  have hml := hm.lt
  have hbl := hm.2.2.2.lt
  have hgr : g1 = r ∨ w.heap.size ≤ g1 := by
    rcases hat with hat | hat
    · rcases hk.block with hb | ⟨hb, _⟩
      · rw [hb] at hat; cases hat
      · rw [hb] at hat; injection hat with e; exact .inl e.symm
    · exact .inr (by omega)
  have hgp : g1 ≠ p := by
    rcases hat with hat | hat
    · rcases hk.block with hb | ⟨hb, hrp⟩
      · rw [hb] at hat; cases hat
      · rw [hb] at hat; injection hat with e; omega
    · omega
  have hs2 : Step [p, r] [p, g1] w W2 := by
    refine ⟨hg.os.trans h0.os, hg.tape.trans h0.tape, hg.output.trans h0.output, Nat.le_trans h0.size hg.size, fun k hk' hn => ?_, fun k hk' => ?_⟩
    · simp only [List.mem_cons, List.not_mem_nil, or_false, not_or] at hn
      refine (hg.block k (Nat.lt_of_lt_of_le hk' h0.size) (fun e => ?_)).trans (h0.block k hk' (by simp))
      rcases hk.block with hb | ⟨hb, _⟩
      · rw [hb] at e; cases e
      · rw [hb] at e; injection e with e; exact hn.2 e
    · simp only [List.mem_cons, List.not_mem_nil, or_false] at hk' ⊢
      rcases hk' with rfl | rfl
      · exact .inl (.inl rfl)
      · rcases hgr with h | h
        · exact .inl (.inr h)
        · exact .inr h
  have hp2 : W2.heap[p]? = some (.cells (CS.row (memV m) og cf ⟨lf, st.last, n5, st.pid, st.pend, st.bv, st.bn⟩ sc).toArray 143 (0, 0)) := by
    refine ((hg.block p (Nat.lt_of_lt_of_le hpl h0.size) (fun e => ?_)).trans (h0.block p hpl (by simp))).trans hp.1
    rcases hk.block with hb | ⟨hb, hrp⟩
    · rw [hb] at e; cases e
    · rw [hb] at e; injection e with e; exact hrp e.symm
  have hs3 := (hs2.setCell (p := ⟨p, 3, none⟩) (.inl (by simp)) (.slice (some ⟨g1, 0, none⟩) (st.stk.length + 1) cap1)).setCell (p := ⟨p, 4, none⟩) (.inl (by simp)) (.int .i64 0)
  refine ⟨⟨b, g, g1, K, .slice (some ⟨g1, 0, none⟩) (st.stk.length + 1) cap1, n5, sc, rfl, ⟨?_, hp.2⟩, hm.step hs3 (by simp [Ne.symm hd.1, Ne.symm hr.1]) (by simp [Ne.symm hd.2.1, Ne.symm hr.2.1]) (by simp [Ne.symm hd.2.2, Ne.symm hr.2.2]), hC.step hs3 (fun k hk' => by have := hK k hk'; simp [this]), ?_, hd, ?_, fun k hk' => ?_⟩, hs3.more ?_ ?_⟩
  · rw [heap_set_same (heap_set_same hp2 _)]
    simp [CS.row]
  · rcases hown.2 with ⟨e, _⟩ | ⟨g2, cap2, cur, e, _, h2, h3, h4, h5, h6⟩
    · cases e
    · injection e with e1 e2 e3
      injection e1 with e1
      injection e1 with e1 _ _
      subst e1 e3
      rw [Nat.mul_one] at h6
      refine .inr ⟨_, cur, by simp, heap_set_other (heap_set_other h2 (by exact hgp) _) (by exact hgp) _, by omega, by simpa using h3, h4, ?_, hgp⟩
      simpa using h6
  · rcases hgr with h | h
    · rw [h]; exact hr
    · exact ⟨by omega, by omega, by omega⟩
  · have h1 := hK k hk'
    have h2 := hC.lt k hk'
    refine ⟨h1.1, h1.2.1, h1.2.2.1, ?_⟩
    rcases hgr with h | h
    · rw [h]; exact h1.2.2.2
    · omega
  · intro k hk'
    simp only [List.mem_cons, List.not_mem_nil, or_false] at hk'
    rcases hk' with rfl | rfl <;> simp
  · intro k hk'
    simp only [List.mem_cons] at hk'
    rcases hk' with rfl | rfl | rfl | rfl | rfl | hk'
    · simp
    · simp
    · simp
    · simp
    · simp
    · simp [hk']

set_option maxRecDepth 100000 in
set_option maxHeartbeats 1000000 in
theorem cp_strB {p m : Nat} {og cf : Value} {c : Cfg} {S : List Nat} {st : CSt} {l : List UInt8} {w : World} (h : CP p m og cf c 0 S st l w) (cx : Value) (nm : Value) (hlim : st.stk.length < 5000000000000) :
    Calls Tryz.prog 145 #[.pointer (some ⟨p, 0, none⟩), cx, nm] w (Did (CIs p m og cf c) S w (({ st with stk := st.stk ++ [st.last], last := 0 }, l), 0)) := by
  obtain ⟨b, g, r, K, lf, n5, sc, rfl, hp, hm, hC, hk, hd, hr, hK⟩ := h
  obtain ⟨i0, hi, hz0, hz1, hz2⟩ := info_parts infoInt
  have hp1 : ∀ o, Cmp p (memV m) og cf ⟨lf, st.last, n5, st.pid, st.pend, st.bv, st.bn⟩ sc (w.alloc o) := fun o => hp.alloc o
  have HP := Lib.hid (fun o W2 g1 cap1 => @CP.push p m b g r g1 cap1 (w.heap.size + 1) og cf lf n5 c K st sc l w (w.alloc o).drew W2 st.last hp hm hC hk hd hr hK (((Step.refl [] w).alloc o).drew))
  have HO := Lib.hid (fun o => show (w.alloc o).drew.ownsRow 0 3 1 lf st.stk.length (st.stk.map (Value.int .i64)) from by
    have h1 := (hk.step ((Step.refl [] w).alloc o) (by simp)).owns
    exact h1)
  have HN := Lib.hid (fun cs => World.news_of_block (show (w.alloc (.cells cs 3)).drew.heap[w.heap.size]? = some (.cells cs 3 (0, 0)) from heap_alloc_new w _))
  have hq2 : ∀ o W2, (w.alloc o).drew.grownBy W2 lf.ownBlock → W2.heap[p]? = some (.cells (CS.row (memV m) og cf ⟨lf, st.last, n5, st.pid, st.pend, st.bv, st.bn⟩ sc).toArray 143 (0, 0)) := fun o W2 hg =>
    (hg.block p (by have := hp.lt; simp; omega) (fun e => by
      rcases hk.block with hb | ⟨hb, hrp⟩
      · rw [hb] at e; cases e
      · rw [hb] at e; injection e with e; exact hrp e.symm)).trans (heap_alloc_old hp.1 o)
  have HQ0 := Lib.hid (show Keeps3 p lf st.last w from Keeps3.of hp.1)
  have HQ1 := Lib.hid (fun o => show Keeps3 p lf st.last (w.alloc o) from Keeps3.of (hp1 o).1)
  have HQ2 := Lib.hid (fun o W2 (hg : (w.alloc o).drew.grownBy W2 lf.ownBlock) => show Keeps3 p lf st.last W2 from Keeps3.of (hq2 o W2 hg))
  clear hq2 hp hm hC hk hp1
  go_enter Tryz.func145, Tryz.ntmps145
  go_wp2_with (fail)
  refine start_ (n := 14) (S := Keeps3 p lf st.last) (ds := [13]) #[false, false, false, false, false, false, false, false, false, false, false, false, false, false] (by kernel_rfl) rfl rfl HQ0.out (fun hHeld => ?_)
  refine pure_ (i := 0) (N := some 7) (v := ?_) (a' := ?_) #[true, false, false, false, false, false, false, false, false, false, false, false, false, false] rfl rfl (by kernel_rfl) (fun _ _ _ h => h) (Or.inl ⟨by rfl, ?_⟩) ?_ ?_
  rotate_left
  · intro w'
    go_simp
    with_reducible rfl
  rotate_left
  · simp only [Act.put, List.setIfInBounds_toArray, List.set_cons_zero, List.set_cons_succ, i64_w, i32_w]
    rfl
  refine pure_ (i := 1) (N := some 8) (v := ?_) (a' := ?_) #[true, true, false, false, false, false, false, false, false, false, false, false, false, false] rfl rfl (by kernel_rfl) (fun _ _ _ h => h) (Or.inl ⟨by rfl, ?_⟩) ?_ ?_
  rotate_left
  · intro w'
    go_simp
    with_reducible rfl
  rotate_left
  · simp only [Act.put, List.setIfInBounds_toArray, List.set_cons_zero, List.set_cons_succ, i64_w, i32_w]
    rfl
  refine pure_ (i := 5) (N := some 12) (v := ?_) (a' := ?_) #[true, true, false, false, false, true, false, false, false, false, false, false, false, false] rfl rfl (by kernel_rfl) (fun _ _ _ h => h) (Or.inl ⟨by rfl, ?_⟩) ?_ ?_
  rotate_left
  · intro w'
    go_simp
    with_reducible rfl
  rotate_left
  · simp only [Act.put, List.setIfInBounds_toArray, List.set_cons_zero, List.set_cons_succ, i64_w, i32_w]
    rfl
  refine pure_ (i := 2) (N := some 9) (v := ?_) (a' := ?_) #[true, true, true, false, false, true, false, false, false, false, false, false, false, false] rfl rfl (by kernel_rfl) (fun _ _ _ h => h) (Or.inl ⟨by rfl, ?_⟩) ?_ ?_
  rotate_left
  · intro w'
    go_simp
    with_reducible rfl
  rotate_left
  · simp only [Act.put, List.setIfInBounds_toArray, List.set_cons_zero, List.set_cons_succ, i64_w, i32_w]
    rfl
  refine pure_ (i := 3) (N := some 10) (v := ?_) (a' := ?_) #[true, true, true, true, false, true, false, false, false, false, false, false, false, false] rfl rfl (by kernel_rfl) (fun _ _ _ h => h) (Or.inl ⟨by rfl, ?_⟩) ?_ ?_
  rotate_left
  · intro w'
    go_simp
    with_reducible rfl
  rotate_left
  · simp only [Act.put, List.setIfInBounds_toArray, List.set_cons_zero, List.set_cons_succ, i64_w, i32_w]
    rfl
  refine pure_ (i := 6) (N := some 13) (v := ?_) (a' := ?_) #[true, true, true, true, false, true, true, false, false, false, false, false, false, false] rfl rfl (by kernel_rfl) (fun _ _ _ h => h) (Or.inl ⟨by rfl, ?_⟩) ?_ ?_
  rotate_left
  · intro w'
    go_simp
    with_reducible rfl
  rotate_left
  · simp only [Act.put, List.setIfInBounds_toArray, List.set_cons_zero, List.set_cons_succ, i64_w, i32_w]
    rfl
  refine pure_ (i := 7) (N := some 14) (v := ?_) (a' := ?_) #[true, true, true, true, false, true, true, true, false, false, false, false, false, false] rfl rfl (by kernel_rfl) (fun _ _ _ h => h) (Or.inl ⟨by rfl, ?_⟩) ?_ ?_
  rotate_left
  · intro w'
    go_simp
    with_reducible rfl
  rotate_left
  · simp only [Act.put, List.setIfInBounds_toArray, List.set_cons_zero, List.set_cons_succ, i64_w, i32_w]
    rfl
  refine take_ (i := 4) (N := some 11) (v := ?_) (a' := ?_) #[true, true, true, true, true, true, true, true, false, false, false, false, false, false] rfl rfl (by kernel_rfl) (fun _ _ _ h => h) (Or.inl ⟨by rfl, ?_⟩) hHeld ?_ ?_
  rotate_left
  · rintro w' ⟨s0, s1, s2, s3⟩
    go_simp
    with_reducible rfl
  rotate_left
  · simp only [Act.put, List.setIfInBounds_toArray, List.set_cons_zero, List.set_cons_succ, i64_w, i32_w]
    rfl
  refine take_ (i := 8) (N := some 15) (v := ?_) (a' := ?_) #[true, true, true, true, true, true, true, true, true, false, false, false, false, false] rfl rfl (by kernel_rfl) (fun _ _ _ h => h) (Or.inl ⟨by rfl, ?_⟩) hHeld ?_ ?_
  rotate_left
  · rintro w' ⟨s0, s1, s2, s3⟩
    go_simp
    with_reducible rfl
  rotate_left
  · simp only [Act.put, List.setIfInBounds_toArray, List.set_cons_zero, List.set_cons_succ, i64_w, i32_w]
    rfl
  refine one_ (i := 9) (N := some 16) #[true, true, true, true, true, true, true, true, true, true, false, false, false, false] rfl rfl (by kernel_rfl) (by decide) (fun K hK => ?_)
  refine value_ (w1 := (w.alloc (.cells #[.int .i64 st.last] 3)).drew) (v := .slice (some ⟨w.heap.size, 0, none⟩) 1 1) (by rfl) rfl (by go_simp) ?_
  refine hK.out _ _ (HQ1.out _) (fun hHeld => ?_)
  clear hK K
  refine norm_ (a' := ?_) ?_ ?_
  rotate_left
  · show Act.put _ (some 16) _ = _
    simp only [Act.put, List.setIfInBounds_toArray, List.set_cons_zero, List.set_cons_succ, i64_w, i32_w]
    rfl
  refine one_ (i := 10) (N := some 17) #[true, true, true, true, true, true, true, true, true, true, true, false, false, false] rfl rfl (by kernel_rfl) (by decide) (fun K hK => ?_)
  (refine step_append_lies _ (by rfl) _ _ _ (by rfl) 0 3 i0 (.int .i64 0) 1 8 Tryz.underlying25 hi hz0 hz1 hz2 rfl (by omega) _ _ _ rfl (HO.out _) ⟨w.heap.size, 0, none⟩ 1 1 _ rfl ?_ (HN.out _) ?_ (by omega) ?_ ?_ ?_ _ rfl ?_; rfl; (intro x hx; simp at hx; subst hx; rfl); (unfold maxLen; omega); omega; (simp <;> omega); intro g1 cap1 W2 hown hgrow hat hlt)
  refine hK.out _ _ (HQ2.out _ _ hgrow) (fun hHeld => ?_)
  clear hK K
  refine norm_ (a' := ?_) ?_ ?_
  rotate_left
  · show Act.put _ (some 17) _ = _
    simp only [Act.put, List.setIfInBounds_toArray, List.set_cons_zero, List.set_cons_succ, i64_w, i32_w]
    rfl
  refine pure_ (i := 11) (N := some 18) (v := ?_) (a' := ?_) #[true, true, true, true, true, true, true, true, true, true, true, true, false, false] rfl rfl (by kernel_rfl) (fun _ _ _ h => h) (Or.inl ⟨by rfl, ?_⟩) ?_ ?_
  rotate_left
  · intro w'
    go_simp
    with_reducible rfl
  rotate_left
  · simp only [Act.put, List.setIfInBounds_toArray, List.set_cons_zero, List.set_cons_succ, i64_w, i32_w]
    rfl
  refine pure_ (i := 12) (N := some 19) (v := ?_) (a' := ?_) #[true, true, true, true, true, true, true, true, true, true, true, true, true, false] rfl rfl (by kernel_rfl) (fun _ _ _ h => h) (Or.inl ⟨by rfl, ?_⟩) ?_ ?_
  rotate_left
  · intro w'
    go_simp
    with_reducible rfl
  rotate_left
  · simp only [Act.put, List.setIfInBounds_toArray, List.set_cons_zero, List.set_cons_succ, i64_w, i32_w]
    rfl
  have HOW := Lib.hid hown
  have HGR := Lib.hid hgrow
  have HAT := Lib.hid hat
  clear hown hgrow hat
  obtain ⟨s0, s1, s2, s3⟩ := hHeld
  refine last_ (i := 13) (N := none) #[true, true, true, true, true, true, true, true, true, true, true, true, true, true] rfl rfl (by kernel_rfl) (by decide) (fun K hK => ?_)
  refine skip_ (w1 := W2.setCell ⟨p, 3, none⟩ (.slice (some ⟨g1, 0, none⟩) (st.stk.length + 1) cap1)) (by rfl) rfl (by go_simp) ?_
  refine hK.out _ _ ?_
  clear hK K
  refine done_ (by kernel_rfl) ?_
  go_wp2
  go_ret
  have HF := HP.out _ W2 g1 cap1 HGR.out HOW.out (by rcases HAT.out with h | h; exact .inl h; exact .inr (by simpa using h)) (by omega)
  exact ⟨_, _, rfl, IsErr.nil _, HF.1, HF.2⟩

end Go.Proofs.YtnpiheoglilcbaaGreatDoor

/-! The compact protocol over a memory buffer: structs' ends (under way). -/
namespace Go.Proofs.YtnpiheoglilcbaaGreatDoor
open Go.RowKit Go.Deep Go.Proofs.YtnpiheoglilcbaaGreatDoorW.PrintLast
set_option linter.unusedVariables false
set_option linter.unusedSimpArgs false

/-- What the struct's own cell holds. -/
def Keeps1 (p : Nat) (lf : Value) (W : World) : Prop := W.cell? ⟨p, 3, none⟩ = some lf ∧ W.frozen? ⟨p, 3, none⟩ = false

theorem CP.pop {p m b g r cap : Nat} {og cf n5 : Value} {c : Cfg} {K : List Nat} {st : CSt} {sc : List Value} {cur : Array Value} {l : List UInt8} {w : World} {xs : List Int} {x : Int} (hx : st.stk = xs ++ [x]) (hp : Cmp p (memV m) og cf ⟨.slice (some ⟨r, 0, none⟩) st.stk.length cap, st.last, n5, st.pid, st.pend, st.bv, st.bn⟩ sc w) (hm : Mem m b g 0 (Lib.byteCells l) w) (hC : CfgAt c cf K w)
    (k1 : w.heap[r]? = some (.cells cur 3 (0, 0))) (k2 : cur.size = cap) (k3 : st.stk.length ≤ cap) (k4 : cap ≤ maxLen) (k5 : cur.toList.take st.stk.length = st.stk.map (Value.int .i64)) (k6 : r ≠ p) (hd : p ≠ m ∧ p ≠ b ∧ p ≠ g) (hr : r ≠ m ∧ r ≠ b ∧ r ≠ g) (hK : ∀ k, k ∈ K → k ≠ p ∧ k ≠ b ∧ k ≠ g ∧ k ≠ r) :
    CP p m og cf c 0 (p :: m :: b :: g :: r :: K) { st with stk := xs, last := x } l (((w.setCell ⟨p, 4, none⟩ (.int .i64 x)).drew.drew).setCell ⟨p, 3, none⟩ (.slice (some ⟨r, 0, none⟩) xs.length cap)) ∧
      Step (p :: m :: b :: g :: r :: K) (p :: m :: b :: g :: r :: K) w (((w.setCell ⟨p, 4, none⟩ (.int .i64 x)).drew.drew).setCell ⟨p, 3, none⟩ (.slice (some ⟨r, 0, none⟩) xs.length cap)) := by
  have hs : Step [p] [p] w (((w.setCell ⟨p, 4, none⟩ (.int .i64 x)).drew.drew).setCell ⟨p, 3, none⟩ (.slice (some ⟨r, 0, none⟩) xs.length cap)) :=
    ((((Step.refl [p] w).setCell (p := ⟨p, 4, none⟩) (.inl (by simp)) _).drew).drew).setCell (p := ⟨p, 3, none⟩) (.inl (by simp)) _
  have hl : st.stk.length = xs.length + 1 := by rw [hx]; simp
  have hp1 : (w.setCell ⟨p, 4, none⟩ (.int .i64 x)).drew.drew.heap[p]? = _ := heap_set_same hp.1 _
  refine ⟨⟨b, g, r, K, .slice (some ⟨r, 0, none⟩) xs.length cap, n5, sc, rfl, ⟨?_, hp.2⟩, hm.step hs (by simp [Ne.symm hd.1]) (by simp [Ne.symm hd.2.1]) (by simp [Ne.symm hd.2.2]), hC.step hs (fun k hk => by have := hK k hk; simp [this]), .inr ⟨cap, cur, rfl, (hs.block r (lt_heap k1) (by simp [k6])).trans k1, k2, by dsimp only; omega, k4, ?_, k6⟩, hd, hr, hK⟩,
    hs.more (by simp) (fun k hk => .inr (.inl hk))⟩
  · rw [heap_set_same hp1]
    simp [CS.row]
  · have := congrArg (List.take xs.length) k5
    rw [List.take_take, hx] at this
    simpa using this

set_option maxRecDepth 100000 in
set_option maxHeartbeats 1000000 in
theorem cp_strE {p m : Nat} {og cf : Value} {c : Cfg} {S : List Nat} {st : CSt} {l : List UInt8} {w : World} (h : CP p m og cf c 0 S st l w) (cx : Value) (xs : List Int) (x : Int) (hx : st.stk = xs ++ [x]) :
    Calls Tryz.prog 146 #[.pointer (some ⟨p, 0, none⟩), cx] w (Did (CIs p m og cf c) S w (({ st with stk := xs, last := x }, l), 0)) := by
  obtain ⟨b, g, r, K, lf, n5, sc, rfl, hp, hm, hC, hk, hd, hr, hK⟩ := h
  have c3 : w.cell? ⟨p, 3, none⟩ = some lf := by rw [hp.cells]; rfl
  have c4 : w.cell? ⟨p, 4, none⟩ = some (.int .i64 st.last) := by rw [hp.cells]; rfl
  have f4 := frozen_heap hp.1 4
  have f3 := frozen_heap hp.1 3
  rcases hk with ⟨rfl, h0, rfl⟩ | ⟨cap, cur, rfl, k1, k2, k3, k4, k5, k6⟩
  · rw [h0] at hx
    simp at hx
  have hl : st.stk.length = xs.length + 1 := by rw [hx]; simp
  have cx1 : w.cell? ⟨r, xs.length, none⟩ = some (.int .i64 x) := by
    rw [cell_heap k1]
    have : (cur.toList.take st.stk.length)[xs.length]? = (st.stk.map (Value.int .i64))[xs.length]? := by rw [k5]
    rw [List.getElem?_take_of_lt (by omega), hx] at this
    simpa using this
  rw [hl] at c3
  obtain ⟨n, hn⟩ : ∃ n, xs.length = n := ⟨_, rfl⟩
  rw [hn] at c3 cx1
  have hnm : n + 1 ≤ 9223372036854775807 := by unfold maxLen at k4; omega
  have hnc : n ≤ cap := by omega
  have hw1 : wrap64 ((n : Int) + 1 - 1) = n := by unfold wrap64; omega
  have hw2 : wrap64 (n : Int) = n := by unfold wrap64; omega
  have hw3 : IntKind.i64.wrap ((n : Int) + 1 - 1) = n := by rw [IntKind.wrap_i64]; omega
  have hw4 : IntKind.i64.wrap (((n + 1 : Nat) : Int) - 1) = n := by rw [IntKind.wrap_i64]; omega
  have hw5 : IntKind.i64.wrap (n : Int) = n := by rw [IntKind.wrap_i64]; omega
  have hb1 : (n : Int) < (n : Int) + 1 := by omega
  have hb0 : (0 : Int) ≤ (n : Int) := by omega
  go_enter Tryz.func146, Tryz.ntmps146
  go_wp2_with (fail)
  go_region_held3 (fun W' => W'.cell? ⟨p, 3, none⟩ = some (.slice (some ⟨r, 0, none⟩) (n + 1) cap) ∧ W'.cell? ⟨r, n, none⟩ = some (.int .i64 x) ∧ W'.frozen? ⟨p, 4, none⟩ = false) (first | exact ⟨c3, cx1, f4⟩ | (simp [go_sem, *]; done)) (fail)
  obtain ⟨W1, hW1⟩ : ∃ W1, W1 = (w.setCell ⟨p, 4, none⟩ (.int .i64 x)).drew := ⟨_, rfl⟩
  rw [← hW1]
  have d3 : W1.cell? ⟨p, 3, none⟩ = some (.slice (some ⟨r, 0, none⟩) (n + 1) cap) := by rw [hW1]; simp [go_sem, c3]
  have g3 : W1.frozen? ⟨p, 3, none⟩ = false := by rw [hW1]; simp [go_sem, f3]
  have HW1 := Lib.hid hW1
  clear hW1 c3 c4 cx1 f4 f3
  have HP := Lib.hid (CP.pop hx hp hm hC k1 k2 k3 k4 k5 k6 hd hr hK)
  go_wp2_with (fail)
  have HQ0 := Lib.hid (show Keeps1 p (.slice (some ⟨r, 0, none⟩) (n + 1) cap) W1 from ⟨d3, g3⟩)
  refine start_ (n := 15) (S := Keeps1 p (.slice (some ⟨r, 0, none⟩) (n + 1) cap)) (ds := [14]) #[false, false, false, false, false, false, false, false, false, false, false, false, false, false, false] (by kernel_rfl) rfl rfl HQ0.out (fun hHeld => ?_)
  refine pure_ (i := 0) (N := some 28) (v := ?_) (a' := ?_) #[true, false, false, false, false, false, false, false, false, false, false, false, false, false, false] rfl rfl (by kernel_rfl) (fun _ _ _ h => h) (Or.inl ⟨by rfl, ?_⟩) ?_ ?_
  rotate_left
  · intro w'
    go_simp
    with_reducible rfl
  rotate_left
  · simp only [Act.put, List.setIfInBounds_toArray, List.set_cons_zero, List.set_cons_succ, i64_w, i32_w, hw1, hw2, hw3, hw4, hw5]
    rfl
  refine pure_ (i := 1) (N := some 29) (v := ?_) (a' := ?_) #[true, true, false, false, false, false, false, false, false, false, false, false, false, false, false] rfl rfl (by kernel_rfl) (fun _ _ _ h => h) (Or.inl ⟨by rfl, ?_⟩) ?_ ?_
  rotate_left
  · intro w'
    go_simp
    with_reducible rfl
  rotate_left
  · simp only [Act.put, List.setIfInBounds_toArray, List.set_cons_zero, List.set_cons_succ, i64_w, i32_w, hw1, hw2, hw3, hw4, hw5]
    rfl
  refine pure_ (i := 5) (N := some 33) (v := ?_) (a' := ?_) #[true, true, false, false, false, true, false, false, false, false, false, false, false, false, false] rfl rfl (by kernel_rfl) (fun _ _ _ h => h) (Or.inl ⟨by rfl, ?_⟩) ?_ ?_
  rotate_left
  · intro w'
    go_simp
    with_reducible rfl
  rotate_left
  · simp only [Act.put, List.setIfInBounds_toArray, List.set_cons_zero, List.set_cons_succ, i64_w, i32_w, hw1, hw2, hw3, hw4, hw5]
    rfl
  refine pure_ (i := 2) (N := some 30) (v := ?_) (a' := ?_) #[true, true, true, false, false, true, false, false, false, false, false, false, false, false, false] rfl rfl (by kernel_rfl) (fun _ _ _ h => h) (Or.inl ⟨by rfl, ?_⟩) ?_ ?_
  rotate_left
  · intro w'
    go_simp
    with_reducible rfl
  rotate_left
  · simp only [Act.put, List.setIfInBounds_toArray, List.set_cons_zero, List.set_cons_succ, i64_w, i32_w, hw1, hw2, hw3, hw4, hw5]
    rfl
  refine pure_ (i := 3) (N := some 31) (v := ?_) (a' := ?_) #[true, true, true, true, false, true, false, false, false, false, false, false, false, false, false] rfl rfl (by kernel_rfl) (fun _ _ _ h => h) (Or.inl ⟨by rfl, ?_⟩) ?_ ?_
  rotate_left
  · intro w'
    go_simp
    with_reducible rfl
  rotate_left
  · simp only [Act.put, List.setIfInBounds_toArray, List.set_cons_zero, List.set_cons_succ, i64_w, i32_w, hw1, hw2, hw3, hw4, hw5]
    rfl
  refine pure_ (i := 6) (N := some 34) (v := ?_) (a' := ?_) #[true, true, true, true, false, true, true, false, false, false, false, false, false, false, false] rfl rfl (by kernel_rfl) (fun _ _ _ h => h) (Or.inl ⟨by rfl, ?_⟩) ?_ ?_
  rotate_left
  · intro w'
    go_simp
    with_reducible rfl
  rotate_left
  · simp only [Act.put, List.setIfInBounds_toArray, List.set_cons_zero, List.set_cons_succ, i64_w, i32_w, hw1, hw2, hw3, hw4, hw5]
    rfl
  refine pure_ (i := 7) (N := some 35) (v := ?_) (a' := ?_) #[true, true, true, true, false, true, true, true, false, false, false, false, false, false, false] rfl rfl (by kernel_rfl) (fun _ _ _ h => h) (Or.inl ⟨by rfl, ?_⟩) ?_ ?_
  rotate_left
  · intro w'
    go_simp
    with_reducible rfl
  rotate_left
  · simp only [Act.put, List.setIfInBounds_toArray, List.set_cons_zero, List.set_cons_succ, i64_w, i32_w, hw1, hw2, hw3, hw4, hw5]
    rfl
  refine take_ (i := 4) (N := some 32) (v := ?_) (a' := ?_) #[true, true, true, true, true, true, true, true, false, false, false, false, false, false, false] rfl rfl (by kernel_rfl) (fun _ _ _ h => h) (Or.inl ⟨by rfl, ?_⟩) hHeld ?_ ?_
  rotate_left
  · rintro w' ⟨s0, s1⟩
    go_simp
    with_reducible rfl
  rotate_left
  · simp only [Act.put, List.setIfInBounds_toArray, List.set_cons_zero, List.set_cons_succ, i64_w, i32_w, hw1, hw2, hw3, hw4, hw5]
    rfl
  refine take_ (i := 8) (N := some 36) (v := ?_) (a' := ?_) #[true, true, true, true, true, true, true, true, true, false, false, false, false, false, false] rfl rfl (by kernel_rfl) (fun _ _ _ h => h) (Or.inl ⟨by rfl, ?_⟩) hHeld ?_ ?_
  rotate_left
  · rintro w' ⟨s0, s1⟩
    go_simp
    with_reducible rfl
  rotate_left
  · simp only [Act.put, List.setIfInBounds_toArray, List.set_cons_zero, List.set_cons_succ, i64_w, i32_w, hw1, hw2, hw3, hw4, hw5]
    rfl
  refine pure_ (i := 9) (N := some 37) (v := ?_) (a' := ?_) #[true, true, true, true, true, true, true, true, true, true, false, false, false, false, false] rfl rfl (by kernel_rfl) (fun _ _ _ h => h) (Or.inl ⟨by rfl, ?_⟩) ?_ ?_
  rotate_left
  · intro w'
    go_simp
    with_reducible rfl
  rotate_left
  · simp only [Act.put, List.setIfInBounds_toArray, List.set_cons_zero, List.set_cons_succ, i64_w, i32_w, hw1, hw2, hw3, hw4, hw5]
    rfl
  refine pure_ (i := 10) (N := some 38) (v := ?_) (a' := ?_) #[true, true, true, true, true, true, true, true, true, true, true, false, false, false, false] rfl rfl (by kernel_rfl) (fun _ _ _ h => h) (Or.inl ⟨by rfl, ?_⟩) ?_ ?_
  rotate_left
  · intro w'
    go_simp
    with_reducible rfl
  rotate_left
  · simp only [Act.put, List.setIfInBounds_toArray, List.set_cons_zero, List.set_cons_succ, i64_w, i32_w, hw1, hw2, hw3, hw4, hw5]
    rfl
  refine pure_ (i := 11) (N := some 39) (v := ?_) (a' := ?_) #[true, true, true, true, true, true, true, true, true, true, true, true, false, false, false] rfl rfl (by kernel_rfl) (fun _ _ _ h => h) (Or.inl ⟨by rfl, ?_⟩) ?_ ?_
  rotate_left
  · intro w'
    go_simp
    with_reducible rfl
  rotate_left
  · simp only [Act.put, List.setIfInBounds_toArray, List.set_cons_zero, List.set_cons_succ, i64_w, i32_w, hw1, hw2, hw3, hw4, hw5]
    rfl
  refine pure_ (i := 12) (N := some 40) (v := ?_) (a' := ?_) #[true, true, true, true, true, true, true, true, true, true, true, true, true, false, false] rfl rfl (by kernel_rfl) (fun _ _ _ h => h) (Or.inl ⟨by rfl, ?_⟩) ?_ ?_
  rotate_left
  · intro w'
    go_simp
    with_reducible rfl
  rotate_left
  · simp only [Act.put, List.setIfInBounds_toArray, List.set_cons_zero, List.set_cons_succ, i64_w, i32_w, hw1, hw2, hw3, hw4, hw5]
    rfl
  refine pure_ (i := 13) (N := some 41) (v := ?_) (a' := ?_) #[true, true, true, true, true, true, true, true, true, true, true, true, true, true, false] rfl rfl (by kernel_rfl) (fun _ _ _ h => h) (Or.inl ⟨by rfl, ?_⟩) ?_ ?_
  rotate_left
  · intro w'
    go_simp
    with_reducible rfl
  rotate_left
  · simp only [Act.put, List.setIfInBounds_toArray, List.set_cons_zero, List.set_cons_succ, i64_w, i32_w, hw1, hw2, hw3, hw4, hw5]
    rfl
  obtain ⟨s0, s1⟩ := hHeld
  refine last_ (i := 14) (N := none) #[true, true, true, true, true, true, true, true, true, true, true, true, true, true, true] rfl rfl (by kernel_rfl) (by decide) (fun K hK => ?_)
  refine skip_ (w1 := W1.drew.setCell ⟨p, 3, none⟩ (.slice (some ⟨r, 0, none⟩) n cap)) (by rfl) rfl (by go_simp) ?_
  refine hK.out _ _ ?_
  clear hK K
  refine done_ (by kernel_rfl) ?_
  go_wp2
  go_ret
  have hF := HP.out
  rw [hn] at hF
  rw [HW1.out]
  exact ⟨_, _, rfl, IsErr.nil _, hF.1, hF.2⟩

end Go.Proofs.YtnpiheoglilcbaaGreatDoor

/-! The compact protocol over a memory buffer: doubles; begins of messages. -/
namespace Go.Proofs.YtnpiheoglilcbaaGreatDoor
open Go.RowKit Go.Deep
set_option linter.unusedVariables false
set_option linter.unusedSimpArgs false

/-- Cells of its scratch are set. -/
theorem Cmp.setAt {p : Nat} {tr og cf : Value} {s : CS} {sc : List Value} {w : World} (h : Cmp p tr og cf s sc w) (vs : List Value) (hv : vs.length ≤ 64) (h1 : ∀ v ∈ vs, v.oneCell' = true) :
    ∃ sc1, Cmp p tr og cf s sc1 (w.setCells p 10 vs) ∧ sc1.take vs.length = vs := by
  obtain ⟨cs1, e1, e2, e3⟩ := heap_setCells h.1 10 vs
  have hl := h.2.1
  have e4 := e3 (by simp [CS.row, hl]; omega)
  refine ⟨vs ++ sc.drop vs.length, ⟨?_, by simp [hl]; omega, fun v hv => ?_⟩, by simp⟩
  · rw [e1]
    congr 2
    apply Array.toList_inj.1
    rw [e4]
    simp [CS.row, Nat.add_comm 10]
  · rcases List.mem_append.1 hv with hv | hv
    · exact h1 v hv
    · exact h.2.2 v (List.mem_of_mem_drop hv)

theorem ownC1 {p m b g r : Nat} {K : List Nat} {w w1 : World} (hs : Step [p] [p] w w1) : Step (p :: m :: b :: g :: r :: K) (p :: m :: b :: g :: r :: K) w w1 :=
  hs.more (by simp) (fun k hk => .inr (.inl hk))

set_option maxRecDepth 100000 in
set_option maxHeartbeats 1000000 in
theorem cp_dbl {p m : Nat} {og cf : Value} {c : Cfg} {S : List Nat} {st : CSt} {l : List UInt8} {w : World} (h : CP p m og cf c 0 S st l w) (cx : Value) (n : Nat) (hn : n < 18446744073709551616) (hlim : l.length + 8 ≤ 140737488355328) :
    Calls Tryz.prog 129 #[.pointer (some ⟨p, 0, none⟩), cx, .float .f64 n] w (Did (CIs p m og cf c) S w ((st, l ++ le8 n), 0)) := by
  obtain ⟨b, g, r, K, lf, nm, sc, rfl, hp, h, hC, hk, hd, hr, hK⟩ := h
  have c0 : w.cell? ⟨p, 0, none⟩ = some (memV m) := by rw [hp.cells]; rfl
  have cm := h.cell
  have hmeth := mem_Write
  have hfb := f64bits
  have hvl := Lib.hid hn
  clear hn
  obtain ⟨L, hL⟩ : ∃ L, le8 n = L := ⟨_, rfl⟩
  have hLl : L.length = 8 := by rw [← hL]; simp [le8, Lib.leBytes_length]
  have HLe := Lib.hid hL
  clear hL
  obtain ⟨x0, d0, f0⟩ := hp.cell 0 (by omega)
  obtain ⟨x1, d1, f1⟩ := hp.cell 1 (by omega)
  obtain ⟨x2, d2, f2⟩ := hp.cell 2 (by omega)
  obtain ⟨x3, d3, f3⟩ := hp.cell 3 (by omega)
  obtain ⟨x4, d4, f4⟩ := hp.cell 4 (by omega)
  obtain ⟨x5, d5, f5⟩ := hp.cell 5 (by omega)
  obtain ⟨x6, d6, f6⟩ := hp.cell 6 (by omega)
  obtain ⟨x7, d7, f7⟩ := hp.cell 7 (by omega)
  simp only [Nat.reduceAdd] at d0 f0 d1 f1 d2 f2 d3 f3 d4 f4 d5 f5 d6 f6 d7 f7
  go_enter Tryz.func129, Tryz.ntmps129
  go_wp2_with (fail)
  go_region_with (go_at_call 169; refine (Tryz.binary_LE_PutUint64 p 10 8 64 n hvl.out x0 x1 x2 x3 x4 x5 x6 x7 w.drew (Nat.le_refl _) d0 d1 d2 d3 d4 d5 d6 d7 f0 f1 f2 f3 f4 f5 f6 f7).mono ?_; rintro e _ ⟨rfl, rfl⟩)
  all_goals (
    obtain ⟨W1, hW1'⟩ : ∃ W1, W1 = (w.alloc (.cells #[] 267)).drew.setCells p 10 (Lib.byteCells (Lib.leBytes 8 n)) := ⟨_, rfl⟩
    rw [← hW1']
    rw [show Lib.leBytes 8 n = L from HLe.out] at hW1'
    have hbl : (Lib.byteCells L).length = 8 := by rw [Lib.byteCells_length]; exact hLl
    obtain ⟨sc1, hp1, hsc⟩ := (show Cmp p (memV m) og cf ⟨lf, st.last, nm, st.pid, st.pend, st.bv, st.bn⟩ sc (w.alloc (.cells #[] 267)).drew from hp.alloc _).setAt (Lib.byteCells L) (by omega) (Lib.byteCells_one _)
    rw [← hW1'] at hp1
    have hs1 : Step [p] [p] w W1 := by rw [hW1']; exact (((Step.refl _ _).alloc _).drew).setCells (.inl (by simp)) _ _
    have h2 : Mem m b g 0 (Lib.byteCells l) W1 := by
      rw [hW1']
      have ha : Mem m b g 0 (Lib.byteCells l) (w.alloc (.cells #[] 267)).drew := h.alloc (.cells #[] 267)
      exact ha.carry (heap_setCells_other (Ne.symm hd.1) _ _) (heap_setCells_other (Ne.symm hd.2.1) _ _) (heap_setCells_other (Ne.symm hd.2.2) _ _)
    have hC1 := hC.step hs1 (fun k hk => by have := hK k hk; simp [this])
    have hk1 := hk.step hs1 (fun hrp => by simpa using hrp)
    clear hW1'
    have c0' : W1.cell? ⟨p, 0, none⟩ = some (memV m) := by rw [hp1.cells]; rfl
    have cm' := h2.cell
    have hsrc : ∀ j v', (Lib.byteCells L)[j]? = some v' → W1.cell? ((⟨p, 10, none⟩ : Addr).add j) = some v' := fun j v' hj => by
      rw [Lib.addr_add, hp1.cells, Nat.add_comm]
      simp only [CS.row, List.getElem?_cons_succ]
      rw [← hsc, List.getElem?_take] at hj
      split at hj
      · exact hj
      · cases hj
    have HS := Lib.hid hsrc
    have HL := Lib.hid (hLl)
    clear hsrc hbl hsc c0 cm d0 d1 d2 d3 d4 d5 d6 d7 f0 f1 f2 f3 f4 f5 f6 f7 hvl
    have hwr := Lib.hid (mem_writeBytes m b g 8 64 (some ⟨p, 10, none⟩) l L W1 h2 HL.out (fun a ha => by cases ha; exact ⟨⟨hd.2.1, hd.2.2, hp1.lt⟩, HS.out⟩) (by simp) hlim)
    go_wp2_with (go_at_call 55; refine hwr.out.mono ?_)
    rintro e W2 ⟨⟨n2, rfl⟩, g1, hM, hs⟩
    go_wp2_with (first | (go_at_call 149; go_in))
    go_ret
    rw [HLe.out]
    exact ⟨_, _, rfl, IsErr.nil _, CP.wrote0 hp1 hC1 hk1 hd hr hK hM hs, (ownC1 hs1).trans (ownC (with_p hs))⟩)

theorem verC (t : Int) : bits .or .u8 1 (bits .and .u8 ((t % 256) * 32 % 256) 224) = ((1 + (t % 8).toNat * 32 : Nat) : Int) := by
  have h1 : (t % 256) * 32 % 256 = (t % 8) * 32 := by omega
  rw [h1]
  have h2 : t % 8 = 0 ∨ t % 8 = 1 ∨ t % 8 = 2 ∨ t % 8 = 3 ∨ t % 8 = 4 ∨ t % 8 = 5 ∨ t % 8 = 6 ∨ t % 8 = 7 := by omega
  rcases h2 with h | h | h | h | h | h | h | h <;> rw [h] <;> decide

set_option maxRecDepth 100000 in
set_option maxHeartbeats 1000000 in
theorem cp_msgB {p m : Nat} {og cf : Value} {c : Cfg} {S : List Nat} {st : CSt} {l : List UInt8} {w : World} (h : CP p m og cf c 0 S st l w) (cx : Value) (nm : List UInt8) (t seq : Int) (hs : nm.length ≤ 2147483647) (hlim : l.length + nm.length + 32 ≤ 140737488355328) :
    Calls Tryz.prog 140 #[.pointer (some ⟨p, 0, none⟩), cx, strV nm, .int .i32 t, .int .i32 seq] w (Did (CIs p m og cf c) S w ((st, l ++ (0x82 :: (1 + (t % 8).toNat * 32).toUInt8 :: (Lib.uvarint (seq % 4294967296).toNat ++ cText nm))), 0)) := by
  obtain ⟨N, hN⟩ : ∃ N : Nat, (seq % 4294967296).toNat = N := ⟨_, rfl⟩
  rw [hN]
  have hN2 := Lib.hid (show seq % 4294967296 = N by omega)
  have hlen := Lib.hid (Lib.uvarint_length 4 N (by omega))
  have HV := Lib.hid (verC t)
  clear hN
  go_enter Tryz.func140, Tryz.ntmps140
  go_wp2_with (fail)
  (refine (cp_directN h 130 (by omega) (by omega)).mono ?_; rintro e W1 ⟨ev, S1, rfl, he, h1, s1⟩)
  obtain rfl := he.zero
  clear he
  go_wp2_with (fail)
  rw [HV.out]
  ((with_reducible refine (cp_directN h1 (1 + (t % 8).toNat * 32) (by omega) (by simp; omega)).mono ?_); rintro e W2 ⟨ev, S2, rfl, he, h2, s2⟩)
  obtain rfl := he.zero
  clear he
  go_wp2_with (fail)
  ((with_reducible refine (cp_varint32 h2 seq N hN2.out (by simp; omega)).mono ?_); rintro e W3 ⟨⟨k1, rfl⟩, S3, h3, s3⟩)
  go_wp2_with (fail)
  ((with_reducible refine (cp_str h3 _ nm hs (by have := hlen.out; simp; omega)).mono ?_); rintro e W4 ⟨ev, S4, rfl, he, h4, s4⟩)
  obtain rfl := he.zero
  clear he
  go_wp2
  go_ret
  refine ⟨_, _, rfl, IsErr.nil _, ?_, s1.trans (s2.trans (s3.trans s4))⟩
  simpa [List.append_assoc] using h4

end Go.Proofs.YtnpiheoglilcbaaGreatDoor

/-! The compact protocol over a memory buffer: ends that write nothing; the end of a struct that was not begun. -/
namespace Go.Proofs.YtnpiheoglilcbaaGreatDoor
open Go.RowKit Go.Deep
set_option linter.unusedVariables false
set_option linter.unusedSimpArgs false

theorem cp_msgE {p m : Nat} {og cf : Value} {c : Cfg} {S : List Nat} {st : CSt} {l : List UInt8} {w : World} (h : CP p m og cf c 0 S st l w) (cx : Value) :
    Calls Tryz.prog 141 #[.pointer (some ⟨p, 0, none⟩), cx] w (Did (CIs p m og cf c) S w ((st, l), 0)) := by
  go_enter Tryz.func141, Tryz.ntmps141
  go_wp2
  go_ret
  exact ⟨_, _, rfl, IsErr.nil _, h, Step.refl _ _⟩

theorem cp_fldE {p m : Nat} {og cf : Value} {c : Cfg} {S : List Nat} {st : CSt} {l : List UInt8} {w : World} (h : CP p m og cf c 0 S st l w) (cx : Value) :
    Calls Tryz.prog 131 #[.pointer (some ⟨p, 0, none⟩), cx] w (Did (CIs p m og cf c) S w ((st, l), 0)) := by
  go_enter Tryz.func131, Tryz.ntmps131
  go_wp2
  go_ret
  exact ⟨_, _, rfl, IsErr.nil _, h, Step.refl _ _⟩

theorem cp_mapE {p m : Nat} {og cf : Value} {c : Cfg} {S : List Nat} {st : CSt} {l : List UInt8} {w : World} (h : CP p m og cf c 0 S st l w) (cx : Value) :
    Calls Tryz.prog 139 #[.pointer (some ⟨p, 0, none⟩), cx] w (Did (CIs p m og cf c) S w ((st, l), 0)) := by
  go_enter Tryz.func139, Tryz.ntmps139
  go_wp2
  go_ret
  exact ⟨_, _, rfl, IsErr.nil _, h, Step.refl _ _⟩

theorem cp_lstE {p m : Nat} {og cf : Value} {c : Cfg} {S : List Nat} {st : CSt} {l : List UInt8} {w : World} (h : CP p m og cf c 0 S st l w) (cx : Value) :
    Calls Tryz.prog 137 #[.pointer (some ⟨p, 0, none⟩), cx] w (Did (CIs p m og cf c) S w ((st, l), 0)) := by
  go_enter Tryz.func137, Tryz.ntmps137
  go_wp2
  go_ret
  exact ⟨_, _, rfl, IsErr.nil _, h, Step.refl _ _⟩

theorem cp_setE {p m : Nat} {og cf : Value} {c : Cfg} {S : List Nat} {st : CSt} {l : List UInt8} {w : World} (h : CP p m og cf c 0 S st l w) (cx : Value) :
    Calls Tryz.prog 143 #[.pointer (some ⟨p, 0, none⟩), cx] w (Did (CIs p m og cf c) S w ((st, l), 0)) := by
  go_enter Tryz.func143, Tryz.ntmps143
  go_wp2
  go_ret
  exact ⟨_, _, rfl, IsErr.nil _, h, Step.refl _ _⟩

theorem errS_m (k b : Nat) (w : World) : (method (k + 1) 213 (.pointer (some ⟨b, 0, none⟩)) "Error").run Tryz.prog w = .ok (254, .pointer (some ⟨b, 0, none⟩)) w := by kernel_rfl
theorem errS_n (k b : Nat) (w : World) : (nilAhead (k + 1) 213 (.pointer (some ⟨b, 0, none⟩)) "Error").run Tryz.prog w = .ok (some false) w := by kernel_rfl

set_option maxRecDepth 100000 in
set_option maxHeartbeats 1000000 in
theorem cp_strE_none {p m : Nat} {og cf : Value} {c : Cfg} {S : List Nat} {st : CSt} {l : List UInt8} {w : World} (h : CP p m og cf c 0 S st l w) (cx : Value) (hx : st.stk = []) :
    Calls Tryz.prog 146 #[.pointer (some ⟨p, 0, none⟩), cx] w (Did (CIs p m og cf c) S w ((st, l), 11)) := by
  have HI := Lib.hid h
  obtain ⟨b, g, r, K, lf, n5, sc, rfl, hp, hm, hC, hk, hd, hr, hK⟩ := h
  rw [hx] at hk
  have c3 : ∃ ad cap, w.cell? ⟨p, 3, none⟩ = some (.slice ad 0 cap) := by
    rcases hk with ⟨rfl, h0, rfl⟩ | ⟨cap, cur, rfl, k1, k2, k3, k4, k5, k6⟩
    · exact ⟨_, _, by rw [hp.cells]; rfl⟩
    · exact ⟨_, _, by rw [hp.cells]; rfl⟩
  obtain ⟨ad, cap, c3⟩ := c3
  clear hk hp hm hC hK hd hr hx
  have hem := errS_m
  have hen := errS_n
  go_enter Tryz.func146, Tryz.ntmps146
  go_wp2_with (first | (go_at_call 163; go_in) | (go_at_call 164; go_in) | (go_at_call 254; go_in))
  go_ret
  exact ⟨_, p :: m :: b :: g :: r :: K, rfl, .inr ⟨w.heap.size + 1, 1, _, _, rfl, by omega, rfl, heap_alloc_at (by simp) _⟩, HI.out.step (((Step.refl [] w).alloc _).alloc _) (by simp), ((Step.refl _ _).alloc _).alloc _⟩

end Go.Proofs.YtnpiheoglilcbaaGreatDoor
