/- Bytes written in hexadecimal into a row of whatever type. -/
import Derived.Test.YteadkokfepjgbaaGreatDoorG7
import Derived.Lib.HexFns
import Derived.Laws.Strings3
import Derived.Deep.OwnRows
namespace Go.Proofs.YteadkokfepjgbaaGreatDoor
open Go.RowKit Go.Deep
set_option linter.unusedVariables false
set_option linter.unusedSimpArgs false

theorem grown_refl (w : World) (r : Option Nat) : w.grownBy w r := ⟨rfl, rfl, rfl, Nat.le_refl _, fun _ _ _ => rfl⟩
theorem grown_set {w w1 : World} {b : Nat} (h : w.grownBy w1 (some b)) (o : Nat) (v : Value) : w.grownBy (w1.setCell ⟨b, o, none⟩ v) (some b) :=
  ⟨h.os, h.tape, h.output, by have := h.size; simpa [World.setCell] using this, fun k hk hn => by
    rw [Below.heap_setCell _ _ _ _ (fun e => hn (by rw [e])), h.block k hk hn]⟩

theorem dig_is (d : Nat) (h : d < Lib.Hx.tab.size) : (Lib.Hx.tab[d]'h) = Lib.Hx.digit d := by
  unfold Lib.Hx.digit
  rw [Lib.Pa.at_eq Lib.Hx.tab _ h]
  rfl

set_option maxHeartbeats 2000000 in
set_option maxRecDepth 100000 in
theorem hex_enc (bd od nd cd N : Nat) (ty : TypeId) (f : Nat → Value) (bs os n cs : Nat) (l : List UInt8) (w : World) (hx : l.length = n) (hsrc : ∀ i b, l[i]? = some b → w.cell? ⟨bs, os + i, none⟩ = some (.int .u8 (b.toNat : Nat)))
    (hrow : w.rowIs bd ty N f) (hfit : od + nd ≤ N) (hlen : 2 * n ≤ nd) (hne : bd ≠ bs) (hbig : n ≤ 4611686018427387903) :
    Calls Tryz.prog 75 #[.slice (some ⟨bd, od, none⟩) nd cd, .slice (some ⟨bs, os, none⟩) n cs] w fun e w' => e = .returned (.int .i64 ((n : Int) * 2)) ∧ w'.rowIs bd ty N (Lib.Hx.row f od l n) ∧ w.grownBy w' (some bd) := by
  have HS := Lib.hid hsrc
  have HX := Lib.hid hx
  clear hsrc hx
  go_enter Tryz.func75, Tryz.ntmps75
  go_wp2
  go_loopw [5, 10] (fun vj vi wr => ∃ k : Nat, k ≤ n ∧ vi = .int .i64 k ∧ vj = .int .i64 ((2 * k : Nat) : Int) ∧ Hid (wr.rowIs bd ty N (Lib.Hx.row f od l k)) ∧ Hid (w.grownBy wr (some bd))) (fun _ vi _ => n - (intOf vi).toNat)
  case atStart => exact ⟨0, Nat.zero_le _, rfl, rfl, hrow.congr (fun j _ => Lib.Hx.row_zero f od _ j), grown_refl _ _⟩
  case round =>
    obtain ⟨k, hk, rfl, rfl, hrw, hgr⟩ := hrel
    by_cases hlt : k < n
    · obtain ⟨b, hb⟩ : ∃ b, l[k]? = some b := ⟨_, List.getElem?_eq_getElem (by rw [HX.out]; exact hlt)⟩
      have hcx : wr.cell? ⟨bs, os + k, none⟩ = some (.int .u8 (b.toNat : Nat)) := hgr.out.cell (HS.out k b hb) (by simp; omega)
      have hbn : b.toNat < 256 := b.toNat_lt
      have HB := Lib.hid hb
      clear hb
      have hf1 : wr.frozen? ⟨bd, od + 2 * k, none⟩ = false := hrw.out.frozen _
      have hc1 : wr.cell? ⟨bd, od + 2 * k, none⟩ = some (Lib.Hx.row f od l k (od + 2 * k)) := hrw.out.cell (by omega)
      have hf2 : ∀ v, (wr.setCell ⟨bd, od + 2 * k, none⟩ v).frozen? ⟨bd, od + (2 * k + 1), none⟩ = false := fun v => (hrw.out.set _ v).frozen _
      have hc2 : ∀ v, (wr.setCell ⟨bd, od + 2 * k, none⟩ v).cell? ⟨bd, od + (2 * k + 1), none⟩ = some (Lib.Hx.row f od l k (od + (2 * k + 1))) := fun v => by
        have := (hrw.out.set (od + 2 * k) v).cell (i := od + (2 * k + 1)) (by omega)
        rw [if_neg (by omega)] at this
        exact this
      go_wp2
      refine ⟨⟨k + 1, by omega, by simp, by congr 1, ((hrw.out.set _ _).set _ _).congr (fun j _ => ?_), grown_set (grown_set hgr.out _ _) _ _⟩, by simp [intOf]; omega⟩
      have e3 := Lib.Hx.row_step f od l k b HB.out j
      rw [← dig_is (b.toNat / 16) (by show _ < 16; omega), ← dig_is (b.toNat % 16) (by show _ < 16; omega)] at e3
      exact e3
    · go_wp2
      have hk2 : k = n := by omega
      subst hk2
      go_ret
      exact ⟨rfl, hrw.out, hgr.out⟩

end Go.Proofs.YteadkokfepjgbaaGreatDoor
