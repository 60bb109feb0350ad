/- The numbers of errors. No condition. -/
import Derived.Test.YtmjcnomgpikncaaGreatDoorMv1
import Derived.Test.YtmjcnomgpikncaaGreatDoorMg1
import Derived.Test.YtmjcnomgpikncaaGreatDoorMv3
import Derived.Test.YtmjcnomgpikncaaGreatDoorMb2
import Derived.Test.YtmjcnomgpikncaaGreatDoorMr
import Derived.Test.YtmjcnomgpikncaaGreatDoorMc
import Derived.Test.YtmjcnomgpikncaaGreatDoorMe
import Derived.Test.YtmjcnomgpikncaaGreatDoorRows
import Derived.Test.YtmjcnomgpikncaaGreatDoorMv2
import Derived.Stop.LaidErr
import Derived.MakeChecks
import Derived.ProofKit
/-! A protocol that reads over a memory buffer that has bytes, whatever the configuration. -/
namespace Go.Proofs.YtmjcnomgpikncaaGreatDoor

open Go.RowKit Go.Deep

set_option linter.unusedVariables false

set_option linter.unusedSimpArgs false

/-- What a protocol keeps as it is made. -/
def CR0 : CSt := ⟨[], 0, false, 0, false, false⟩

/-- What either protocol tells at a call. -/
def rdC (proto : Int) (c : Cfg) (s : CSt × List UInt8) (o : ROp) : Option (RGot × Nat × (CSt × List UInt8)) :=
  if proto = 1 then cmpRd c s o else (binRd c s.2 o).map fun r => (r.1, r.2.1, (s.1, r.2.2))

/-- A protocol that reads over the memory buffer m. -/
structure RP (proto : Int) (c : Cfg) (m : Nat) where
  P : PR
  st : CSt × List UInt8 → P.σ
  run_eq : ∀ s o, P.run (st s) o = (rdC proto c s o).map fun r => (r.1, r.2.1, st r.2.2)
  mem : ∀ {S s w}, P.Is S (st s) w → ∃ b g off, Mem m b g off (Lib.byteCells s.2) w
  sk : SkP P

def RBin (proto : Int) (hp : ¬ proto = 1) (p m : Nat) (og cf : Value) (c : Cfg) (hf : c.fit) : RP proto c m where
  P := PBR p m og cf c hf
  st := fun s => s.2
  run_eq := fun s o => by
    show binRd c s.2 o = _
    unfold rdC
    rw [if_neg hp, Option.map_map]
    cases binRd c s.2 o <;> rfl
  mem := fun h => by
    obtain ⟨b, g, off, sc, K, rfl, hp, hm, hC, hd, hK⟩ := h
    exact ⟨b, g, off, hm⟩
  sk := skB p m og cf c hf

def RCmp (p m : Nat) (og cf : Value) (c : Cfg) (hf : c.fit) : RP 1 c m where
  P := PCR p m og cf c hf
  st := fun s => s
  run_eq := fun s o => by
    show cmpRd c s o = _
    unfold rdC
    rw [if_pos rfl]
    cases cmpRd c s o <;> rfl
  mem := fun h => by
    obtain ⟨off, b, g, r, K, lf, nm, sc, rfl, hp, hm, hC, hk, hd, hr, hK⟩ := h
    exact ⟨b, g, off, hm⟩
  sk := skC p m og cf c hf

/-- A protocol that is made over a memory buffer that has bytes. -/
theorem rprotocol_C (proto : Int) (plain rb sb : Bool) (ms ct fr : Int) (hf : (cfgOf plain rb sb ms ct fr).fit) (m b g : Nat) (l : List UInt8) (w : World) (hM : Mem m b g 0 (Lib.byteCells l) w) :
    Calls Tryz.prog 45 #[confV proto plain rb sb ms ct fr, memV m] w fun e w' => ∃ (R : RP proto (cfgOf plain rb sb ms ct fr) m) (S : List Nat), e = .returned (.iface R.P.ty R.P.ptr) ∧ R.P.Is S (R.st (CR0, l)) w' ∧
      (∀ k, k ∈ S → k = m ∨ k = b ∨ k = g ∨ w.heap.size ≤ k) ∧ Below w.heap.size w w' := by
  have hml := hM.lt
  have hbl := hM.2.2.2.lt
  by_cases hpr : proto = 1
  · subst hpr
    refine (protocol_cmpC plain rb sb ms ct fr m w).mono ?_
    rintro e w' ⟨p, cf, K, sc, rfl, hp, hP, hC, hK, hB⟩
    have hM' := Mem.step hM (Step.ofBelow (S := []) hB) (by simp) (by simp) (by simp)
    refine ⟨RCmp p m (memV m) cf (cfgOf plain rb sb ms ct fr) hf, p :: m :: b :: g :: p :: K, rfl, ⟨0, b, g, p, K, .slice none 0 0, .string ByteArray.empty, sc, rfl, hP, hM', hC, .inl ⟨rfl, rfl, rfl⟩, by omega, by omega, fun k hk => ?_⟩, fun k hk => ?_, hB⟩
    · have := hK k hk
      omega
    · simp only [List.mem_cons] at hk
      rcases hk with rfl | rfl | rfl | rfl | rfl | hk
      · exact .inr (.inr (.inr hp))
      · exact .inl rfl
      · exact .inr (.inl rfl)
      · exact .inr (.inr (.inl rfl))
      · exact .inr (.inr (.inr hp))
      · exact .inr (.inr (.inr (hK k hk).1))
  · refine (protocol_binC proto hpr plain rb sb ms ct fr m w).mono ?_
    rintro e w' ⟨p, cf, K, sc, rfl, hp, hP, hC, hK, hB⟩
    have hM' := Mem.step hM (Step.ofBelow (S := []) hB) (by simp) (by simp) (by simp)
    refine ⟨RBin proto hpr p m (memV m) cf (cfgOf plain rb sb ms ct fr) hf, p :: m :: b :: g :: K, rfl, ⟨b, g, 0, sc, K, rfl, hP, hM', hC, by omega, fun k hk => ?_⟩, fun k hk => ?_, hB⟩
    · have := hK k hk
      omega
    · simp only [List.mem_cons] at hk
      rcases hk with rfl | rfl | rfl | rfl | hk
      · exact .inr (.inr (.inr hp))
      · exact .inl rfl
      · exact .inr (.inl rfl)
      · exact .inr (.inr (.inl rfl))
      · exact .inr (.inr (.inr (hK k hk).1))

end Go.Proofs.YtmjcnomgpikncaaGreatDoor

/-! One step is read over a memory buffer that has bytes, whatever the configuration. -/
namespace Go.Proofs.YtmjcnomgpikncaaGreatDoor

open Go.RowKit Go.Deep

set_option linter.unusedVariables false

set_option linter.unusedSimpArgs false

open Go.Proofs.YtmjcnomgpikncaaGreatDoorW.PrintWords

theorem C_cells {A : Option Addr} {xs : List Int} {W : World} (h : (Kd.int .u8).C W A xs.length xs) (h8 : ∀ x ∈ xs, 0 ≤ x ∧ x < 256) (hn : 1 ≤ xs.length) : ∃ ad, A = some ad ∧ ad.block < W.heap.size ∧ ∀ j v, (Lib.byteCells (toB xs))[j]? = some v → W.cell? (ad.add j) = some v := by
  obtain ⟨ad, rfl, hc⟩ := h.2.2 (by omega)
  have hcell : ∀ j v, (Lib.byteCells (toB xs))[j]? = some v → W.cell? (ad.add j) = some v := fun j v hj => by
    have hj' : ∃ x, xs[j]? = some x ∧ v = .int .u8 x := by
      simp only [Lib.byteCells, toB, List.map_map, List.getElem?_map, Option.map_eq_some_iff] at hj
      obtain ⟨x, hx, rfl⟩ := hj
      refine ⟨x, hx, ?_⟩
      have := h8 x (List.mem_of_getElem? hx)
      simp only [Function.comp]
      congr 1
      show ((x.toNat % 256 : Nat) : Int) = x
      omega
    obtain ⟨x, hx, rfl⟩ := hj'
    obtain ⟨cs, hl, he, hcs⟩ := hc j x hx
    obtain rfl : cs = [.int .u8 x] := he
    have := hcs 0 _ rfl
    simpa [Kd.int, Kd.scalar] using this
  refine ⟨ad, rfl, ?_, hcell⟩
  obtain ⟨x, hx⟩ : ∃ x, (Lib.byteCells (toB xs))[0]? = some x := by
    cases xs with
    | nil => simp at hn
    | cons x l => exact ⟨_, rfl⟩
  have := block_lt_of_cell (hcell 0 x hx)
  rwa [Lib.block_add] at this

set_option maxRecDepth 100000 in
set_option maxHeartbeats 2000000 in
theorem Read_G (proto : Int) (plain rb sb : Bool) (ms ct fr : Int) (hf : (cfgOf plain rb sb ms ct fr).fit) (op a1 a2 a3 a4 a5 : Int) (A : Option Addr) (nA cA : Nat)
    (B : Option Addr) (cB : Nat) (xs : List Int) (b : Nat) (w : World) (hE : EofAt w) (hB : (Kd.int .u8).C w B xs.length xs) (h8 : ∀ x ∈ xs, 0 ≤ x ∧ x < 256) (hn1 : 1 ≤ xs.length) (hlim : xs.length ≤ 140737488355328)
    (hb : Box7 b (.int .i64 op) (.int .i64 a1) (.int .i64 a2) (.int .i64 a3) (.int .i64 a4) (.int .i64 a5) (.slice A nA cA) w) (hbl : b < w.heap.size) {g : RGot} {k : Nat} {st' : CSt} {rest : List UInt8}
    (hg : ∀ (m : Nat) (R : RP proto (cfgOf plain rb sb ms ct fr) m) (S : List Nat) (W : World), R.P.Is S (R.st (CR0, toB xs)) W → Calls Tryz.prog 73 #[.iface R.P.ty R.P.ptr, .agg #[.int .i64 op, .int .i64 a1, .int .i64 a2, .int .i64 a3, .int .i64 a4, .int .i64 a5, .slice A nA cA]] W (TellsG R.P g k (R.st (st', rest)) S W)) :
    Calls Tryz.prog 21 #[confV proto plain rb sb ms ct fr, .slice B xs.length cB, .slice (some ⟨b, 0, none⟩) 1 1] w fun e w' => ∃ q cap v kb, e = .returned (.tuple #[.slice (some ⟨q, 0, none⟩) 1 cap, .int .i64 rest.length]) ∧ GotAt q k g v w' ∧ IsB (Lib.byteCells g.s) v kb w' ∧ Below w.heap.size w w' := by
  obtain ⟨ad, rfl, hal, hsrc⟩ := C_cells hB h8 hn1
  have HBX := Lib.hid (fun W h => @Box7.of w.heap.size (w.heap.size + 1) (.int .i64 proto) (.bool plain) (.bool rb) (.bool sb) (.int .i32 ms) (.int .i32 ct) (.int .i32 fr) (w.alloc (.cells #[.int .i64 proto, .bool plain, .bool rb, .bool sb, .int .i32 ms, .int .i32 ct, .int .i32 fr] 23)) W (Box7.at_ (heap_alloc_new w _)) h (by omega))
  have HPR := Lib.hid (fun m b g W => rprotocol_C proto plain rb sb ms ct fr hf m b g (toB xs) W)
  have HSTP := Lib.hid hg
  have HBB := Lib.hid hb
  have HE := Lib.hid hE
  have HH := Lib.hid (fun x => holding_any xs.length cB (Lib.byteCells (toB xs)) ad (w.alloc x) (by rw [Lib.byteCells_length]; simp [toB]) (by simp; omega) (fun j v hj => by
    have hal1 : (ad.add j).block < w.heap.size := by rw [Lib.block_add]; exact hal
    rw [World.cell?_of_block (w := w) (Below.heap_alloc _ _ _ hal1)]
    exact hsrc j v hj) (Lib.byteCells_one _) hn1 hlim)
  clear hg hb hE hB h8 hsrc
  go_enter Tryz.func21, Tryz.ntmps21
  go_wp2_with (fail)
  refine (HH.out _).mono ?_
  rintro e W1 ⟨m, bb, gg, rfl, hm, hbb, hgg, hM, hB1⟩
  have hsz : ∀ x, (w.alloc x).heap.size = w.heap.size + 1 := fun x => by simp
  rw [hsz] at hm hbb hgg hB1
  have hw1 : Below w.heap.size w W1 := ((Below.refl _ w).alloc (Nat.le_refl _) _).trans (hB1.mono (by omega))
  have HM := Lib.hid hM
  have HB1 := Lib.hid hB1
  have HW1 := Lib.hid hw1
  have hbs := hB1.size
  rw [hsz] at hbs
  clear hM hB1 hw1
  obtain ⟨p0, p1, p2, p3, p4, p5, p6⟩ := HBX.out W1 HB1.out
  go_wp2_with (fail)
  refine (HPR.out m bb gg W1 HM.out).mono ?_
  rintro e W2 ⟨R, S2, rfl, hI2, hS2, hB2⟩
  clear p0 p1 p2 p3 p4 p5 p6
  have HW2 := Lib.hid (show Below w.heap.size w W2 from HW1.out.trans (hB2.mono (by omega)))
  have hown : ∀ j, j ∈ S2 → w.heap.size + 1 ≤ j := fun j hj => by rcases hS2 j hj with h | h | h | h <;> omega
  have HO := Lib.hid (reads_one R.P b op a1 a2 a3 a4 a5 A nA cA (g := g) (k := k) (s1 := R.st (st', rest)) hI2 (HE.out.below HW2.out HE.out.lt) (fun j hj => by have := hown j hj; have := HE.out.lt; omega) (HBB.out.of HW2.out hbl) (Nat.lt_of_lt_of_le hbl HW2.out.size) (fun W hW => (HSTP.out m R S2 W (R.P.step hI2 hW (by simp))).mono fun _ _ h => h))
  have HOWN := Lib.hid hown
  clear hB2 hI2 hS2 hown
  go_wp2_with (fail)
  refine HO.out.mono ?_
  rintro e W3 ⟨q, cap, v, kb, S3, rfl, hG, hv, hI3, hs3⟩
  obtain ⟨b3, g3, off3, hM3⟩ := R.mem hI3
  have HBW := Lib.hid (HW2.out.trans (hs3.below w.heap.size HW2.out.size (fun j hj => by have := HOWN.out j hj; omega)))
  have HM3 := Lib.hid hM3
  have HG := Lib.hid hG
  have HV := Lib.hid hv
  have cm3 := hM3.cell
  clear hM3 hI3 hs3 hG hv
  go_wp2_with (go_at_call 51; refine (buf_left b3 g3 off3 _ _ HM3.out.2.2.2).mono ?_)
  rintro e W6 ⟨rfl, n, rfl⟩
  go_wp2_with (fail)
  go_ret2
  exact ⟨q, cap, v, kb, by rw [Lib.byteCells_length]; rfl, HG.out, HV.out, below_drewN HBW.out n⟩

end Go.Proofs.YtmjcnomgpikncaaGreatDoor

/-! What the rows' lists say of the library's two ends of what is read. -/
namespace Go.Proofs.YtmjcnomgpikncaaGreatDoor

open Go.RowKit Go.ChangeShapes

set_option linter.unusedVariables false

set_option linter.unusedSimpArgs false

theorem star_es : "*" ++ "errors.errorString" = "*errors.errorString" := by decide

theorem row_es (u : TypeId) (h : Tryz.prog.typeName? 3 u = some "*errors.errorString") : u = 238 :=
  typeName_ptr_named (nm := "errors.errorString") (by rw [star_es]; kernel_rfl) (by kernel_rfl) (by decide) u (by rw [star_es]; exact h)

theorem eof_of_laid {W : World} (h : laidMetH Tryz.prog [("io.EOF", Rows.laid_io_EOF), ("io.ErrUnexpectedEOF", Rows.laid_io_ErrUnexpectedEOF), ("bytes.ErrTooLarge", Rows.laid_bytes_ErrTooLarge)] W) : EofAt W := by
  rw [MakeChecks.laidMetH_plain _ _ _ (by kernel_rfl)] at h
  obtain ⟨a0, sa, hva, _, _, _⟩ := laid_sentinel h (show Tryz.prog.globalNamed "io.EOF" = some 0 by kernel_rfl) (show (Tryz.prog.globals[0]?).map (·.type) = some 83 by kernel_rfl) Tryz.underlying83 row_es Tryz.underlying238 Tryz.underlying240 rfl rfl Tryz.underlying9 (by kernel_rfl) (by kernel_rfl)
  obtain ⟨b0, sb, hvb, _, _, _⟩ := laid_sentinel h.tail (show Tryz.prog.globalNamed "io.ErrUnexpectedEOF" = some 1 by kernel_rfl) (show (Tryz.prog.globals[1]?).map (·.type) = some 83 by kernel_rfl) Tryz.underlying83 row_es Tryz.underlying238 Tryz.underlying240 rfl rfl Tryz.underlying9 (by kernel_rfl) (by kernel_rfl)
  have e0 := World.var?_cell (show Tryz.prog.globalNamed "io.EOF" = some 0 by kernel_rfl) hva 0
  have e1 := World.var?_cell (show Tryz.prog.globalNamed "io.ErrUnexpectedEOF" = some 1 by kernel_rfl) hvb 0
  exact ⟨a0, b0, e0.trans rfl, e1.trans rfl⟩

end Go.Proofs.YtmjcnomgpikncaaGreatDoor
