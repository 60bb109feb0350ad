/- Put by both protocols, whatever the configuration. No condition. -/
import Derived.Test.YtdafkilgakablaaGreatDoorMg1
import Derived.Test.YtdafkilgakablaaGreatDoorMd3
import Derived.Test.YtdafkilgakablaaGreatDoorMf2
import Derived.Test.YtdafkilgakablaaGreatDoorMb2
/-! A protocol is made over a memory buffer, whatever the configuration. -/
namespace Go.Proofs.YtdafkilgakablaaGreatDoor
open Go.RowKit Go.Deep
set_option linter.unusedVariables false
set_option linter.unusedSimpArgs false

def cfgOf (plain rb sb : Bool) (ms ct fr : Int) : Cfg := ⟨plain, rb, sb, ms, ct, fr⟩

theorem missing_one (want : Array (String × TypeId)) (got : Array Method) (s : String) (h : (want.toList.filter fun (name, sig) => !got.any fun m => m.name == name && m.sig == sig).map (·.1) = [s]) : ∃ m, Instr.missingMethod want got = some m := by
  unfold Instr.missingMethod
  rw [h]
  by_cases hc : s.contains '.' = true
  · simp only [List.partition, List.partition.loop, hc, List.reverse_cons, List.reverse_nil, List.nil_append, List.map_cons, List.map_nil]
    exact ⟨_, rfl⟩
  · have hc' : s.contains '.' = false := by simpa using hc
    simp only [List.partition, List.partition.loop, hc', List.reverse_cons, List.reverse_nil, List.nil_append, List.map_cons, List.map_nil]
    exact ⟨_, rfl⟩

noncomputable def setterWant : Array (String × TypeId) := match Tryz.prog.underlying 204 with
  | some (.interface w) => w
  | _ => #[]
noncomputable def memMethods : Array Method := ((Tryz.prog.info? 73).getD default).methods
theorem setterWant_is : Tryz.prog.underlying 204 = some (.interface setterWant) := by kernel_rfl
theorem setter_missing : (setterWant.toList.filter fun (name, sig) => !memMethods.any fun m => m.name == name && m.sig == sig).map (·.1) = ["SetTConfiguration"] := by kernel_rfl
theorem setter_info (w : World) : (typeInfo 73).run Tryz.prog w = .ok ((Tryz.prog.info? 73).getD default) w := by kernel_rfl
theorem setter_zero (w : World) : (zeroValue 204).run Tryz.prog w = .ok .nilIface w := by kernel_rfl

theorem mem_noSetter (m : Nat) (w : World) : (Instr.typeAssert (memV m) 20 204 true).run Tryz.prog w = .ok (.tuple #[.nilIface, .bool false]) w := by
  obtain ⟨x, hx⟩ := missing_one setterWant memMethods _ setter_missing
  simp only [Instr.typeAssert, Sem.run_bind, run_underlying setterWant_is, Result.andThen, setter_info]
  rw [show ((Tryz.prog.info? 73).getD default).methods = memMethods from rfl, hx]
  simp [setter_zero, Result.andThen]

/-- A configuration as it is made. -/
theorem cfg_given (proto : Int) (rb sb : Bool) (ms ct fr : Int) (w : World) : Calls Tryz.prog 47 #[confV proto false rb sb ms ct fr] w fun e w' => ∃ k K, e = .returned (.pointer (some ⟨k, 0, none⟩)) ∧ CfgAt (cfgOf false rb sb ms ct fr) (.pointer (some ⟨k, 0, none⟩)) K w' ∧ (∀ j, j ∈ K → w.heap.size ≤ j) ∧ w'.cell? ⟨k, 5, none⟩ = some (.bool false) ∧ Below w.heap.size w w' := by
  refine (config_given proto rb sb ms ct fr w).mono ?_
  rintro e w' ⟨k, r, s, rfl, hc, hb, h5, ⟨k1, k2, k3⟩, ⟨q1, q2, q3⟩⟩
  refine ⟨k, [k, r, s], rfl, .inr ⟨rfl, k, r, s, rfl, rfl, q1, q2, q3, hc⟩, ?_, h5, hb⟩
  intro j hj
  simp only [List.mem_cons, List.not_mem_nil, or_false] at hj
  rcases hj with rfl | rfl | rfl <;> assumption

set_option maxRecDepth 100000 in
set_option maxHeartbeats 1000000 in
theorem newBin_given (m k : Nat) (w : World) (h0 : ∃ x, w.cell? ⟨k, 0, none⟩ = some x) (h5 : w.cell? ⟨k, 5, none⟩ = some (.bool false)) :
    Calls Tryz.prog 48 #[memV m, .pointer (some ⟨k, 0, none⟩)] w fun e w' => ∃ p sc, e = .returned (.pointer (some ⟨p, 0, none⟩)) ∧ w.heap.size ≤ p ∧ Bin p (memV m) (memV m) (.pointer (some ⟨k, 0, none⟩)) sc w' ∧ Below w.heap.size w w' := by
  have hta := mem_isRich
  have htb := mem_noSetter
  go_enter Tryz.func48, Tryz.ntmps48
  go_wp2
  first
    | (refine bodyPost_ret (results_none rfl _ _ _) rfl ?_; go_wp2)
    | (go_end0; go_wp2)
    | (go_outline; trace_state; fail)
  go_ret
  obtain ⟨sc, hz, hl, h1⟩ := zeroBin
  refine ⟨w.heap.size, sc, rfl, by omega, ⟨?_, hl, h1⟩, ?_⟩
  · refine (heap_alloc_at (by simp) _).trans ?_
    rw [hz]; simp
  · exact (Below.refl _ _).alloc (by simp) _

set_option maxRecDepth 100000 in
set_option maxHeartbeats 1000000 in
theorem newCmp_given (m k : Nat) (w : World) (h0 : ∃ x, w.cell? ⟨k, 0, none⟩ = some x) (h5 : w.cell? ⟨k, 5, none⟩ = some (.bool false)) :
    Calls Tryz.prog 46 #[memV m, .pointer (some ⟨k, 0, none⟩)] w fun e w' => ∃ p sc, e = .returned (.pointer (some ⟨p, 0, none⟩)) ∧ w.heap.size ≤ p ∧ Cmp p (memV m) (memV m) (.pointer (some ⟨k, 0, none⟩)) CS0 sc w' ∧ Below w.heap.size w w' := by
  have hta := mem_isRich
  have htb := mem_noSetter
  go_enter Tryz.func46, Tryz.ntmps46
  go_wp2
  first
    | (refine bodyPost_ret (results_none rfl _ _ _) rfl ?_; go_wp2)
    | (go_end0; go_wp2)
    | (go_outline; trace_state; fail)
  go_ret
  obtain ⟨sc, hz, hl, h1⟩ := zeroCmp
  refine ⟨w.heap.size, sc, rfl, by omega, ⟨?_, hl, h1⟩, ?_⟩
  · refine (heap_alloc_at (by simp) _).trans ?_
    rw [hz]; simp [CS.row]
  · exact (Below.refl _ _).alloc (by simp) _

set_option maxRecDepth 100000 in
set_option maxHeartbeats 1000000 in
/-- A binary protocol over a memory buffer. -/
theorem protocol_binC (proto : Int) (hpr : ¬ proto = 1) (plain rb sb : Bool) (ms ct fr : Int) (m : Nat) (w : World) :
    Calls Tryz.prog 33 #[confV proto plain rb sb ms ct fr, memV m] w fun e w' => ∃ p cf K sc, e = .returned (binV p) ∧ w.heap.size ≤ p ∧ Bin p (memV m) (memV m) cf sc w' ∧ CfgAt (cfgOf plain rb sb ms ct fr) cf K w' ∧ (∀ k, k ∈ K → w.heap.size ≤ k ∧ k ≠ p) ∧ Below w.heap.size w w' := by
  have hp1 : (proto == 1) = false := by simpa using hpr
  have hta := mem_isRich
  cases plain with
  | true =>
    go_enter Tryz.func33, Tryz.ntmps33
    go_wp2
    refine bodyPost_ret (results_none rfl _ _ _) rfl ?_
    go_wp2
    go_ret
    obtain ⟨sc, hz, hl, h1⟩ := zeroBin
    refine ⟨w.heap.size + 1 + 1, .pointer none, [], sc, rfl, by omega, ⟨?_, hl, h1⟩, .inl ⟨rfl, rfl, rfl⟩, by simp, ?_⟩
    · refine (heap_alloc_at (by simp) _).trans ?_
      rw [hz]; simp
    · exact (((Below.refl _ _).alloc (by simp) _).alloc (by simp <;> omega) _).alloc (by simp <;> omega) _
  | false =>
    have HC := Lib.hid (cfg_given proto rb sb ms ct fr)
    go_enter Tryz.func33, Tryz.ntmps33
    go_wp2_with (fail)
    refine (HC.out _).mono ?_
    rintro e W1 ⟨k, K, rfl, hc, hK, h5, hb⟩
    have h0 : ∃ x, W1.cell? ⟨k, 0, none⟩ = some x := by
      rcases hc with ⟨h, _⟩ | ⟨_, k', r, s, _, he, _, _, _, h0, _⟩
      · cases h
      · cases he; exact ⟨_, h0⟩
    have HN := Lib.hid (newBin_given m k W1 h0 h5)
    have HCF := Lib.hid hc
    have HB := Lib.hid hb
    clear h0 h5 hc hb
    go_wp2_with (fail)
    ((with_reducible refine HN.out.mono ?_); rintro e W2 ⟨p, sc, rfl, hp, hB, hb2⟩)
    go_wp2
    go_ret
    have hz := HB.out.size
    simp at hz
    refine ⟨p, _, K, sc, rfl, by omega, hB, HCF.out.step (Step.ofBelow (S := []) hb2) (by simp), fun j hj => ⟨?_, ?_⟩, ?_⟩
    · have := hK j hj; simp at this; omega
    · have := HCF.out.lt j hj; omega
    · exact ((Below.refl _ _).alloc (Nat.le_refl _) _).trans ((HB.out.mono (by simp)).trans (hb2.mono (by omega)))

end Go.Proofs.YtdafkilgakablaaGreatDoor

/-! A value is put over a new memory buffer by the binary protocol, whatever the configuration. -/
namespace Go.Proofs.YtdafkilgakablaaGreatDoor
open Go.RowKit Go.Deep Go.Proofs.YtdafkilgakablaaGreatDoorW.PrintWords
set_option linter.unusedVariables false
set_option linter.unusedSimpArgs false

/-- What lies in the two boxes of a call. -/
def Boxes (b : Nat) (c0 c1 c2 c3 c4 c5 c6 x0 x1 x2 x3 x4 x5 x6 : Value) (W : World) : Prop :=
  (W.cell? ⟨b, 0, none⟩ = some c0 ∧ W.cell? ⟨b, 1, none⟩ = some c1 ∧ W.cell? ⟨b, 2, none⟩ = some c2 ∧ W.cell? ⟨b, 3, none⟩ = some c3 ∧ W.cell? ⟨b, 4, none⟩ = some c4 ∧ W.cell? ⟨b, 5, none⟩ = some c5 ∧ W.cell? ⟨b, 6, none⟩ = some c6) ∧
    (W.cell? ⟨b + 1, 0, none⟩ = some x0 ∧ W.cell? ⟨b + 1, 1, none⟩ = some x1 ∧ W.cell? ⟨b + 1, 2, none⟩ = some x2 ∧ W.cell? ⟨b + 1, 3, none⟩ = some x3 ∧ W.cell? ⟨b + 1, 4, none⟩ = some x4 ∧ W.cell? ⟨b + 1, 5, none⟩ = some x5 ∧ W.cell? ⟨b + 1, 6, none⟩ = some x6)

theorem boxes_at {w : World} {c0 c1 c2 c3 c4 c5 c6 x0 x1 x2 x3 x4 x5 x6 : Value} {t1 t2 : TypeId} {W : World} (h : Below (w.heap.size + 1 + 1) ((w.alloc (.cells #[c0, c1, c2, c3, c4, c5, c6] t1)).alloc (.cells #[x0, x1, x2, x3, x4, x5, x6] t2)) W) : Boxes w.heap.size c0 c1 c2 c3 c4 c5 c6 x0 x1 x2 x3 x4 x5 x6 W := by
  have a1 : ((w.alloc (.cells #[c0, c1, c2, c3, c4, c5, c6] t1)).alloc (.cells #[x0, x1, x2, x3, x4, x5, x6] t2)).heap[w.heap.size]? = some (.cells #[c0, c1, c2, c3, c4, c5, c6] t1) := heap_alloc_old (heap_alloc_new _ _) _
  have a2 : ((w.alloc (.cells #[c0, c1, c2, c3, c4, c5, c6] t1)).alloc (.cells #[x0, x1, x2, x3, x4, x5, x6] t2)).heap[w.heap.size + 1]? = some (.cells #[x0, x1, x2, x3, x4, x5, x6] t2) := heap_alloc_at (by simp) _
  have b1 := (h.block w.heap.size (by omega)).trans a1
  have b2 := (h.block (w.heap.size + 1) (by omega)).trans a2
  exact ⟨⟨(cell_heap b1 0).trans rfl, (cell_heap b1 1).trans rfl, (cell_heap b1 2).trans rfl, (cell_heap b1 3).trans rfl, (cell_heap b1 4).trans rfl, (cell_heap b1 5).trans rfl, (cell_heap b1 6).trans rfl⟩,
    (cell_heap b2 0).trans rfl, (cell_heap b2 1).trans rfl, (cell_heap b2 2).trans rfl, (cell_heap b2 3).trans rfl, (cell_heap b2 4).trans rfl, (cell_heap b2 5).trans rfl, (cell_heap b2 6).trans rfl⟩

set_option maxRecDepth 100000 in
set_option maxHeartbeats 4000000 in
theorem Put_binC (V : Val) (hw : wfV V) (proto : Int) (hpr : ¬ proto = 1) (plain rb sb : Bool) (ms ct fr : Int) (x0 x1 x2 x3 x4 x5 x6 : Value) (w : World) (hK : kVal.K w V [x0, x1, x2, x3, x4, x5, x6]) (hr : costs (ops V) ≤ 70368744177664) :
    Calls Tryz.prog 17 #[confV proto plain rb sb ms ct fr, .agg #[x0, x1, x2, x3, x4, x5, x6]] w fun e w' => ∃ v k, e = .returned (.tuple #[v, .int .i64 0]) ∧ w.heap.size ≤ k ∧ IsB (Lib.byteCells (binAll (cfgOf plain rb sb ms ct fr).strictW (ops V))) v k w' ∧ Below w.heap.size w w' := by
  have HKV := Lib.hid hK
  have HBX := Lib.hid (fun W h => @boxes_at w (.int .i64 proto) (.bool plain) (.bool rb) (.bool sb) (.int .i32 ms) (.int .i32 ct) (.int .i32 fr) x0 x1 x2 x3 x4 x5 x6 23 43 W h)
  have HPR := Lib.hid (fun m W => protocol_binC proto hpr plain rb sb ms ct fr m W)
  clear hK hpr
  go_enter Tryz.func17, Tryz.ntmps17
  go_wp2_with (go_at_call 31; refine (newMem _).mono ?_)
  rintro e W1 ⟨m, b, rfl, hm, hb, hM, hB⟩
  replace hm : w.heap.size + 1 + 1 ≤ m := by simpa using hm
  replace hb : w.heap.size + 1 + 1 ≤ b := by simpa using hb
  rw [show ∀ (x y : Obj), ((w.alloc x).alloc y).heap.size = w.heap.size + 1 + 1 from fun x y => by simp] at hB
  have hw1 : Below w.heap.size w W1 := (((Below.refl _ w).alloc (Nat.le_refl _) _).alloc (by simp) _).trans (hB.mono (by omega))
  have HM := Lib.hid hM
  have HB := Lib.hid hB
  have HW1 := Lib.hid hw1
  have hml := hM.lt
  have hbl := hM.2.2.2.lt.1
  have hbs := hB.size
  simp at hbs
  clear hM hB hw1
  go_wp2_with (fail)
  go_region_held3 (fun W' => (W'.cell? ⟨w.heap.size, 0, none⟩ = some (.int .i64 proto) ∧ W'.cell? ⟨w.heap.size, 1, none⟩ = some (.bool plain) ∧ W'.cell? ⟨w.heap.size, 2, none⟩ = some (.bool rb) ∧ W'.cell? ⟨w.heap.size, 3, none⟩ = some (.bool sb) ∧ W'.cell? ⟨w.heap.size, 4, none⟩ = some (.int .i32 ms) ∧ W'.cell? ⟨w.heap.size, 5, none⟩ = some (.int .i32 ct) ∧ W'.cell? ⟨w.heap.size, 6, none⟩ = some (.int .i32 fr)) ∧ W'.cell? ⟨w.heap.size + 1, 0, none⟩ = some x0 ∧ W'.cell? ⟨w.heap.size + 1, 1, none⟩ = some x1 ∧ W'.cell? ⟨w.heap.size + 1, 2, none⟩ = some x2 ∧ W'.cell? ⟨w.heap.size + 1, 3, none⟩ = some x3 ∧ W'.cell? ⟨w.heap.size + 1, 4, none⟩ = some x4 ∧ W'.cell? ⟨w.heap.size + 1, 5, none⟩ = some x5 ∧ W'.cell? ⟨w.heap.size + 1, 6, none⟩ = some x6) (first | exact HBX.out _ HB.out | exact HBX.out _ HB.out.drew | exact HBX.out _ HB2.out | exact HBX.out _ HB3.out)
    (first
      | (go_at_call 33; refine (HPR.out m _).mono ?_; rintro e W2 ⟨p, cf, K, sc, rfl, hp, hP, hC, hKK, hB2⟩; have HB2 := Lib.hid (HB.out.drew.trans (hB2.mono (show w.heap.size + 1 + 1 ≤ W1.heap.size from hbs))); have HW2 := Lib.hid (HW1.out.drew.trans (hB2.mono (show w.heap.size ≤ W1.heap.size by omega))); have HM2 := Lib.hid (Mem.step (show Mem m b b 0 [] W1.drew from HM.out) (Step.ofBelow (S := []) hB2) (by simp) (by simp) (by simp)); have hp' : W1.heap.size ≤ p := hp; have hK' : ∀ k, k ∈ K → W1.heap.size ≤ k ∧ k ≠ p := hKK; have HI := Lib.hid (show BW p m (memV m) cf (cfgOf plain rb sb ms ct fr) (p :: m :: b :: b :: K) [] W2 from ⟨b, b, sc, K, rfl, hP, HM2.out, hC, by omega, by omega, by omega, fun k hk => by have := hK' k hk; omega⟩); have hown : ∀ k, k ∈ p :: m :: b :: b :: K → w.heap.size + 1 + 1 ≤ k := (fun k hk => by simp only [List.mem_cons] at hk; rcases hk with rfl | rfl | rfl | rfl | hk; omega; omega; omega; omega; have := hK' k hk; omega); have HO := Lib.hid (put_any (PBin p m (memV m) cf (cfgOf plain rb sb ms ct fr)) w V hw (p :: m :: b :: b :: K) [] W2 _ HI.out (fun k hk => by have := hown k hk; omega) HW2.out HKV.out (by show ([] : List UInt8).length + _ ≤ _; simp; omega)); have HOWN := Lib.hid hown; clear hB2 hP hC hKK hK' hown)
      | (go_at_call 39; refine HO.out.mono ?_; rintro e W3 ⟨ev, S3, rfl, he, hI3, hs⟩; have HB3 := Lib.hid (HB2.out.trans (hs.below _ (Nat.le_trans (by simp) HB2.out.size) HOWN.out)); have HI3 := Lib.hid hI3; have HE3 := Lib.hid he; have HS3 := Lib.hid hs; clear hs hI3 he))
  have hrun : runs (PBin p m (memV m) cf (cfgOf plain rb sb ms ct fr)).run (ops V) ([] : List UInt8) = ([] ++ binAll (cfgOf plain rb sb ms ct fr).strictW (ops V), 0) := bin_runs _ _ _
  have he := HE3.out
  have hi := HI3.out
  rw [hrun] at he hi
  obtain rfl := he.zero
  have hi' : BW p m (memV m) cf (cfgOf plain rb sb ms ct fr) S3 (binAll (cfgOf plain rb sb ms ct fr).strictW (ops V)) W3 := hi
  obtain ⟨b3, g3, sc3, K3, hS3, hP3, hM3, hC3, -⟩ := hi'
  have hg3 : g3 ∈ S3 := by rw [hS3]; simp
  have hgo : w.heap.size ≤ g3 := by
    rcases HS3.out.own g3 hg3 with hh | hh
    · have := HOWN.out g3 hh; omega
    · have := HW2.out.size; omega
  have hbw : Below w.heap.size w W3 := HW2.out.trans (HS3.out.below _ HW2.out.size (fun k hk => by have := HOWN.out k hk; omega))
  have HM3 := Lib.hid hM3
  have HBW := Lib.hid hbw
  have cm3 := hM3.cell
  clear hrun he hi hM3 hP3 hC3 hS3 hg3 hbw
  go_wp2_with (go_at_call 36; refine (buf_bytes b3 g3 _ _ HM3.out.2.2.2).mono ?_)
  rintro e W4 ⟨v, rfl, hv, n, rfl⟩
  go_wp2_with (go_at_call 37; refine (kind_nil _).mono ?_; rintro e w' ⟨rfl, rfl⟩)
  go_ret2
  exact ⟨v, g3, rfl, hgo, hv, below_drewN HBW.out n⟩

end Go.Proofs.YtdafkilgakablaaGreatDoor

/-! A compact protocol over a memory buffer, whatever the configuration. -/
namespace Go.Proofs.YtdafkilgakablaaGreatDoor
open Go.RowKit Go.Deep
set_option linter.unusedVariables false
set_option linter.unusedSimpArgs false

set_option maxRecDepth 100000 in
set_option maxHeartbeats 1000000 in
/-- A compact protocol over a memory buffer. -/
theorem protocol_cmpC (plain rb sb : Bool) (ms ct fr : Int) (m : Nat) (w : World) :
    Calls Tryz.prog 33 #[confV 1 plain rb sb ms ct fr, memV m] w fun e w' => ∃ p cf K sc, e = .returned (cmpV p) ∧ w.heap.size ≤ p ∧ Cmp p (memV m) (memV m) cf CS0 sc w' ∧ CfgAt (cfgOf plain rb sb ms ct fr) cf K w' ∧ (∀ k, k ∈ K → w.heap.size ≤ k ∧ k ≠ p) ∧ Below w.heap.size w w' := by
  have hta := mem_isRich
  cases plain with
  | true =>
    go_enter Tryz.func33, Tryz.ntmps33
    go_wp2
    refine bodyPost_ret (results_none rfl _ _ _) rfl ?_
    go_wp2
    go_ret
    obtain ⟨sc, hz, hl, h1⟩ := zeroCmp
    refine ⟨w.heap.size + 1 + 1, .pointer none, [], sc, rfl, by omega, ⟨?_, hl, h1⟩, .inl ⟨rfl, rfl, rfl⟩, by simp, ?_⟩
    · refine (heap_alloc_at (by simp) _).trans ?_
      rw [hz]; simp [CS.row]
    · exact (((Below.refl _ _).alloc (by simp) _).alloc (by simp <;> omega) _).alloc (by simp <;> omega) _
  | false =>
    have HC := Lib.hid (cfg_given 1 rb sb ms ct fr)
    go_enter Tryz.func33, Tryz.ntmps33
    go_wp2_with (fail)
    refine (HC.out _).mono ?_
    rintro e W1 ⟨k, K, rfl, hc, hK, h5, hb⟩
    have h0 : ∃ x, W1.cell? ⟨k, 0, none⟩ = some x := by
      rcases hc with ⟨h, _⟩ | ⟨_, k', r, s, _, he, _, _, _, h0, _⟩
      · cases h
      · cases he; exact ⟨_, h0⟩
    have HN := Lib.hid (newCmp_given m k W1 h0 h5)
    have HCF := Lib.hid hc
    have HB := Lib.hid hb
    clear h0 h5 hc hb
    go_wp2_with (fail)
    ((with_reducible refine HN.out.mono ?_); rintro e W2 ⟨p, sc, rfl, hp, hB, hb2⟩)
    go_wp2
    go_ret
    have hz := HB.out.size
    simp at hz
    refine ⟨p, _, K, sc, rfl, by omega, hB, HCF.out.step (Step.ofBelow (S := []) hb2) (by simp), fun j hj => ⟨?_, ?_⟩, ?_⟩
    · have := hK j hj; simp at this; omega
    · have := HCF.out.lt j hj; omega
    · exact ((Below.refl _ _).alloc (Nat.le_refl _) _).trans ((HB.out.mono (by simp)).trans (hb2.mono (by omega)))

end Go.Proofs.YtdafkilgakablaaGreatDoor

/-! A protocol over a memory buffer, whichever it is: what it writes, in plain words. -/
namespace Go.Proofs.YtdafkilgakablaaGreatDoor
open Go.RowKit Go.Deep
set_option linter.unusedVariables false
set_option linter.unusedSimpArgs false

/-- What calls write, and the kind of their error. -/
def encC (proto : Int) (c : Cfg) (l : List WOp) : List UInt8 × Nat :=
  if proto = 1 then ((runs cmpStep l (CW0, [])).1.2, (runs cmpStep l (CW0, [])).2) else (binAll c.strictW l, 0)

/-- A protocol that writes, over a memory buffer. -/
structure OverMem (m : Nat) where
  P : PW
  s0 : P.σ
  bytes : P.σ → List UInt8
  mem : ∀ {S s w}, P.Is S s w → ∃ b g, Mem m b g 0 (Lib.byteCells (bytes s)) w ∧ m ∈ S ∧ b ∈ S ∧ g ∈ S
  room0 : P.room s0 = 0

def OverMem.enc {m : Nat} (O : OverMem m) (l : List WOp) : List UInt8 × Nat := (O.bytes (runs O.P.run l O.s0).1, (runs O.P.run l O.s0).2)

def OBin (p m : Nat) (og cf : Value) (c : Cfg) : OverMem m where
  P := PBin p m og cf c
  s0 := ([] : List UInt8)
  bytes := fun s => s
  mem := fun h => by
    obtain ⟨b, g, sc, K, rfl, hp, hM, hC, -⟩ := h
    exact ⟨b, g, hM, by simp, by simp, by simp⟩
  room0 := rfl

theorem OBin_enc (p m : Nat) (og cf : Value) (c : Cfg) (l : List WOp) : (OBin p m og cf c).enc l = (binAll c.strictW l, 0) := by
  have h := bin_runs c.strictW l ([] : List UInt8)
  show ((runs (fun (s : List UInt8) (o : WOp) => (s ++ binO c.strictW o, 0)) l []).1, (runs (fun (s : List UInt8) (o : WOp) => (s ++ binO c.strictW o, 0)) l []).2) = _
  rw [h]
  rfl

def OCmp (p m : Nat) (og cf : Value) (c : Cfg) : OverMem m where
  P := PCmp p m og cf c
  s0 := (CW0, ([] : List UInt8))
  bytes := fun s => s.2
  mem := fun h => by
    obtain ⟨⟨bv, bn, b, g, r, K, lf, nm, sc, rfl, hp, hM, hC, -⟩, -⟩ := h
    exact ⟨b, g, hM, by simp, by simp, by simp⟩
  room0 := rfl

theorem OCmp_enc (p m : Nat) (og cf : Value) (c : Cfg) (l : List WOp) : (OCmp p m og cf c).enc l = ((runs cmpStep l (CW0, [])).1.2, (runs cmpStep l (CW0, [])).2) := rfl

/-- A protocol that is made over a new memory buffer. -/
theorem protocol_C (proto : Int) (plain rb sb : Bool) (ms ct fr : Int) (m b : Nat) (w : World) (hM : Mem m b b 0 [] w) :
    Calls Tryz.prog 33 #[confV proto plain rb sb ms ct fr, memV m] w fun e w' => ∃ (O : OverMem m) (S : List Nat), e = .returned (.iface O.P.ty O.P.ptr) ∧ (∀ l, O.enc l = encC proto (cfgOf plain rb sb ms ct fr) l) ∧ O.P.Is S O.s0 w' ∧
      (∀ k, k ∈ S → k = m ∨ k = b ∨ w.heap.size ≤ k) ∧ Below w.heap.size w w' := by
  have hml := hM.lt
  have hbl := hM.2.2.2.lt.1
  by_cases hpr : proto = 1
  · subst hpr
    refine (protocol_cmpC plain rb sb ms ct fr m w).mono ?_
    rintro e w' ⟨p, cf, K, sc, rfl, hp, hP, hC, hK, hB⟩
    have hM' := Mem.step hM (Step.ofBelow (S := []) hB) (by simp) (by simp) (by simp)
    refine ⟨OCmp p m (memV m) cf (cfgOf plain rb sb ms ct fr), p :: m :: b :: b :: p :: K, rfl, fun l => by rw [OCmp_enc, encC, if_pos rfl], ⟨⟨false, false, b, b, p, K, .slice none 0 0, .string ByteArray.empty, sc, rfl, hP, hM', hC, .inl ⟨rfl, rfl, rfl⟩, by omega, by omega, fun k hk => ?_⟩, okW_0⟩, fun k hk => ?_, hB⟩
    · have := hK k hk
      omega
    · simp only [List.mem_cons] at hk
      rcases hk with rfl | rfl | rfl | rfl | rfl | hk
      · exact .inr (.inr hp)
      · exact .inl rfl
      · exact .inr (.inl rfl)
      · exact .inr (.inl rfl)
      · exact .inr (.inr hp)
      · exact .inr (.inr (hK k hk).1)
  · refine (protocol_binC proto hpr plain rb sb ms ct fr m w).mono ?_
    rintro e w' ⟨p, cf, K, sc, rfl, hp, hP, hC, hK, hB⟩
    have hM' := Mem.step hM (Step.ofBelow (S := []) hB) (by simp) (by simp) (by simp)
    refine ⟨OBin p m (memV m) cf (cfgOf plain rb sb ms ct fr), p :: m :: b :: b :: K, rfl, fun l => by rw [OBin_enc, encC, if_neg hpr], ⟨b, b, sc, K, rfl, hP, hM', hC, by omega, by omega, by omega, fun k hk => ?_⟩, fun k hk => ?_, hB⟩
    · have := hK k hk
      omega
    · simp only [List.mem_cons] at hk
      rcases hk with rfl | rfl | rfl | rfl | hk
      · exact .inr (.inr hp)
      · exact .inl rfl
      · exact .inr (.inl rfl)
      · exact .inr (.inl rfl)
      · exact .inr (.inr (hK k hk).1)

end Go.Proofs.YtdafkilgakablaaGreatDoor

/-! A value is put over a new memory buffer, whatever the configuration, by both protocols. -/
namespace Go.Proofs.YtdafkilgakablaaGreatDoor
open Go.RowKit Go.Deep Go.Proofs.YtdafkilgakablaaGreatDoorW.PrintWords
set_option linter.unusedVariables false
set_option linter.unusedSimpArgs false

set_option maxRecDepth 100000 in
set_option maxHeartbeats 4000000 in
theorem Put_C (V : Val) (hw : wfV V) (proto : Int) (plain rb sb : Bool) (ms ct fr : Int) (x0 x1 x2 x3 x4 x5 x6 : Value) (w : World) (hK : kVal.K w V [x0, x1, x2, x3, x4, x5, x6]) (hr : costs (ops V) ≤ 70368744177664) (h0 : (encC proto (cfgOf plain rb sb ms ct fr) (ops V)).2 = 0) :
    Calls Tryz.prog 17 #[confV proto plain rb sb ms ct fr, .agg #[x0, x1, x2, x3, x4, x5, x6]] w fun e w' => ∃ v k, e = .returned (.tuple #[v, .int .i64 0]) ∧ w.heap.size ≤ k ∧ IsB (Lib.byteCells (encC proto (cfgOf plain rb sb ms ct fr) (ops V)).1) v k w' ∧ Below w.heap.size w w' := by
  have HKV := Lib.hid hK
  have HBX := Lib.hid (fun W h => @boxes_at w (.int .i64 proto) (.bool plain) (.bool rb) (.bool sb) (.int .i32 ms) (.int .i32 ct) (.int .i32 fr) x0 x1 x2 x3 x4 x5 x6 23 43 W h)
  have HPR := Lib.hid (fun m b W => protocol_C proto plain rb sb ms ct fr m b W)
  have H0 := Lib.hid h0
  clear hK h0
  go_enter Tryz.func17, Tryz.ntmps17
  go_wp2_with (go_at_call 31; refine (newMem _).mono ?_)
  rintro e W1 ⟨m, b, rfl, hm, hb, hM, hB⟩
  replace hm : w.heap.size + 1 + 1 ≤ m := by simpa using hm
  replace hb : w.heap.size + 1 + 1 ≤ b := by simpa using hb
  rw [show ∀ (x y : Obj), ((w.alloc x).alloc y).heap.size = w.heap.size + 1 + 1 from fun x y => by simp] at hB
  have hw1 : Below w.heap.size w W1 := (((Below.refl _ w).alloc (Nat.le_refl _) _).alloc (by simp) _).trans (hB.mono (by omega))
  have HM := Lib.hid hM
  have HB := Lib.hid hB
  have HW1 := Lib.hid hw1
  have hml := hM.lt
  have hbl := hM.2.2.2.lt.1
  have hbs := hB.size
  simp at hbs
  clear hM hB hw1
  go_wp2_with (fail)
  go_region_held3 (fun W' => (W'.cell? ⟨w.heap.size, 0, none⟩ = some (.int .i64 proto) ∧ W'.cell? ⟨w.heap.size, 1, none⟩ = some (.bool plain) ∧ W'.cell? ⟨w.heap.size, 2, none⟩ = some (.bool rb) ∧ W'.cell? ⟨w.heap.size, 3, none⟩ = some (.bool sb) ∧ W'.cell? ⟨w.heap.size, 4, none⟩ = some (.int .i32 ms) ∧ W'.cell? ⟨w.heap.size, 5, none⟩ = some (.int .i32 ct) ∧ W'.cell? ⟨w.heap.size, 6, none⟩ = some (.int .i32 fr)) ∧ W'.cell? ⟨w.heap.size + 1, 0, none⟩ = some x0 ∧ W'.cell? ⟨w.heap.size + 1, 1, none⟩ = some x1 ∧ W'.cell? ⟨w.heap.size + 1, 2, none⟩ = some x2 ∧ W'.cell? ⟨w.heap.size + 1, 3, none⟩ = some x3 ∧ W'.cell? ⟨w.heap.size + 1, 4, none⟩ = some x4 ∧ W'.cell? ⟨w.heap.size + 1, 5, none⟩ = some x5 ∧ W'.cell? ⟨w.heap.size + 1, 6, none⟩ = some x6) (first | exact HBX.out _ HB.out | exact HBX.out _ HB.out.drew | exact HBX.out _ HB2.out | exact HBX.out _ HB3.out)
    (first
      | (go_at_call 33; refine (HPR.out m b _ (show Mem m b b 0 [] W1.drew from HM.out)).mono ?_; rintro e W2 ⟨O, S2, rfl, hE2, hI2, hS2, hB2⟩; have HB2 := Lib.hid (HB.out.drew.trans (hB2.mono (show w.heap.size + 1 + 1 ≤ W1.heap.size from hbs))); have HW2 := Lib.hid (HW1.out.drew.trans (hB2.mono (show w.heap.size ≤ W1.heap.size by omega))); have HI := Lib.hid hI2; have hown : ∀ k, k ∈ S2 → w.heap.size + 1 + 1 ≤ k := (fun k hk => by rcases hS2 k hk with h | h | h; omega; omega; exact Nat.le_trans hbs h); have HO := Lib.hid (put_any O.P w V hw S2 O.s0 W2 _ HI.out (fun k hk => by have := hown k hk; omega) HW2.out HKV.out (by rw [O.room0]; omega)); have HOWN := Lib.hid hown; have HE2 := Lib.hid hE2; clear hB2 hI2 hS2 hE2 hown)
      | (go_at_call 39; refine HO.out.mono ?_; rintro e W3 ⟨ev, S3, rfl, he, hI3, hs⟩; have HB3 := Lib.hid (HB2.out.trans (hs.below _ (Nat.le_trans (by simp) HB2.out.size) HOWN.out)); have HI3 := Lib.hid hI3; have HE3 := Lib.hid he; have HS3 := Lib.hid hs; clear hs hI3 he))
  have he := HE3.out
  rw [show (runs O.P.run (ops V) O.s0).2 = 0 from by have h1 := HE2.out (ops V); unfold OverMem.enc at h1; have h2 := congrArg Prod.snd h1; exact h2.trans H0.out] at he
  obtain rfl := he.zero
  obtain ⟨b3, g3, hM3, -, -, hg3⟩ := O.mem HI3.out
  rw [show O.bytes (runs O.P.run (ops V) O.s0).1 = (encC proto (cfgOf plain rb sb ms ct fr) (ops V)).1 from by have h1 := HE2.out (ops V); unfold OverMem.enc at h1; exact congrArg Prod.fst h1] at hM3
  have hgo : w.heap.size ≤ g3 := by
    rcases HS3.out.own g3 hg3 with hh | hh
    · have := HOWN.out g3 hh; omega
    · have := HW2.out.size; omega
  have hbw : Below w.heap.size w W3 := HW2.out.trans (HS3.out.below _ HW2.out.size (fun k hk => by have := HOWN.out k hk; omega))
  have HM3 := Lib.hid hM3
  have HBW := Lib.hid hbw
  have cm3 := hM3.cell
  clear he hM3 hg3 hbw
  go_wp2_with (go_at_call 36; refine (buf_bytes b3 g3 _ _ HM3.out.2.2.2).mono ?_)
  rintro e W4 ⟨v, rfl, hv, n, rfl⟩
  go_wp2_with (go_at_call 37; refine (kind_nil _).mono ?_; rintro e w' ⟨rfl, rfl⟩)
  go_ret2
  exact ⟨v, g3, rfl, hgo, hv, below_drewN HBW.out n⟩

end Go.Proofs.YtdafkilgakablaaGreatDoor

/-! What the begin of a message comes to; how many bytes calls write at most. Plain, no program. -/
namespace Go.Proofs.YtdafkilgakablaaGreatDoor
open Go.RowKit
set_option linter.unusedVariables false
set_option linter.unusedSimpArgs false

theorem enc_begin (proto : Int) (c : Cfg) (nm : List UInt8) (t seq : Int) (hf : (WOp.msgB nm t seq).fit) : (encC proto c [.msgB nm t seq]).2 = 0 := by
  unfold encC
  by_cases hp : proto = 1
  · rw [if_pos hp]
    simp [runs, cmpStep, cmpRun]
  · rw [if_neg hp]

theorem enc_len (proto : Int) (c : Cfg) (l : List WOp) : (encC proto c l).1.length ≤ costs l := by
  unfold encC
  by_cases hp : proto = 1
  · rw [if_pos hp]
    have h := (PCmp 0 0 .nilIface .nilIface c).grows l (CW0, ([] : List UInt8))
    have h' : cmpRoom (runs cmpStep l (CW0, [])).1 ≤ cmpRoom (CW0, []) + costs l := h
    unfold cmpRoom at h'
    simp only [CW0, List.length_nil] at h' ⊢
    omega
  · rw [if_neg hp]
    have h := (PBin 0 0 .nilIface .nilIface c).grows l ([] : List UInt8)
    have h' : (runs (fun (s : List UInt8) (o : WOp) => (s ++ binO c.strictW o, 0)) l []).1.length ≤ 0 + costs l := h
    rw [bin_runs] at h'
    simpa using h'

end Go.Proofs.YtdafkilgakablaaGreatDoor
