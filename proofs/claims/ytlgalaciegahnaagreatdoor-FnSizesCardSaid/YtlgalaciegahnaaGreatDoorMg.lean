/- Put by the binary protocol, whatever the configuration. No condition. -/
import Derived.Test.YtlgalaciegahnaaGreatDoorMd
import Derived.Test.YtlgalaciegahnaaGreatDoorMc
import Derived.Test.YtlgalaciegahnaaGreatDoorMf
import Derived.Test.YtlgalaciegahnaaGreatDoorMb
/-! The binary protocol over a memory buffer, as a protocol that writes. Printed by a program (wip/tools/pinst.py). -/
namespace Go.Proofs.YtlgalaciegahnaaGreatDoor
open Go.RowKit Go.Deep
set_option linter.unusedVariables false
set_option linter.unusedSimpArgs false

def binFn (s : String) : FuncId :=
  if s = "WriteMessageBegin" then 316 else
  if s = "WriteMessageEnd" then 317 else
  if s = "WriteStructBegin" then 321 else
  if s = "WriteStructEnd" then 322 else
  if s = "WriteFieldBegin" then 306 else
  if s = "WriteFieldEnd" then 307 else
  if s = "WriteFieldStop" then 308 else
  if s = "WriteMapBegin" then 314 else
  if s = "WriteMapEnd" then 315 else
  if s = "WriteListBegin" then 312 else
  if s = "WriteListEnd" then 313 else
  if s = "WriteSetBegin" then 318 else
  if s = "WriteSetEnd" then 319 else
  if s = "WriteBool" then 303 else
  if s = "WriteByte" then 304 else
  if s = "WriteI16" then 309 else
  if s = "WriteI32" then 310 else
  if s = "WriteI64" then 311 else
  if s = "WriteDouble" then 305 else
  if s = "WriteString" then 320 else
  if s = "WriteBinary" then 302 else
  323

theorem bin_meth (p : Nat) (o : WOp) (k : Nat) (w : World) : (method (k + 1) 162 (.pointer (some ⟨p, 0, none⟩)) o.nm).run Tryz.prog w = .ok (binFn o.nm, .pointer (some ⟨p, 0, none⟩)) w := by
  cases o <;> kernel_rfl

theorem bin_ahead (p : Nat) (o : WOp) (k : Nat) (w : World) : (nilAhead (k + 1) 162 (.pointer (some ⟨p, 0, none⟩)) o.nm).run Tryz.prog w = .ok (some false) w := by
  cases o <;> kernel_rfl

theorem bin_ent (o : WOp) (args : Array Value) (w : World) : (callFunc (binFn o.nm) args).run Tryz.prog w = .ok (.enter (binFn o.nm) args) w := by
  cases o <;> kernel_rfl

/-- The bytes of a call: of an identifier sixteen. -/
def binO (b : Bool) (o : WOp) : List UInt8 :=
  match o with
  | .uuid s => s.take 16
  | o => binOut b o

theorem binO_le (b : Bool) (o : WOp) : (binO b o).length ≤ o.cost := by
  cases o <;> simp only [binO, binOut, WOp.cost, bText, List.length_append, List.length_cons, List.length_nil, be_length, List.length_take] <;> (try split) <;> (try simp only [List.length_append, List.length_cons, List.length_nil, be_length]) <;> omega

theorem cast_l {σ : Type} {Is : List Nat → σ → World → Prop} {f : FuncId} {a : Array Value} {S : List Nat} {w : World} {x y : σ} (h : x = y) (hc : Calls Tryz.prog f a w (Did Is S w (x, 0))) : Calls Tryz.prog f a w (Did Is S w (y, 0)) := h ▸ hc


theorem bin_does (p m : Nat) (og cf : Value) (c : Cfg) {S : List Nat} {l : List UInt8} {w : World} (h : BW p m og cf c S l w) (o : WOp) (hb : o.isBin = false) (hf : o.fit) (hr : l.length + o.cost ≤ 140737488355328) :
    Calls Tryz.prog (binFn o.nm) (o.argv (.pointer (some ⟨p, 0, none⟩))) w (Did (BW p m og cf c) S w (l ++ binO c.strictW o, 0)) := by
  cases o with
  | msgB nm t seq =>
    simp only [WOp.cost] at hr
    by_cases hc : c.strictW = true
    · exact cast_l (by simp [binO, binOut, hc]) (bw_msgB_strict h ctxV nm t seq hf.1 (by omega) hc)
    · have hc' : c.strictW = false := by simpa using hc
      exact cast_l (by simp [binO, binOut, hc']) (bw_msgB_loose h ctxV nm t seq hf.1 (by omega) hc')
  | msgE => exact cast_l (List.append_nil l).symm (bw_msgE h ctxV)
  | strB => exact cast_l (List.append_nil l).symm (bw_strB h ctxV (.string ByteArray.empty))
  | strE => exact cast_l (List.append_nil l).symm (bw_strE h ctxV)
  | fldB t id => exact bw_fldB h ctxV _ t id (by simp only [WOp.cost] at hr; omega)
  | fldE => exact cast_l (List.append_nil l).symm (bw_fldE h ctxV)
  | stop => exact bw_stop h ctxV (by simp only [WOp.cost] at hr; omega)
  | mapB k t n => exact bw_mapB h ctxV k t n (by simp only [WOp.cost] at hr; omega)
  | mapE => exact cast_l (List.append_nil l).symm (bw_mapE h ctxV)
  | lstB t n => exact bw_lstB h ctxV t n (by simp only [WOp.cost] at hr; omega)
  | lstE => exact cast_l (List.append_nil l).symm (bw_lstE h ctxV)
  | setB t n => exact bw_setB h ctxV t n (by simp only [WOp.cost] at hr; omega)
  | setE => exact cast_l (List.append_nil l).symm (bw_setE h ctxV)
  | bool b => exact bw_bool h ctxV b (by simp only [WOp.cost] at hr; omega)
  | byte n => exact bw_byte h ctxV n (by simp only [WOp.cost] at hr; omega)
  | i16 n => exact bw_i16 h ctxV n (by simp only [WOp.cost] at hr; omega)
  | i32 n => exact bw_i32 h ctxV n (by simp only [WOp.cost] at hr; omega)
  | i64 n => exact bw_i64 h ctxV n (by simp only [WOp.cost] at hr; omega)
  | dbl n => exact bw_dbl h ctxV n hf (by simp only [WOp.cost] at hr; omega)
  | str s => exact bw_str h ctxV s hf (by simp only [WOp.cost] at hr; omega)
  | bin s => simp [WOp.isBin] at hb
  | uuid s => exact cast_l (by show l ++ s = l ++ s.take 16; rw [List.take_of_length_le (by have : s.length = 16 := hf; omega)]) (bw_uuid h ctxV s hf (by simp only [WOp.cost] at hr; omega))

/-- The binary protocol. -/
def PBin (p m : Nat) (og cf : Value) (c : Cfg) : PW where
  ty := 162
  ptr := .pointer (some ⟨p, 0, none⟩)
  fn := binFn
  σ := List UInt8
  Is := BW p m og cf c
  room := List.length
  run := fun l o => (l ++ binO c.strictW o, 0)
  meth := bin_meth p
  ahead := bin_ahead p
  ent := bin_ent
  step := fun h _ _ _ hs hn => h.step hs hn
  lt := fun h => h.lt
  grow := fun s o => by simp only [List.length_append]; have := binO_le c.strictW o; omega
  does := fun h o hb hf hr => bin_does p m og cf c h o hb hf hr

/-- The bytes of calls by the binary protocol. -/
def binAll (b : Bool) (l : List WOp) : List UInt8 := l.flatMap (binO b)

theorem bin_runs (b : Bool) : ∀ (l : List WOp) (s : List UInt8), runs (fun s o => (s ++ binO b o, 0)) l s = (s ++ binAll b l, 0)
  | [], s => by simp [runs, binAll]
  | o :: l, s => by
    simp only [runs, if_true]
    rw [bin_runs b l]
    simp [binAll, List.append_assoc]

end Go.Proofs.YtlgalaciegahnaaGreatDoor

/-! A protocol is made over a memory buffer, whatever the configuration. -/
namespace Go.Proofs.YtlgalaciegahnaaGreatDoor
open Go.RowKit Go.Deep
set_option linter.unusedVariables false
set_option linter.unusedSimpArgs false

def cfgOf (plain rb sb : Bool) (ms ct fr : Int) : Cfg := ⟨plain, rb, sb, ms, ct, fr⟩

theorem missing_one (want : Array (String × TypeId)) (got : Array Method) (s : String) (h : (want.toList.filter fun (name, sig) => !got.any fun m => m.name == name && m.sig == sig).map (·.1) = [s]) : ∃ m, Instr.missingMethod want got = some m := by
  unfold Instr.missingMethod
  rw [h]
  by_cases hc : s.contains '.' = true
  · simp only [List.partition, List.partition.loop, hc, List.reverse_cons, List.reverse_nil, List.nil_append, List.map_cons, List.map_nil]
    exact ⟨_, rfl⟩
  · have hc' : s.contains '.' = false := by simpa using hc
    simp only [List.partition, List.partition.loop, hc', List.reverse_cons, List.reverse_nil, List.nil_append, List.map_cons, List.map_nil]
    exact ⟨_, rfl⟩

noncomputable def setterWant : Array (String × TypeId) := match Tryz.prog.underlying 260 with
  | some (.interface w) => w
  | _ => #[]
noncomputable def memMethods : Array Method := ((Tryz.prog.info? 78).getD default).methods
theorem setterWant_is : Tryz.prog.underlying 260 = some (.interface setterWant) := by kernel_rfl
theorem setter_missing : (setterWant.toList.filter fun (name, sig) => !memMethods.any fun m => m.name == name && m.sig == sig).map (·.1) = ["SetTConfiguration"] := by kernel_rfl
theorem setter_info (w : World) : (typeInfo 78).run Tryz.prog w = .ok ((Tryz.prog.info? 78).getD default) w := by kernel_rfl
theorem setter_zero (w : World) : (zeroValue 260).run Tryz.prog w = .ok .nilIface w := by kernel_rfl

theorem mem_noSetter (m : Nat) (w : World) : (Instr.typeAssert (memV m) 20 260 true).run Tryz.prog w = .ok (.tuple #[.nilIface, .bool false]) w := by
  obtain ⟨x, hx⟩ := missing_one setterWant memMethods _ setter_missing
  simp only [Instr.typeAssert, Sem.run_bind, run_underlying setterWant_is, Result.andThen, setter_info]
  rw [show ((Tryz.prog.info? 78).getD default).methods = memMethods from rfl, hx]
  simp [setter_zero, Result.andThen]

/-- A configuration as it is made. -/
theorem cfg_given (proto : Int) (rb sb : Bool) (ms ct fr : Int) (w : World) : Calls Tryz.prog 78 #[confV proto false rb sb ms ct fr] w fun e w' => ∃ k K, e = .returned (.pointer (some ⟨k, 0, none⟩)) ∧ CfgAt (cfgOf false rb sb ms ct fr) (.pointer (some ⟨k, 0, none⟩)) K w' ∧ (∀ j, j ∈ K → w.heap.size ≤ j) ∧ w'.cell? ⟨k, 5, none⟩ = some (.bool false) ∧ Below w.heap.size w w' := by
  refine (config_given proto rb sb ms ct fr w).mono ?_
  rintro e w' ⟨k, r, s, rfl, hc, hb, h5, ⟨k1, k2, k3⟩, ⟨q1, q2, q3⟩⟩
  refine ⟨k, [k, r, s], rfl, .inr ⟨rfl, k, r, s, rfl, rfl, q1, q2, q3, hc⟩, ?_, h5, hb⟩
  intro j hj
  simp only [List.mem_cons, List.not_mem_nil, or_false] at hj
  rcases hj with rfl | rfl | rfl <;> assumption

set_option maxRecDepth 100000 in
set_option maxHeartbeats 1000000 in
theorem newBin_given (m k : Nat) (w : World) (h0 : ∃ x, w.cell? ⟨k, 0, none⟩ = some x) (h5 : w.cell? ⟨k, 5, none⟩ = some (.bool false)) :
    Calls Tryz.prog 79 #[memV m, .pointer (some ⟨k, 0, none⟩)] w fun e w' => ∃ p sc, e = .returned (.pointer (some ⟨p, 0, none⟩)) ∧ w.heap.size ≤ p ∧ Bin p (memV m) (memV m) (.pointer (some ⟨k, 0, none⟩)) sc w' ∧ Below w.heap.size w w' := by
  have hta := mem_isRich
  have htb := mem_noSetter
  go_enter Tryz.func79, Tryz.ntmps79
  go_wp2
  first
    | (refine bodyPost_ret (results_none rfl _ _ _) rfl ?_; go_wp2)
    | (go_end0; go_wp2)
    | (go_outline; trace_state; fail)
  go_ret
  obtain ⟨sc, hz, hl, h1⟩ := zeroBin
  refine ⟨w.heap.size, sc, rfl, by omega, ⟨?_, hl, h1⟩, ?_⟩
  · refine (heap_alloc_at (by simp) _).trans ?_
    rw [hz]; simp
  · exact (Below.refl _ _).alloc (by simp) _

set_option maxRecDepth 100000 in
set_option maxHeartbeats 1000000 in
theorem newCmp_given (m k : Nat) (w : World) (h0 : ∃ x, w.cell? ⟨k, 0, none⟩ = some x) (h5 : w.cell? ⟨k, 5, none⟩ = some (.bool false)) :
    Calls Tryz.prog 77 #[memV m, .pointer (some ⟨k, 0, none⟩)] w fun e w' => ∃ p sc, e = .returned (.pointer (some ⟨p, 0, none⟩)) ∧ w.heap.size ≤ p ∧ Cmp p (memV m) (memV m) (.pointer (some ⟨k, 0, none⟩)) CS0 sc w' ∧ Below w.heap.size w w' := by
  have hta := mem_isRich
  have htb := mem_noSetter
  go_enter Tryz.func77, Tryz.ntmps77
  go_wp2
  first
    | (refine bodyPost_ret (results_none rfl _ _ _) rfl ?_; go_wp2)
    | (go_end0; go_wp2)
    | (go_outline; trace_state; fail)
  go_ret
  obtain ⟨sc, hz, hl, h1⟩ := zeroCmp
  refine ⟨w.heap.size, sc, rfl, by omega, ⟨?_, hl, h1⟩, ?_⟩
  · refine (heap_alloc_at (by simp) _).trans ?_
    rw [hz]; simp [CS.row]
  · exact (Below.refl _ _).alloc (by simp) _

set_option maxRecDepth 100000 in
set_option maxHeartbeats 1000000 in
/-- A binary protocol over a memory buffer. -/
theorem protocol_binC (proto : Int) (hpr : ¬ proto = 1) (plain rb sb : Bool) (ms ct fr : Int) (m : Nat) (w : World) :
    Calls Tryz.prog 48 #[confV proto plain rb sb ms ct fr, memV m] w fun e w' => ∃ p cf K sc, e = .returned (binV p) ∧ w.heap.size ≤ p ∧ Bin p (memV m) (memV m) cf sc w' ∧ CfgAt (cfgOf plain rb sb ms ct fr) cf K w' ∧ (∀ k, k ∈ K → w.heap.size ≤ k ∧ k ≠ p) ∧ Below w.heap.size w w' := by
  have hp1 : (proto == 1) = false := by simpa using hpr
  have hta := mem_isRich
  cases plain with
  | true =>
    go_enter Tryz.func48, Tryz.ntmps48
    go_wp2
    refine bodyPost_ret (results_none rfl _ _ _) rfl ?_
    go_wp2
    go_ret
    obtain ⟨sc, hz, hl, h1⟩ := zeroBin
    refine ⟨w.heap.size + 1 + 1, .pointer none, [], sc, rfl, by omega, ⟨?_, hl, h1⟩, .inl ⟨rfl, rfl, rfl⟩, by simp, ?_⟩
    · refine (heap_alloc_at (by simp) _).trans ?_
      rw [hz]; simp
    · exact (((Below.refl _ _).alloc (by simp) _).alloc (by simp <;> omega) _).alloc (by simp <;> omega) _
  | false =>
    have HC := Lib.hid (cfg_given proto rb sb ms ct fr)
    go_enter Tryz.func48, Tryz.ntmps48
    go_wp2_with (fail)
    refine (HC.out _).mono ?_
    rintro e W1 ⟨k, K, rfl, hc, hK, h5, hb⟩
    have h0 : ∃ x, W1.cell? ⟨k, 0, none⟩ = some x := by
      rcases hc with ⟨h, _⟩ | ⟨_, k', r, s, _, he, _, _, _, h0, _⟩
      · cases h
      · cases he; exact ⟨_, h0⟩
    have HN := Lib.hid (newBin_given m k W1 h0 h5)
    have HCF := Lib.hid hc
    have HB := Lib.hid hb
    clear h0 h5 hc hb
    go_wp2_with (fail)
    ((with_reducible refine HN.out.mono ?_); rintro e W2 ⟨p, sc, rfl, hp, hB, hb2⟩)
    go_wp2
    go_ret
    have hz := HB.out.size
    simp at hz
    refine ⟨p, _, K, sc, rfl, by omega, hB, HCF.out.step (Step.ofBelow (S := []) hb2) (by simp), fun j hj => ⟨?_, ?_⟩, ?_⟩
    · have := hK j hj; simp at this; omega
    · have := HCF.out.lt j hj; omega
    · exact ((Below.refl _ _).alloc (Nat.le_refl _) _).trans ((HB.out.mono (by simp)).trans (hb2.mono (by omega)))

end Go.Proofs.YtlgalaciegahnaaGreatDoor

/-! A value is put over a new memory buffer by the binary protocol, whatever the configuration. -/
namespace Go.Proofs.YtlgalaciegahnaaGreatDoor
open Go.RowKit Go.Deep Go.Proofs.YtlgalaciegahnaaGreatDoorW.PrintWords
set_option linter.unusedVariables false
set_option linter.unusedSimpArgs false

/-- What lies in the two boxes of a call. -/
def Boxes (b : Nat) (c0 c1 c2 c3 c4 c5 c6 x0 x1 x2 x3 x4 x5 x6 : Value) (W : World) : Prop :=
  (W.cell? ⟨b, 0, none⟩ = some c0 ∧ W.cell? ⟨b, 1, none⟩ = some c1 ∧ W.cell? ⟨b, 2, none⟩ = some c2 ∧ W.cell? ⟨b, 3, none⟩ = some c3 ∧ W.cell? ⟨b, 4, none⟩ = some c4 ∧ W.cell? ⟨b, 5, none⟩ = some c5 ∧ W.cell? ⟨b, 6, none⟩ = some c6) ∧
    (W.cell? ⟨b + 1, 0, none⟩ = some x0 ∧ W.cell? ⟨b + 1, 1, none⟩ = some x1 ∧ W.cell? ⟨b + 1, 2, none⟩ = some x2 ∧ W.cell? ⟨b + 1, 3, none⟩ = some x3 ∧ W.cell? ⟨b + 1, 4, none⟩ = some x4 ∧ W.cell? ⟨b + 1, 5, none⟩ = some x5 ∧ W.cell? ⟨b + 1, 6, none⟩ = some x6)

theorem boxes_at {w : World} {c0 c1 c2 c3 c4 c5 c6 x0 x1 x2 x3 x4 x5 x6 : Value} {t1 t2 : TypeId} {W : World} (h : Below (w.heap.size + 1 + 1) ((w.alloc (.cells #[c0, c1, c2, c3, c4, c5, c6] t1)).alloc (.cells #[x0, x1, x2, x3, x4, x5, x6] t2)) W) : Boxes w.heap.size c0 c1 c2 c3 c4 c5 c6 x0 x1 x2 x3 x4 x5 x6 W := by
  have a1 : ((w.alloc (.cells #[c0, c1, c2, c3, c4, c5, c6] t1)).alloc (.cells #[x0, x1, x2, x3, x4, x5, x6] t2)).heap[w.heap.size]? = some (.cells #[c0, c1, c2, c3, c4, c5, c6] t1) := heap_alloc_old (heap_alloc_new _ _) _
  have a2 : ((w.alloc (.cells #[c0, c1, c2, c3, c4, c5, c6] t1)).alloc (.cells #[x0, x1, x2, x3, x4, x5, x6] t2)).heap[w.heap.size + 1]? = some (.cells #[x0, x1, x2, x3, x4, x5, x6] t2) := heap_alloc_at (by simp) _
  have b1 := (h.block w.heap.size (by omega)).trans a1
  have b2 := (h.block (w.heap.size + 1) (by omega)).trans a2
  exact ⟨⟨(cell_heap b1 0).trans rfl, (cell_heap b1 1).trans rfl, (cell_heap b1 2).trans rfl, (cell_heap b1 3).trans rfl, (cell_heap b1 4).trans rfl, (cell_heap b1 5).trans rfl, (cell_heap b1 6).trans rfl⟩,
    (cell_heap b2 0).trans rfl, (cell_heap b2 1).trans rfl, (cell_heap b2 2).trans rfl, (cell_heap b2 3).trans rfl, (cell_heap b2 4).trans rfl, (cell_heap b2 5).trans rfl, (cell_heap b2 6).trans rfl⟩

set_option maxRecDepth 100000 in
set_option maxHeartbeats 4000000 in
theorem Put_binC (V : Val) (hw : wfV V) (proto : Int) (hpr : ¬ proto = 1) (plain rb sb : Bool) (ms ct fr : Int) (x0 x1 x2 x3 x4 x5 x6 : Value) (w : World) (hK : kVal.K w V [x0, x1, x2, x3, x4, x5, x6]) (hr : costs (ops V) ≤ 70368744177664) :
    Calls Tryz.prog 19 #[confV proto plain rb sb ms ct fr, .agg #[x0, x1, x2, x3, x4, x5, x6]] w fun e w' => ∃ v k, e = .returned (.tuple #[v, .int .i64 0]) ∧ w.heap.size ≤ k ∧ IsB (Lib.byteCells (binAll (cfgOf plain rb sb ms ct fr).strictW (ops V))) v k w' ∧ Below w.heap.size w w' := by
  have HKV := Lib.hid hK
  have HBX := Lib.hid (fun W h => @boxes_at w (.int .i64 proto) (.bool plain) (.bool rb) (.bool sb) (.int .i32 ms) (.int .i32 ct) (.int .i32 fr) x0 x1 x2 x3 x4 x5 x6 23 28 W h)
  have HPR := Lib.hid (fun m W => protocol_binC proto hpr plain rb sb ms ct fr m W)
  clear hK hpr
  go_enter Tryz.func19, Tryz.ntmps19
  go_wp2_with (go_at_call 46; refine (newMem _).mono ?_)
  rintro e W1 ⟨m, b, rfl, hm, hb, hM, hB⟩
  replace hm : w.heap.size + 1 + 1 ≤ m := by simpa using hm
  replace hb : w.heap.size + 1 + 1 ≤ b := by simpa using hb
  rw [show ∀ (x y : Obj), ((w.alloc x).alloc y).heap.size = w.heap.size + 1 + 1 from fun x y => by simp] at hB
  have hw1 : Below w.heap.size w W1 := (((Below.refl _ w).alloc (Nat.le_refl _) _).alloc (by simp) _).trans (hB.mono (by omega))
  have HM := Lib.hid hM
  have HB := Lib.hid hB
  have HW1 := Lib.hid hw1
  have hml := hM.lt
  have hbl := hM.2.2.2.lt.1
  have hbs := hB.size
  simp at hbs
  clear hM hB hw1
  go_wp2_with (fail)
  go_region_held3 (fun W' => (W'.cell? ⟨w.heap.size, 0, none⟩ = some (.int .i64 proto) ∧ W'.cell? ⟨w.heap.size, 1, none⟩ = some (.bool plain) ∧ W'.cell? ⟨w.heap.size, 2, none⟩ = some (.bool rb) ∧ W'.cell? ⟨w.heap.size, 3, none⟩ = some (.bool sb) ∧ W'.cell? ⟨w.heap.size, 4, none⟩ = some (.int .i32 ms) ∧ W'.cell? ⟨w.heap.size, 5, none⟩ = some (.int .i32 ct) ∧ W'.cell? ⟨w.heap.size, 6, none⟩ = some (.int .i32 fr)) ∧ W'.cell? ⟨w.heap.size + 1, 0, none⟩ = some x0 ∧ W'.cell? ⟨w.heap.size + 1, 1, none⟩ = some x1 ∧ W'.cell? ⟨w.heap.size + 1, 2, none⟩ = some x2 ∧ W'.cell? ⟨w.heap.size + 1, 3, none⟩ = some x3 ∧ W'.cell? ⟨w.heap.size + 1, 4, none⟩ = some x4 ∧ W'.cell? ⟨w.heap.size + 1, 5, none⟩ = some x5 ∧ W'.cell? ⟨w.heap.size + 1, 6, none⟩ = some x6) (first | exact HBX.out _ HB.out | exact HBX.out _ HB.out.drew | exact HBX.out _ HB2.out | exact HBX.out _ HB3.out)
    (first
      | (go_at_call 48; refine (HPR.out m _).mono ?_; rintro e W2 ⟨p, cf, K, sc, rfl, hp, hP, hC, hKK, hB2⟩; have HB2 := Lib.hid (HB.out.drew.trans (hB2.mono (show w.heap.size + 1 + 1 ≤ W1.heap.size from hbs))); have HW2 := Lib.hid (HW1.out.drew.trans (hB2.mono (show w.heap.size ≤ W1.heap.size by omega))); have HM2 := Lib.hid (Mem.step (show Mem m b b 0 [] W1.drew from HM.out) (Step.ofBelow (S := []) hB2) (by simp) (by simp) (by simp)); have hp' : W1.heap.size ≤ p := hp; have hK' : ∀ k, k ∈ K → W1.heap.size ≤ k ∧ k ≠ p := hKK; have HI := Lib.hid (show BW p m (memV m) cf (cfgOf plain rb sb ms ct fr) (p :: m :: b :: b :: K) [] W2 from ⟨b, b, sc, K, rfl, hP, HM2.out, hC, by omega, by omega, by omega, fun k hk => by have := hK' k hk; omega⟩); have hown : ∀ k, k ∈ p :: m :: b :: b :: K → w.heap.size + 1 + 1 ≤ k := (fun k hk => by simp only [List.mem_cons] at hk; rcases hk with rfl | rfl | rfl | rfl | hk; omega; omega; omega; omega; have := hK' k hk; omega); have HO := Lib.hid (put_any (PBin p m (memV m) cf (cfgOf plain rb sb ms ct fr)) w V hw (p :: m :: b :: b :: K) [] W2 _ HI.out (fun k hk => by have := hown k hk; omega) HW2.out HKV.out (by show ([] : List UInt8).length + _ ≤ _; simp; omega)); have HOWN := Lib.hid hown; clear hB2 hP hC hKK hK' hown)
      | (go_at_call 47; refine HO.out.mono ?_; rintro e W3 ⟨ev, S3, rfl, he, hI3, hs⟩; have HB3 := Lib.hid (HB2.out.trans (hs.below _ (Nat.le_trans (by simp) HB2.out.size) HOWN.out)); have HI3 := Lib.hid hI3; have HE3 := Lib.hid he; have HS3 := Lib.hid hs; clear hs hI3 he))
  have hrun : runs (PBin p m (memV m) cf (cfgOf plain rb sb ms ct fr)).run (ops V) ([] : List UInt8) = ([] ++ binAll (cfgOf plain rb sb ms ct fr).strictW (ops V), 0) := bin_runs _ _ _
  have he := HE3.out
  have hi := HI3.out
  rw [hrun] at he hi
  obtain rfl := he.zero
  have hi' : BW p m (memV m) cf (cfgOf plain rb sb ms ct fr) S3 (binAll (cfgOf plain rb sb ms ct fr).strictW (ops V)) W3 := hi
  obtain ⟨b3, g3, sc3, K3, hS3, hP3, hM3, hC3, -⟩ := hi'
  have hg3 : g3 ∈ S3 := by rw [hS3]; simp
  have hgo : w.heap.size ≤ g3 := by
    rcases HS3.out.own g3 hg3 with hh | hh
    · have := HOWN.out g3 hh; omega
    · have := HW2.out.size; omega
  have hbw : Below w.heap.size w W3 := HW2.out.trans (HS3.out.below _ HW2.out.size (fun k hk => by have := HOWN.out k hk; omega))
  have HM3 := Lib.hid hM3
  have HBW := Lib.hid hbw
  have cm3 := hM3.cell
  clear hrun he hi hM3 hP3 hC3 hS3 hg3 hbw
  go_wp2_with (go_at_call 49; refine (buf_bytes b3 g3 _ _ HM3.out.2.2.2).mono ?_)
  rintro e W4 ⟨v, rfl, hv, n, rfl⟩
  go_wp2_with (go_at_call 50; refine (kind_nil _).mono ?_; rintro e w' ⟨rfl, rfl⟩)
  go_ret2
  exact ⟨v, g3, rfl, hgo, hv, below_drewN HBW.out n⟩

end Go.Proofs.YtlgalaciegahnaaGreatDoor
