/- Both protocols as protocols that write. No condition. -/
import Derived.Test.YtdafkilgakablaaGreatDoorMc
import Derived.Test.YtdafkilgakablaaGreatDoorMd1
import Derived.Test.YtdafkilgakablaaGreatDoorMd4
/-! The compact protocol's calls in plain words: ranges, lengths, and a run of many. -/
namespace Go.Proofs.YtdafkilgakablaaGreatDoor
open Go.RowKit
set_option linter.unusedVariables false
set_option linter.unusedSimpArgs false

/-- The ranges of what a compact protocol keeps. -/
def okW (s : CW) : Prop := (-32768 ≤ s.last ∧ s.last < 32768) ∧ (-32768 ≤ s.pid ∧ s.pid < 32768) ∧ ∀ x, x ∈ s.stk → -32768 ≤ x ∧ x < 32768

theorem okW_0 : okW CW0 := ⟨by decide, by decide, by simp [CW0]⟩

theorem stk_split (l : List Int) (h : ¬ l = []) : l = l.dropLast ++ [l.getLastD 0] := by
  rw [List.getLastD_eq_getLast?, List.getLast?_eq_some_getLast h]
  exact (List.dropLast_concat_getLast h).symm

theorem run_strE (s : CW) : cmpRun s .strE = if s.stk = [] then (s, [], 11) else ({ s with stk := s.stk.dropLast, last := s.stk.getLastD 0 }, [], 0) := rfl
theorem run_fldB (s : CW) (t id : Int) : cmpRun s (.fldB t id) = if t = 2 then ({ s with pend := true, pid := id }, [], 0) else ({ s with last := id }, cHead s.last id (cCode t), 0) := rfl
theorem run_bool (s : CW) (b : Bool) : cmpRun s (.bool b) = if s.pend then ({ s with last := s.pid, pend := false }, cHead s.last s.pid (if b then 1 else 2), 0) else (s, [if b then 1 else 2], 0) := rfl

theorem okW_run (s : CW) (h : okW s) (o : WOp) (hf : o.fit) : okW (cmpRun s o).1 := by
  obtain ⟨h1, h2, h3⟩ := h
  cases o with
  | strB =>
    refine ⟨by simp [cmpRun], h2, fun x hx => ?_⟩
    simp only [cmpRun, List.mem_append, List.mem_singleton] at hx
    rcases hx with hx | rfl
    · exact h3 x hx
    · exact h1
  | strE =>
    rw [run_strE]
    split
    · exact ⟨h1, h2, h3⟩
    · rename_i h0
      refine ⟨h3 _ ?_, h2, fun x hx => h3 x (List.dropLast_subset _ hx)⟩
      have := List.mem_append_right s.stk.dropLast (List.mem_singleton.2 (rfl : s.stk.getLastD 0 = s.stk.getLastD 0))
      rw [← stk_split s.stk h0] at this
      exact this
  | fldB t id =>
    rw [run_fldB]
    split
    · exact ⟨h1, hf.2, h3⟩
    · exact ⟨hf.2, h2, h3⟩
  | bool b =>
    rw [run_bool]
    split
    · exact ⟨h2, h2, h3⟩
    · exact ⟨h1, h2, h3⟩
  | _ => exact ⟨h1, h2, h3⟩

/-- The bytes of a call. -/
def cmpO (s : CW) (o : WOp) : List UInt8 := (cmpRun s o).2.1.take o.cost

def cmpStep (r : CW × List UInt8) (o : WOp) : (CW × List UInt8) × Nat := (((cmpRun r.1 o).1, r.2 ++ cmpO r.1 o), (cmpRun r.1 o).2.2)

def cmpRoom (r : CW × List UInt8) : Nat := r.2.length + 32 * r.1.stk.length

theorem uv5 (N : Nat) (h : N < 4294967296) : (Lib.uvarint N).length ≤ 5 := Lib.uvarint_length 4 _ (by omega)

theorem zz_lt (x : Int) (h0 : -2147483648 ≤ x) (h1 : x < 2147483648) : Lib.zigzag x < 4294967296 := by unfold Lib.zigzag; split <;> omega
theorem zz_lt64 (x : Int) (h0 : -9223372036854775808 ≤ x) (h1 : x < 9223372036854775808) : Lib.zigzag x < 18446744073709551616 := by unfold Lib.zigzag; split <;> omega

theorem cHead_le (last id : Int) (c : Nat) (h0 : -32768 ≤ id) (h1 : id < 32768) : (cHead last id c).length ≤ 6 := by
  unfold cHead
  have := uv5 _ (zz_lt id (by omega) (by omega))
  split <;> simp <;> omega

theorem cmpO_len (s : CW) (h : okW s) (o : WOp) (hf : o.fit) : (cmpRun s o).2.1.length ≤ o.cost := by
  obtain ⟨h1, h2, h3⟩ := h
  cases o with
  | msgB nm t seq =>
    have h5 := uv5 (seq % 4294967296).toNat (by omega)
    have h6 := uv5 nm.length (by have := hf.1; omega)
    simp [cmpRun, WOp.cost, cText]
    omega
  | strE => rw [run_strE]; split <;> simp
  | fldB t id =>
    have := cHead_le s.last id (cCode t) hf.2.1 hf.2.2
    rw [run_fldB]
    split <;> simp [WOp.cost]
    omega
  | mapB k t n =>
    have h5 := uv5 (n % 4294967296).toNat (by omega)
    simp only [cmpRun, WOp.cost]
    split <;> simp
    omega
  | lstB t n =>
    have h5 := uv5 (n % 4294967296).toNat (by omega)
    simp only [cmpRun, WOp.cost]
    split <;> simp
    omega
  | setB t n =>
    have h5 := uv5 (n % 4294967296).toNat (by omega)
    simp only [cmpRun, WOp.cost]
    split <;> simp
    omega
  | bool b =>
    have := cHead_le s.last s.pid (if b then 1 else 2) h2.1 h2.2
    rw [run_bool]
    split <;> simp [WOp.cost]
    omega
  | byte n => simp [cmpRun, WOp.cost]
  | i16 n => have := uv5 _ (zz_lt n (by have := hf.1; omega) (by have := hf.2; omega)); simp [cmpRun, WOp.cost]; omega
  | i32 n => have := uv5 _ (zz_lt n hf.1 hf.2); simp [cmpRun, WOp.cost]; omega
  | i64 n => have := Lib.uvarint_length64 (zz_lt64 n hf.1 hf.2); simp [cmpRun, WOp.cost]; omega
  | dbl n => simp [cmpRun, WOp.cost, le8, Lib.leBytes_length]
  | str x => have := uv5 x.length (by have : x.length ≤ 2147483647 := hf; omega); simp [cmpRun, WOp.cost, cText]; omega
  | bin x => have := uv5 x.length (by have : x.length ≤ 2147483647 := hf; omega); simp [cmpRun, WOp.cost, cText]; omega
  | uuid x => have : x.length = 16 := hf; simp [cmpRun, WOp.cost]; omega
  | _ => simp [cmpRun, WOp.cost]

theorem cmpO_fit (s : CW) (h : okW s) (o : WOp) (hf : o.fit) : cmpO s o = (cmpRun s o).2.1 := List.take_of_length_le (cmpO_len s h o hf)

theorem cmpRun_stk (s : CW) (o : WOp) : (cmpRun s o).1.stk.length ≤ s.stk.length ∨ (o = .strB ∧ (cmpRun s o).1.stk.length = s.stk.length + 1) := by
  cases o with
  | strB => exact .inr ⟨rfl, by simp [cmpRun]⟩
  | strE => left; rw [run_strE]; split <;> simp
  | fldB t id => left; rw [run_fldB]; split <;> simp
  | bool b => left; rw [run_bool]; split <;> simp
  | _ => exact .inl (Nat.le_refl _)

theorem cmpRoom_grow (r : CW × List UInt8) (o : WOp) : cmpRoom (cmpStep r o).1 ≤ cmpRoom r + o.cost := by
  have h1 : (cmpO r.1 o).length ≤ o.cost := by unfold cmpO; simp; omega
  unfold cmpRoom cmpStep
  simp only [List.length_append]
  rcases cmpRun_stk r.1 o with h | ⟨rfl, h⟩
  · omega
  · rw [h]
    have : (cmpO r.1 .strB).length = 0 := by simp [cmpO, cmpRun]
    simp only [WOp.cost]
    omega

end Go.Proofs.YtdafkilgakablaaGreatDoor

/-! The binary protocol over a memory buffer, as a protocol that writes. Printed by a program (wip/tools/pinst.py). -/
namespace Go.Proofs.YtdafkilgakablaaGreatDoor
open Go.RowKit Go.Deep
set_option linter.unusedVariables false
set_option linter.unusedSimpArgs false

def binFn (s : String) : FuncId :=
  if s = "WriteMessageBegin" then 217 else
  if s = "WriteMessageEnd" then 218 else
  if s = "WriteStructBegin" then 222 else
  if s = "WriteStructEnd" then 223 else
  if s = "WriteFieldBegin" then 207 else
  if s = "WriteFieldEnd" then 208 else
  if s = "WriteFieldStop" then 209 else
  if s = "WriteMapBegin" then 215 else
  if s = "WriteMapEnd" then 216 else
  if s = "WriteListBegin" then 213 else
  if s = "WriteListEnd" then 214 else
  if s = "WriteSetBegin" then 219 else
  if s = "WriteSetEnd" then 220 else
  if s = "WriteBool" then 204 else
  if s = "WriteByte" then 205 else
  if s = "WriteI16" then 210 else
  if s = "WriteI32" then 211 else
  if s = "WriteI64" then 212 else
  if s = "WriteDouble" then 206 else
  if s = "WriteString" then 221 else
  if s = "WriteBinary" then 203 else
  224

theorem bin_meth (p : Nat) (o : WOp) (k : Nat) (w : World) : (method (k + 1) 113 (.pointer (some ⟨p, 0, none⟩)) o.nm).run Tryz.prog w = .ok (binFn o.nm, .pointer (some ⟨p, 0, none⟩)) w := by
  cases o <;> kernel_rfl

theorem bin_ahead (p : Nat) (o : WOp) (k : Nat) (w : World) : (nilAhead (k + 1) 113 (.pointer (some ⟨p, 0, none⟩)) o.nm).run Tryz.prog w = .ok (some false) w := by
  cases o <;> kernel_rfl

theorem bin_ent (o : WOp) (args : Array Value) (w : World) : (callFunc (binFn o.nm) args).run Tryz.prog w = .ok (.enter (binFn o.nm) args) w := by
  cases o <;> kernel_rfl

/-- The bytes of a call: of an identifier sixteen. -/
def binO (b : Bool) (o : WOp) : List UInt8 :=
  match o with
  | .uuid s => s.take 16
  | o => binOut b o

theorem binO_le (b : Bool) (o : WOp) : (binO b o).length ≤ o.cost := by
  cases o <;> simp only [binO, binOut, WOp.cost, bText, List.length_append, List.length_cons, List.length_nil, be_length, List.length_take] <;> (try split) <;> (try simp only [List.length_append, List.length_cons, List.length_nil, be_length]) <;> omega

theorem cast_l {σ : Type} {Is : List Nat → σ → World → Prop} {f : FuncId} {a : Array Value} {S : List Nat} {w : World} {x y : σ} (h : x = y) (hc : Calls Tryz.prog f a w (Did Is S w (x, 0))) : Calls Tryz.prog f a w (Did Is S w (y, 0)) := h ▸ hc


theorem bin_does (p m : Nat) (og cf : Value) (c : Cfg) {S : List Nat} {l : List UInt8} {w : World} (h : BW p m og cf c S l w) (o : WOp) (hb : o.isBin = false) (hf : o.fit) (hr : l.length + o.cost ≤ 140737488355328) :
    Calls Tryz.prog (binFn o.nm) (o.argv (.pointer (some ⟨p, 0, none⟩))) w (Did (BW p m og cf c) S w (l ++ binO c.strictW o, 0)) := by
  cases o with
  | msgB nm t seq =>
    simp only [WOp.cost] at hr
    by_cases hc : c.strictW = true
    · exact cast_l (by simp [binO, binOut, hc]) (bw_msgB_strict h ctxV nm t seq hf.1 (by omega) hc)
    · have hc' : c.strictW = false := by simpa using hc
      exact cast_l (by simp [binO, binOut, hc']) (bw_msgB_loose h ctxV nm t seq hf.1 (by omega) hc')
  | msgE => exact cast_l (List.append_nil l).symm (bw_msgE h ctxV)
  | strB => exact cast_l (List.append_nil l).symm (bw_strB h ctxV (.string ByteArray.empty))
  | strE => exact cast_l (List.append_nil l).symm (bw_strE h ctxV)
  | fldB t id => exact bw_fldB h ctxV _ t id (by simp only [WOp.cost] at hr; omega)
  | fldE => exact cast_l (List.append_nil l).symm (bw_fldE h ctxV)
  | stop => exact bw_stop h ctxV (by simp only [WOp.cost] at hr; omega)
  | mapB k t n => exact bw_mapB h ctxV k t n (by simp only [WOp.cost] at hr; omega)
  | mapE => exact cast_l (List.append_nil l).symm (bw_mapE h ctxV)
  | lstB t n => exact bw_lstB h ctxV t n (by simp only [WOp.cost] at hr; omega)
  | lstE => exact cast_l (List.append_nil l).symm (bw_lstE h ctxV)
  | setB t n => exact bw_setB h ctxV t n (by simp only [WOp.cost] at hr; omega)
  | setE => exact cast_l (List.append_nil l).symm (bw_setE h ctxV)
  | bool b => exact bw_bool h ctxV b (by simp only [WOp.cost] at hr; omega)
  | byte n => exact bw_byte h ctxV n (by simp only [WOp.cost] at hr; omega)
  | i16 n => exact bw_i16 h ctxV n (by simp only [WOp.cost] at hr; omega)
  | i32 n => exact bw_i32 h ctxV n (by simp only [WOp.cost] at hr; omega)
  | i64 n => exact bw_i64 h ctxV n (by simp only [WOp.cost] at hr; omega)
  | dbl n => exact bw_dbl h ctxV n hf (by simp only [WOp.cost] at hr; omega)
  | str s => exact bw_str h ctxV s hf (by simp only [WOp.cost] at hr; omega)
  | bin s => simp [WOp.isBin] at hb
  | uuid s => exact cast_l (by show l ++ s = l ++ s.take 16; rw [List.take_of_length_le (by have : s.length = 16 := hf; omega)]) (bw_uuid h ctxV s hf (by simp only [WOp.cost] at hr; omega))

/-- The binary protocol. -/
def PBin (p m : Nat) (og cf : Value) (c : Cfg) : PW where
  ty := 113
  ptr := .pointer (some ⟨p, 0, none⟩)
  fn := binFn
  σ := List UInt8
  Is := BW p m og cf c
  room := List.length
  run := fun l o => (l ++ binO c.strictW o, 0)
  meth := bin_meth p
  ahead := bin_ahead p
  ent := bin_ent
  step := fun h _ _ _ hs hn => h.step hs hn
  lt := fun h => h.lt
  grow := fun s o => by simp only [List.length_append]; have := binO_le c.strictW o; omega
  does := fun h o hb hf hr => bin_does p m og cf c h o hb hf hr

/-- The bytes of calls by the binary protocol. -/
def binAll (b : Bool) (l : List WOp) : List UInt8 := l.flatMap (binO b)

theorem bin_runs (b : Bool) : ∀ (l : List WOp) (s : List UInt8), runs (fun s o => (s ++ binO b o, 0)) l s = (s ++ binAll b l, 0)
  | [], s => by simp [runs, binAll]
  | o :: l, s => by
    simp only [runs, if_true]
    rw [bin_runs b l]
    simp [binAll, List.append_assoc]

end Go.Proofs.YtdafkilgakablaaGreatDoor

/-! The compact protocol over a memory buffer, as a protocol that writes. Printed by a program (wip/tools/pinst2.py). -/
namespace Go.Proofs.YtdafkilgakablaaGreatDoor
open Go.RowKit Go.Deep
set_option linter.unusedVariables false
set_option linter.unusedSimpArgs false

def cmpFn (s : String) : FuncId :=
  if s = "WriteMessageBegin" then 135 else
  if s = "WriteMessageEnd" then 136 else
  if s = "WriteStructBegin" then 140 else
  if s = "WriteStructEnd" then 141 else
  if s = "WriteFieldBegin" then 125 else
  if s = "WriteFieldEnd" then 126 else
  if s = "WriteFieldStop" then 127 else
  if s = "WriteMapBegin" then 133 else
  if s = "WriteMapEnd" then 134 else
  if s = "WriteListBegin" then 131 else
  if s = "WriteListEnd" then 132 else
  if s = "WriteSetBegin" then 137 else
  if s = "WriteSetEnd" then 138 else
  if s = "WriteBool" then 122 else
  if s = "WriteByte" then 123 else
  if s = "WriteI16" then 128 else
  if s = "WriteI32" then 129 else
  if s = "WriteI64" then 130 else
  if s = "WriteDouble" then 124 else
  if s = "WriteString" then 139 else
  if s = "WriteBinary" then 121 else
  142

theorem cmp_meth (p : Nat) (o : WOp) (k : Nat) (w : World) : (method (k + 1) 109 (.pointer (some ⟨p, 0, none⟩)) o.nm).run Tryz.prog w = .ok (cmpFn o.nm, .pointer (some ⟨p, 0, none⟩)) w := by
  cases o <;> kernel_rfl

theorem cmp_ahead (p : Nat) (o : WOp) (k : Nat) (w : World) : (nilAhead (k + 1) 109 (.pointer (some ⟨p, 0, none⟩)) o.nm).run Tryz.prog w = .ok (some false) w := by
  cases o <;> kernel_rfl

theorem cmp_ent (o : WOp) (args : Array Value) (w : World) : (callFunc (cmpFn o.nm) args).run Tryz.prog w = .ok (.enter (cmpFn o.nm) args) w := by
  cases o <;> kernel_rfl

/-- What a call of the compact protocol leaves. -/
def CmpIs (p m : Nat) (og cf : Value) (c : Cfg) (S : List Nat) (r : CW × List UInt8) (w : World) : Prop :=
  (∃ bv bn, CP p m og cf c 0 S ⟨r.1.stk, r.1.last, r.1.pend, r.1.pid, bv, bn⟩ r.2 w) ∧ okW r.1

theorem toC {p m : Nat} {og cf : Value} {c : Cfg} {f : FuncId} {a : Array Value} {S : List Nat} {w : World} {st : CSt} {s1 : CW} {l1 l2 : List UInt8} {k : Nat} (hc : Calls Tryz.prog f a w (Did (CIs p m og cf c) S w ((st, l1), k)))
    (hst : st.stk = s1.stk ∧ st.last = s1.last ∧ st.pend = s1.pend ∧ st.pid = s1.pid) (hl : l1 = l2) (ok : okW s1) : Calls Tryz.prog f a w (Did (CmpIs p m og cf c) S w ((s1, l2), k)) := by
  subst hl
  refine hc.mono ?_
  rintro e w' ⟨ev, S1, rfl, he, h1, hs⟩
  obtain ⟨q1, q2, q3, q4⟩ := hst
  obtain ⟨a1, a2, a3, a4, a5, a6⟩ := st
  dsimp only at q1 q2 q3 q4
  subst q1 q2 q3 q4
  exact ⟨ev, S1, rfl, he, ⟨⟨a5, a6, h1⟩, ok⟩, hs⟩

set_option maxHeartbeats 1000000 in
theorem cmp_does (p m : Nat) (og cf : Value) (c : Cfg) {S : List Nat} {r : CW × List UInt8} {w : World} (h : CmpIs p m og cf c S r w) (o : WOp) (hb : o.isBin = false) (hf : o.fit) (hr : cmpRoom r + o.cost ≤ 140737488355328) :
    Calls Tryz.prog (cmpFn o.nm) (o.argv (.pointer (some ⟨p, 0, none⟩))) w (Did (CmpIs p m og cf c) S w (cmpStep r o)) := by
  obtain ⟨s, l⟩ := r
  obtain ⟨⟨bv, bn, hI⟩, ok⟩ := h
  have ok2 := okW_run s ok o hf
  have hk : cmpO s o = (cmpRun s o).2.1 := cmpO_fit s ok o hf
  obtain ⟨⟨h1, h2⟩, ⟨h3, h4⟩, h5⟩ := ok
  unfold cmpRoom at hr
  unfold cmpStep
  rw [hk]
  dsimp only at *
  cases o with
  | msgB nm t seq => exact toC (cp_msgB hI ctxV nm t seq hf.1 (by simp only [WOp.cost] at hr; omega)) ⟨rfl, rfl, rfl, rfl⟩ rfl ok2
  | msgE => exact toC (cp_msgE hI ctxV) ⟨rfl, rfl, rfl, rfl⟩ (List.append_nil l).symm ok2
  | strB => exact toC (cp_strB hI ctxV (.string ByteArray.empty) (by simp only [WOp.cost] at hr; dsimp only; omega)) ⟨rfl, rfl, rfl, rfl⟩ (List.append_nil l).symm ok2
  | strE =>
    by_cases h0 : s.stk = []
    · have e : cmpRun s .strE = (s, [], 11) := by simp [cmpRun, h0]
      rw [e] at ok2 ⊢
      exact toC (cp_strE_none hI ctxV h0) ⟨rfl, rfl, rfl, rfl⟩ (List.append_nil l).symm ok2
    · have e : cmpRun s .strE = ({ s with stk := s.stk.dropLast, last := s.stk.getLastD 0 }, [], 0) := by simp [cmpRun, h0]
      rw [e] at ok2 ⊢
      exact toC (cp_strE hI ctxV s.stk.dropLast (s.stk.getLastD 0) (stk_split s.stk h0)) ⟨rfl, rfl, rfl, rfl⟩ (List.append_nil l).symm ok2
  | fldB t id =>
    by_cases h0 : t = 2
    · subst h0
      exact toC (cp_fldB_bool hI ctxV ByteArray.empty id) ⟨rfl, rfl, rfl, rfl⟩ (List.append_nil l).symm ok2
    · have e : cmpRun s (.fldB t id) = ({ s with last := id }, cHead s.last id (cCode t), 0) := by simp [cmpRun, h0]
      rw [e] at ok2 ⊢
      exact toC (cp_fldB hI ctxV _ t id h0 hf.2.1 hf.2.2 h1 h2 (by simp only [WOp.cost] at hr; omega)) ⟨rfl, rfl, rfl, rfl⟩ rfl ok2
  | fldE => exact toC (cp_fldE hI ctxV) ⟨rfl, rfl, rfl, rfl⟩ (List.append_nil l).symm ok2
  | stop => exact toC (cp_stop hI ctxV (by simp only [WOp.cost] at hr; omega)) ⟨rfl, rfl, rfl, rfl⟩ rfl ok2
  | mapB k t n =>
    by_cases h0 : n = 0
    · subst h0
      exact toC (cp_mapB_none hI ctxV k t (by simp only [WOp.cost] at hr; omega)) ⟨rfl, rfl, rfl, rfl⟩ rfl ok2
    · exact toC (cp_mapB_some hI ctxV k t n h0 (by simp only [WOp.cost] at hr; omega)) ⟨rfl, rfl, rfl, rfl⟩ (by simp [cmpRun, h0]) ok2
  | mapE => exact toC (cp_mapE hI ctxV) ⟨rfl, rfl, rfl, rfl⟩ (List.append_nil l).symm ok2
  | lstB t n => exact toC (cp_lstB hI ctxV t n (by simp only [WOp.cost] at hr; omega)) ⟨rfl, rfl, rfl, rfl⟩ (by simp [cmpRun, cColl]) ok2
  | lstE => exact toC (cp_lstE hI ctxV) ⟨rfl, rfl, rfl, rfl⟩ (List.append_nil l).symm ok2
  | setB t n => exact toC (cp_setB hI ctxV t n (by simp only [WOp.cost] at hr; omega)) ⟨rfl, rfl, rfl, rfl⟩ (by simp [cmpRun, cColl]) ok2
  | setE => exact toC (cp_setE hI ctxV) ⟨rfl, rfl, rfl, rfl⟩ (List.append_nil l).symm ok2
  | bool b =>
    cases hp : s.pend
    · have e : cmpRun s (.bool b) = (s, [if b then 1 else 2], 0) := by simp [cmpRun, hp]
      rw [e] at ok2 ⊢
      exact toC (cp_bool hI ctxV b hp (by simp only [WOp.cost] at hr; omega)) ⟨rfl, rfl, rfl, rfl⟩ rfl ok2
    · have e : cmpRun s (.bool b) = ({ s with last := s.pid, pend := false }, cHead s.last s.pid (if b then 1 else 2), 0) := by simp [cmpRun, hp]
      rw [e] at ok2 ⊢
      exact toC (cp_bool_pend hI ctxV b hp h3 h4 h1 h2 (by simp only [WOp.cost] at hr; omega)) ⟨rfl, rfl, rfl, rfl⟩ rfl ok2
  | byte n => exact toC (cp_byte hI ctxV n (by simp only [WOp.cost] at hr; omega)) ⟨rfl, rfl, rfl, rfl⟩ rfl ok2
  | i16 n => exact toC (cp_i16 hI ctxV n hf.1 hf.2 (by simp only [WOp.cost] at hr; omega)) ⟨rfl, rfl, rfl, rfl⟩ rfl ok2
  | i32 n => exact toC (cp_i32 hI ctxV n hf.1 hf.2 (by simp only [WOp.cost] at hr; omega)) ⟨rfl, rfl, rfl, rfl⟩ rfl ok2
  | i64 n => exact toC (cp_i64 hI ctxV n hf.1 hf.2 (by simp only [WOp.cost] at hr; omega)) ⟨rfl, rfl, rfl, rfl⟩ rfl ok2
  | dbl n => exact toC (cp_dbl hI ctxV n hf (by simp only [WOp.cost] at hr; omega)) ⟨rfl, rfl, rfl, rfl⟩ rfl ok2
  | str x => exact toC (cp_str hI ctxV x hf (by simp only [WOp.cost] at hr; omega)) ⟨rfl, rfl, rfl, rfl⟩ rfl ok2
  | bin x => simp [WOp.isBin] at hb
  | uuid x => exact toC (cp_uuid hI ctxV x hf (by simp only [WOp.cost] at hr; omega)) ⟨rfl, rfl, rfl, rfl⟩ rfl ok2

/-- The compact protocol. -/
def PCmp (p m : Nat) (og cf : Value) (c : Cfg) : PW where
  ty := 109
  ptr := .pointer (some ⟨p, 0, none⟩)
  fn := cmpFn
  σ := CW × List UInt8
  Is := CmpIs p m og cf c
  room := cmpRoom
  run := cmpStep
  meth := cmp_meth p
  ahead := cmp_ahead p
  ent := cmp_ent
  step := fun h _ _ _ hs hn => ⟨by obtain ⟨bv, bn, h1⟩ := h.1; exact ⟨bv, bn, h1.step hs hn⟩, h.2⟩
  lt := fun h => by obtain ⟨bv, bn, h1⟩ := h.1; exact h1.lt
  grow := cmpRoom_grow
  does := fun h o hb hf hr => cmp_does p m og cf c h o hb hf hr

end Go.Proofs.YtdafkilgakablaaGreatDoor
