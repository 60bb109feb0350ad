/- Any values are skipped by whatever protocol. No condition. -/
import Derived.Test.YtmjcnomgpikncaaGreatDoorMz1
import Derived.Test.YtmjcnomgpikncaaGreatDoorMv2
import Derived.Test.YtmjcnomgpikncaaGreatDoorMt1
import Derived.Test.YtmjcnomgpikncaaGreatDoorMt3
import Derived.Test.YtmjcnomgpikncaaGreatDoorMv4
import Derived.Test.YtmjcnomgpikncaaGreatDoorMe
/-! A value is skipped by whatever protocol. Printed by a program (wip/tools/t71.py). -/
namespace Go.Proofs.YtmjcnomgpikncaaGreatDoor

open Go.RowKit Go.Deep

set_option linter.unusedVariables false

set_option linter.unusedSimpArgs false

open Go.Proofs.YtmjcnomgpikncaaGreatDoorW.PrintWords

/-- Behind a skipping. -/
def SkippedV (P : PR) (r : Nat × P.σ) (S : List Nat) (w : World) (e : Ending) (w' : World) : Prop :=
  ∃ ev S', e = .returned ev ∧ IsErr r.1 ev w' ∧ P.Is S' r.2 w' ∧ Step S S' w w'

/-- Skipping a value of a type, so deep. -/
def SkipsV (P : PR) (sv : Int → P.σ → Option (Nat × P.σ)) (D : Int) : Prop :=
  ∀ (S : List Nat) (s : P.σ) (w : World) (t : Int), P.Is S s w → 0 ≤ t → t < 256 → ∀ r, sv t s = some r → Calls Tryz.prog 52 #[ctxV, .iface P.ty P.ptr, .int .u8 t, .int .i64 D] w (SkippedV P r S w)

theorem skip_fail (P : PR) {S : List Nat} {s : P.σ} {w : World} (h : P.Is S s w) {t : Nat} {er ms : Value} (o : Obj) (ht : t ≤ 6) : SkippedV P (10 + t, s) S w (.returned (.iface 235 (.pointer (some ⟨w.heap.size + 1, 0, none⟩)))) ((w.alloc o).alloc (.cells #[.int .i64 (t : Nat), er, ms] 237 (0, 0))) :=
  ⟨_, S, rfl, .inr ⟨w.heap.size + 1, t, er, ms, rfl, ht, rfl, heap_alloc_at (by simp) _⟩, P.step h (((Step.refl [] w).alloc _).alloc _) (by simp), (((Step.refl S w).alloc _).alloc _)⟩

set_option maxRecDepth 100000 in
set_option maxHeartbeats 2000000 in
theorem skip_deep (P : PR) (D t : Int) (hD : D ≤ 0) {S : List Nat} {s : P.σ} {w : World} (h : P.Is S s w) :
    Calls Tryz.prog 52 #[ctxV, .iface P.ty P.ptr, .int .u8 t, .int .i64 D] w (SkippedV P (16, s) S w) := by
  have HI := Lib.hid h
  have hem := errS_m
  have hen := errS_n
  clear h
  go_enter Tryz.func52, Tryz.ntmps52
  go_wp2_with (first | (go_at_call 78; go_in) | (go_at_call 77; go_in) | (go_at_call 283; go_in))
  go_ret
  exact skip_fail P HI.out (t := 6) _ (by omega)

set_option maxRecDepth 100000 in
set_option maxHeartbeats 2000000 in
theorem skip_no (P : PR) (D t : Int) (hD : 1 ≤ D) (hn : t ≠ 2 ∧ t ≠ 3 ∧ t ≠ 4 ∧ t ≠ 6 ∧ t ≠ 8 ∧ t ≠ 10 ∧ t ≠ 11 ∧ t ≠ 12 ∧ t ≠ 13 ∧ t ≠ 14 ∧ t ≠ 15 ∧ t ≠ 16) {S : List Nat} {s : P.σ} {w : World} (h : P.Is S s w) :
    Calls Tryz.prog 52 #[ctxV, .iface P.ty P.ptr, .int .u8 t, .int .i64 D] w (SkippedV P (11, s) S w) := by
  have HI := Lib.hid h
  have hem := errS_m
  have hen := errS_n
  have hD0 : ¬ D ≤ 0 := by omega
  obtain ⟨n2, n3, n4, n6, n8, n10, n11, n12, n13, n14, n15, n16⟩ := hn
  clear h
  go_enter Tryz.func52, Tryz.ntmps52
  go_wp2_with (first | (go_at_call 78; go_in) | (go_at_call 77; go_in) | (go_at_call 283; go_in))
  go_ret
  exact skip_fail P HI.out (t := 1) _ (by omega)

set_option maxRecDepth 100000 in
set_option maxHeartbeats 2000000 in
theorem skip_leaf2 (P : PR) (D : Int) (hD : 1 ≤ D) {S : List Nat} {s : P.σ} {w : World} (h : P.Is S s w) {g : RGot} {k : Nat} {s1 : P.σ} (hr : P.run s .bool = some (g, k, s1)) :
    Calls Tryz.prog 52 #[ctxV, .iface P.ty P.ptr, .int .u8 2, .int .i64 D] w (SkippedV P (k, s1) S w) := by
  obtain ⟨hm, hn, hen⟩ := P.m_bool
  have hD0 : ¬ D ≤ 0 := by omega
  have HO := Lib.hid (show Calls Tryz.prog (P.fn "ReadBool") #[P.ptr, ctxV] w (TellsV P.Is (fun ev => .tuple #[.bool (g.n == 1), ev]) k s1 S w) from P.does h hr)
  clear hr h
  go_enter Tryz.func52, Tryz.ntmps52
  go_wp2_with (fail)
  refine HO.out.mono ?_
  rintro e W1 ⟨ev, S1, rfl, he, hI, hs⟩
  have HE := Lib.hid he
  have HI := Lib.hid hI
  have HS := Lib.hid hs
  clear he hI hs
  go_wp2
  go_ret
  exact ⟨_, S1, rfl, HE.out, HI.out, HS.out⟩

set_option maxRecDepth 100000 in
set_option maxHeartbeats 2000000 in
theorem skip_leaf3 (P : PR) (D : Int) (hD : 1 ≤ D) {S : List Nat} {s : P.σ} {w : World} (h : P.Is S s w) {g : RGot} {k : Nat} {s1 : P.σ} (hr : P.run s .byte = some (g, k, s1)) :
    Calls Tryz.prog 52 #[ctxV, .iface P.ty P.ptr, .int .u8 3, .int .i64 D] w (SkippedV P (k, s1) S w) := by
  obtain ⟨hm, hn, hen⟩ := P.m_byte
  have hD0 : ¬ D ≤ 0 := by omega
  have HO := Lib.hid (show Calls Tryz.prog (P.fn "ReadByte") #[P.ptr, ctxV] w (TellsV P.Is (fun ev => .tuple #[.int .i8 g.n, ev]) k s1 S w) from P.does h hr)
  clear hr h
  go_enter Tryz.func52, Tryz.ntmps52
  go_wp2_with (fail)
  refine HO.out.mono ?_
  rintro e W1 ⟨ev, S1, rfl, he, hI, hs⟩
  have HE := Lib.hid he
  have HI := Lib.hid hI
  have HS := Lib.hid hs
  clear he hI hs
  go_wp2
  go_ret
  exact ⟨_, S1, rfl, HE.out, HI.out, HS.out⟩

set_option maxRecDepth 100000 in
set_option maxHeartbeats 2000000 in
theorem skip_leaf4 (P : PR) (D : Int) (hD : 1 ≤ D) {S : List Nat} {s : P.σ} {w : World} (h : P.Is S s w) {g : RGot} {k : Nat} {s1 : P.σ} (hr : P.run s .dbl = some (g, k, s1)) :
    Calls Tryz.prog 52 #[ctxV, .iface P.ty P.ptr, .int .u8 4, .int .i64 D] w (SkippedV P (k, s1) S w) := by
  obtain ⟨hm, hn, hen⟩ := P.m_dbl
  have hD0 : ¬ D ≤ 0 := by omega
  have HO := Lib.hid (show Calls Tryz.prog (P.fn "ReadDouble") #[P.ptr, ctxV] w (TellsV P.Is (fun ev => .tuple #[.float .f64 (IntKind.u64.wrap g.n).toNat, ev]) k s1 S w) from P.does h hr)
  clear hr h
  go_enter Tryz.func52, Tryz.ntmps52
  go_wp2_with (fail)
  refine HO.out.mono ?_
  rintro e W1 ⟨ev, S1, rfl, he, hI, hs⟩
  have HE := Lib.hid he
  have HI := Lib.hid hI
  have HS := Lib.hid hs
  clear he hI hs
  go_wp2
  go_ret
  exact ⟨_, S1, rfl, HE.out, HI.out, HS.out⟩

set_option maxRecDepth 100000 in
set_option maxHeartbeats 2000000 in
theorem skip_leaf6 (P : PR) (D : Int) (hD : 1 ≤ D) {S : List Nat} {s : P.σ} {w : World} (h : P.Is S s w) {g : RGot} {k : Nat} {s1 : P.σ} (hr : P.run s .i16 = some (g, k, s1)) :
    Calls Tryz.prog 52 #[ctxV, .iface P.ty P.ptr, .int .u8 6, .int .i64 D] w (SkippedV P (k, s1) S w) := by
  obtain ⟨hm, hn, hen⟩ := P.m_i16
  have hD0 : ¬ D ≤ 0 := by omega
  have HO := Lib.hid (show Calls Tryz.prog (P.fn "ReadI16") #[P.ptr, ctxV] w (TellsV P.Is (fun ev => .tuple #[.int .i16 g.n, ev]) k s1 S w) from P.does h hr)
  clear hr h
  go_enter Tryz.func52, Tryz.ntmps52
  go_wp2_with (fail)
  refine HO.out.mono ?_
  rintro e W1 ⟨ev, S1, rfl, he, hI, hs⟩
  have HE := Lib.hid he
  have HI := Lib.hid hI
  have HS := Lib.hid hs
  clear he hI hs
  go_wp2
  go_ret
  exact ⟨_, S1, rfl, HE.out, HI.out, HS.out⟩

set_option maxRecDepth 100000 in
set_option maxHeartbeats 2000000 in
theorem skip_leaf8 (P : PR) (D : Int) (hD : 1 ≤ D) {S : List Nat} {s : P.σ} {w : World} (h : P.Is S s w) {g : RGot} {k : Nat} {s1 : P.σ} (hr : P.run s .i32 = some (g, k, s1)) :
    Calls Tryz.prog 52 #[ctxV, .iface P.ty P.ptr, .int .u8 8, .int .i64 D] w (SkippedV P (k, s1) S w) := by
  obtain ⟨hm, hn, hen⟩ := P.m_i32
  have hD0 : ¬ D ≤ 0 := by omega
  have HO := Lib.hid (show Calls Tryz.prog (P.fn "ReadI32") #[P.ptr, ctxV] w (TellsV P.Is (fun ev => .tuple #[.int .i32 g.n, ev]) k s1 S w) from P.does h hr)
  clear hr h
  go_enter Tryz.func52, Tryz.ntmps52
  go_wp2_with (fail)
  refine HO.out.mono ?_
  rintro e W1 ⟨ev, S1, rfl, he, hI, hs⟩
  have HE := Lib.hid he
  have HI := Lib.hid hI
  have HS := Lib.hid hs
  clear he hI hs
  go_wp2
  go_ret
  exact ⟨_, S1, rfl, HE.out, HI.out, HS.out⟩

set_option maxRecDepth 100000 in
set_option maxHeartbeats 2000000 in
theorem skip_leaf10 (P : PR) (D : Int) (hD : 1 ≤ D) {S : List Nat} {s : P.σ} {w : World} (h : P.Is S s w) {g : RGot} {k : Nat} {s1 : P.σ} (hr : P.run s .i64 = some (g, k, s1)) :
    Calls Tryz.prog 52 #[ctxV, .iface P.ty P.ptr, .int .u8 10, .int .i64 D] w (SkippedV P (k, s1) S w) := by
  obtain ⟨hm, hn, hen⟩ := P.m_i64
  have hD0 : ¬ D ≤ 0 := by omega
  have HO := Lib.hid (show Calls Tryz.prog (P.fn "ReadI64") #[P.ptr, ctxV] w (TellsV P.Is (fun ev => .tuple #[.int .i64 g.n, ev]) k s1 S w) from P.does h hr)
  clear hr h
  go_enter Tryz.func52, Tryz.ntmps52
  go_wp2_with (fail)
  refine HO.out.mono ?_
  rintro e W1 ⟨ev, S1, rfl, he, hI, hs⟩
  have HE := Lib.hid he
  have HI := Lib.hid hI
  have HS := Lib.hid hs
  clear he hI hs
  go_wp2
  go_ret
  exact ⟨_, S1, rfl, HE.out, HI.out, HS.out⟩

set_option maxRecDepth 100000 in
set_option maxHeartbeats 2000000 in
theorem skip_leaf11 (P : PR) (D : Int) (hD : 1 ≤ D) {S : List Nat} {s : P.σ} {w : World} (h : P.Is S s w) {g : RGot} {k : Nat} {s1 : P.σ} (hr : P.run s .str = some (g, k, s1)) :
    Calls Tryz.prog 52 #[ctxV, .iface P.ty P.ptr, .int .u8 11, .int .i64 D] w (SkippedV P (k, s1) S w) := by
  obtain ⟨hm, hn, hen⟩ := P.m_str
  have hD0 : ¬ D ≤ 0 := by omega
  have HO := Lib.hid (show Calls Tryz.prog (P.fn "ReadString") #[P.ptr, ctxV] w (TellsV P.Is (fun ev => .tuple #[strV g.s, ev]) k s1 S w) from P.does h hr)
  clear hr h
  go_enter Tryz.func52, Tryz.ntmps52
  go_wp2_with (fail)
  refine HO.out.mono ?_
  rintro e W1 ⟨ev, S1, rfl, he, hI, hs⟩
  have HE := Lib.hid he
  have HI := Lib.hid hI
  have HS := Lib.hid hs
  clear he hI hs
  go_wp2
  go_ret
  exact ⟨_, S1, rfl, HE.out, HI.out, HS.out⟩

set_option maxRecDepth 100000 in
set_option maxHeartbeats 2000000 in
theorem skip_leaf16 (P : PR) (D : Int) (hD : 1 ≤ D) {S : List Nat} {s : P.σ} {w : World} (h : P.Is S s w) {g : RGot} {k : Nat} {s1 : P.σ} (hr : P.run s .uuid = some (g, k, s1)) :
    Calls Tryz.prog 52 #[ctxV, .iface P.ty P.ptr, .int .u8 16, .int .i64 D] w (SkippedV P (k, s1) S w) := by
  obtain ⟨hm, hn, hen⟩ := P.m_uuid
  have hD0 : ¬ D ≤ 0 := by omega
  have HO := Lib.hid (show Calls Tryz.prog (P.fn "ReadUUID") #[P.ptr, ctxV] w (TellsV P.Is (fun ev => .tuple #[.agg (Lib.byteCells g.s).toArray, ev]) k s1 S w) from P.does h hr)
  clear hr h
  go_enter Tryz.func52, Tryz.ntmps52
  go_wp2_with (fail)
  refine HO.out.mono ?_
  rintro e W1 ⟨ev, S1, rfl, he, hI, hs⟩
  have HE := Lib.hid he
  have HI := Lib.hid hI
  have HS := Lib.hid hs
  clear he hI hs
  go_wp2
  go_ret
  exact ⟨_, S1, rfl, HE.out, HI.out, HS.out⟩

end Go.Proofs.YtmjcnomgpikncaaGreatDoor

/-! Containers and structs are skipped by whatever protocol. Printed by a program (wip/tools/t76.py). -/
namespace Go.Proofs.YtmjcnomgpikncaaGreatDoor

open Go.RowKit Go.Deep

set_option linter.unusedVariables false

set_option linter.unusedSimpArgs false

open Go.Proofs.YtmjcnomgpikncaaGreatDoorW.PrintWords

theorem skipL_succ {σ : Type} (sv : Int → σ → Option (Nat × σ)) (t : Int) (n : Nat) (s : σ) : skipL sv (List.replicate (n + 1) t) s = (sv t s).bind fun r => if r.1 = 0 then skipL sv (List.replicate n t) r.2 else some r := rfl

theorem SkippedV.back {P : PR} {r : Nat × P.σ} {S S2 : List Nat} {w W : World} {e : Ending} {w' : World} (h : SkippedV P r S2 W e w') (hs : Step S S2 w W) : SkippedV P r S w e w' := by
  obtain ⟨ev, S', h1, h2, h3, h4⟩ := h
  exact ⟨ev, S', h1, h2, h3, hs.trans h4⟩

set_option maxRecDepth 100000 in
set_option maxHeartbeats 2000000 in
theorem skip_set (P : PR) (sv : Int → P.σ → Option (Nat × P.σ)) (D : Int) (hD : 1 ≤ D ∧ D < 9223372036854775808) (hG : SkipsV P sv (D - 1)) {S : List Nat} {s : P.σ} {w : World} (h : P.Is S s w) {r : Nat × P.σ}
 (hr0 : ((P.run s .setB).bind fun a => if a.2.1 = 0 then (skipL sv (List.replicate a.1.size.toNat a.1.t) a.2.2).bind fun r => if r.1 = 0 then (P.run r.2 .setE).map fun b => (b.2.1, b.2.2) else some r else some (a.2.1, a.2.2)) = some r) :
 Calls Tryz.prog 52 #[ctxV, .iface P.ty P.ptr, .int .u8 14, .int .i64 D] w (SkippedV P r S w) := by
 rw [Option.bind_eq_some_iff] at hr0
 obtain ⟨⟨g, k, s1⟩, hr, hr0⟩ := hr0
 dsimp only at hr0
 have HR := Lib.hid hr0
 have HG := Lib.hid hG
 have hfit := P.fits hr
 clear hr0 hG
 obtain ⟨hm, hn, hen⟩ := P.m_setB
 obtain ⟨hm2, hn2, hen2⟩ := P.m_setE
 have hD0 : ¬ D ≤ 0 := by omega
 have HO := Lib.hid (show Calls Tryz.prog (P.fn "ReadSetBegin") #[P.ptr, ctxV] w (TellsV P.Is (fun ev => .tuple #[.int .u8 g.t, .int .i64 g.size, ev]) k s1 S w) from P.does h hr)
 clear hr h
 go_enter Tryz.func52, Tryz.ntmps52
 go_wp2_with (fail)
 refine HO.out.mono ?_
 rintro e W1 ⟨ev, S1, rfl, he, hI, hs⟩
 have HI := Lib.hid hI
 have HS := Lib.hid hs
 have HE := Lib.hid he
 clear hI hs
 rcases he with ⟨rfl, rfl⟩ | ⟨bb, tt, er, ms, hk1, hk2, rfl, hbb⟩
 case inr =>
  have hrr := HR.out
  rw [if_neg (by omega)] at hrr
  injection hrr with hrr
  subst hrr
  clear hk1
  go_wp2
  go_ret
  exact ⟨_, S1, rfl, HE.out, HI.out, HS.out⟩
 case inl =>
 clear HE
 have HR := Lib.hid ((if_pos rfl).symm.trans HR.out)
 have hgt := hfit.1 (by decide)
 have hgs := hfit.2.2.2.2.1 rfl
 obtain ⟨N, hN⟩ : ∃ N : Nat, g.size = N := ⟨g.size.toNat, by omega⟩
 have hNb : N < 9223372036854775807 := by have := hfit.2.2.2.1; omega
 have hR0 := HR.out
 rw [hN, Int.toNat_natCast, Option.bind_eq_some_iff] at hR0
 obtain ⟨R, hR1, hR2⟩ := hR0
 have HR1 := Lib.hid hR1
 have HR2 := Lib.hid hR2
 rw [hN]
 clear hR1 hR2 HR hfit hN hgs
 go_wp2_with (fail)
 go_loopw [187] (fun i wr => ∃ (j : Nat) (S2 : List Nat) (s2 : P.σ), i = .int .i64 (j : Nat) ∧ j ≤ N ∧ Hid (skipL sv (List.replicate (N - j) g.t) s2 = some R) ∧ Hid (P.Is S2 s2 wr) ∧ Hid (Step S S2 w wr)) (fun i _ => N - (intOf i).toNat)
 case atStart => exact ⟨0, S1, s1, rfl, by omega, HR1, HI, HS⟩
 case round =>
  obtain ⟨j, S2, s2, rfl, hj, hrun, HI2, HS2⟩ := hrel
  clear HR1 HI HS
  by_cases hlt : j < N
  case pos =>
   have hlt' : (j : Int) < (N : Int) := by omega
   have hq := hrun.out
   rw [show N - j = (N - (j + 1)) + 1 by omega, skipL_succ, Option.bind_eq_some_iff] at hq
   obtain ⟨q, hq1, hq2⟩ := hq
   have HQ2 := Lib.hid hq2
   have HGC := Lib.hid (HG.out S2 s2 wr g.t HI2.out hgt.1 hgt.2 q hq1)
   clear hq1 hq2 hrun
   go_wp2_with (fail)
   refine HGC.out.mono ?_
   rintro e W3 ⟨ev3, S3, rfl, he3, hI3, hs3⟩
   have HI3 := Lib.hid hI3
   have HS3 := Lib.hid (HS2.out.trans hs3)
   have HE3 := Lib.hid he3
   clear hI3 hs3
   rcases he3 with ⟨h0, rfl⟩ | ⟨bb, tt, er, ms, hk1, hk2, rfl, hbb⟩
   case inl =>
    have hnx : skipL sv (List.replicate (N - (j + 1)) g.t) q.2 = some R := by
     have h' := HQ2.out
     rw [if_pos h0] at h'
     exact h'
    clear HE3
    go_wp2_with (fail)
    exact ⟨⟨j + 1, S3, q.2, by go_num, by omega, Lib.hid hnx, HI3, HS3⟩, by simp [intOf]; omega⟩
   case inr =>
    have hne : q.1 ≠ 0 := by omega
    have h' := HQ2.out
    rw [if_neg hne] at h'
    injection h' with h'
    subst h'
    have hrr := HR2.out
    rw [if_neg hne] at hrr
    injection hrr with hrr
    subst hrr
    clear hk1 hne HQ2 HR2 hbb
    go_wp2
    go_ret
    exact ⟨_, S3, rfl, HE3.out, HI3.out, HS3.out⟩
  case neg =>
   have e0 : j = N := by omega
   subst e0
   have hlt' : ¬ ((j : Int) < (j : Int)) := by omega
   have hq := hrun.out
   rw [show j - j = 0 by omega] at hq
   have hq : some ((0 : Nat), s2) = some R := hq
   injection hq with hq
   subst hq
   have hrr := HR2.out
   rw [if_pos rfl, Option.map_eq_some_iff] at hrr
   obtain ⟨b, hb, hrr⟩ := hrr
   subst hrr
   have HO2 := Lib.hid (show Calls Tryz.prog (P.fn "ReadSetEnd") #[P.ptr, ctxV] wr (TellsV P.Is (fun ev => ev) b.2.1 b.2.2 S2 wr) from P.does HI2.out hb)
   clear hb hrun
   go_wp2_with (fail)
   refine HO2.out.mono ?_
   rintro e W3 ⟨ev3, S3, rfl, he3, hI3, hs3⟩
   have HI3 := Lib.hid hI3
   have HS3 := Lib.hid (HS2.out.trans hs3)
   have HE3 := Lib.hid he3
   clear he3 hI3 hs3
   go_wp2
   go_ret
   exact ⟨_, S3, rfl, HE3.out, HI3.out, HS3.out⟩

set_option maxRecDepth 100000 in
set_option maxHeartbeats 2000000 in
theorem skip_lst (P : PR) (sv : Int → P.σ → Option (Nat × P.σ)) (D : Int) (hD : 1 ≤ D ∧ D < 9223372036854775808) (hG : SkipsV P sv (D - 1)) {S : List Nat} {s : P.σ} {w : World} (h : P.Is S s w) {r : Nat × P.σ}
 (hr0 : ((P.run s .lstB).bind fun a => if a.2.1 = 0 then (skipL sv (List.replicate a.1.size.toNat a.1.t) a.2.2).bind fun r => if r.1 = 0 then (P.run r.2 .lstE).map fun b => (b.2.1, b.2.2) else some r else some (a.2.1, a.2.2)) = some r) :
 Calls Tryz.prog 52 #[ctxV, .iface P.ty P.ptr, .int .u8 15, .int .i64 D] w (SkippedV P r S w) := by
 rw [Option.bind_eq_some_iff] at hr0
 obtain ⟨⟨g, k, s1⟩, hr, hr0⟩ := hr0
 dsimp only at hr0
 have HR := Lib.hid hr0
 have HG := Lib.hid hG
 have hfit := P.fits hr
 clear hr0 hG
 obtain ⟨hm, hn, hen⟩ := P.m_lstB
 obtain ⟨hm2, hn2, hen2⟩ := P.m_lstE
 have hD0 : ¬ D ≤ 0 := by omega
 have HO := Lib.hid (show Calls Tryz.prog (P.fn "ReadListBegin") #[P.ptr, ctxV] w (TellsV P.Is (fun ev => .tuple #[.int .u8 g.t, .int .i64 g.size, ev]) k s1 S w) from P.does h hr)
 clear hr h
 go_enter Tryz.func52, Tryz.ntmps52
 go_wp2_with (fail)
 refine HO.out.mono ?_
 rintro e W1 ⟨ev, S1, rfl, he, hI, hs⟩
 have HI := Lib.hid hI
 have HS := Lib.hid hs
 have HE := Lib.hid he
 clear hI hs
 rcases he with ⟨rfl, rfl⟩ | ⟨bb, tt, er, ms, hk1, hk2, rfl, hbb⟩
 case inr =>
  have hrr := HR.out
  rw [if_neg (by omega)] at hrr
  injection hrr with hrr
  subst hrr
  clear hk1
  go_wp2
  go_ret
  exact ⟨_, S1, rfl, HE.out, HI.out, HS.out⟩
 case inl =>
 clear HE
 have HR := Lib.hid ((if_pos rfl).symm.trans HR.out)
 have hgt := hfit.1 (by decide)
 have hgs := hfit.2.2.2.2.1 rfl
 obtain ⟨N, hN⟩ : ∃ N : Nat, g.size = N := ⟨g.size.toNat, by omega⟩
 have hNb : N < 9223372036854775807 := by have := hfit.2.2.2.1; omega
 have hR0 := HR.out
 rw [hN, Int.toNat_natCast, Option.bind_eq_some_iff] at hR0
 obtain ⟨R, hR1, hR2⟩ := hR0
 have HR1 := Lib.hid hR1
 have HR2 := Lib.hid hR2
 rw [hN]
 clear hR1 hR2 HR hfit hN hgs
 go_wp2_with (fail)
 go_loopw [215] (fun i wr => ∃ (j : Nat) (S2 : List Nat) (s2 : P.σ), i = .int .i64 (j : Nat) ∧ j ≤ N ∧ Hid (skipL sv (List.replicate (N - j) g.t) s2 = some R) ∧ Hid (P.Is S2 s2 wr) ∧ Hid (Step S S2 w wr)) (fun i _ => N - (intOf i).toNat)
 case atStart => exact ⟨0, S1, s1, rfl, by omega, HR1, HI, HS⟩
 case round =>
  obtain ⟨j, S2, s2, rfl, hj, hrun, HI2, HS2⟩ := hrel
  clear HR1 HI HS
  by_cases hlt : j < N
  case pos =>
   have hlt' : (j : Int) < (N : Int) := by omega
   have hq := hrun.out
   rw [show N - j = (N - (j + 1)) + 1 by omega, skipL_succ, Option.bind_eq_some_iff] at hq
   obtain ⟨q, hq1, hq2⟩ := hq
   have HQ2 := Lib.hid hq2
   have HGC := Lib.hid (HG.out S2 s2 wr g.t HI2.out hgt.1 hgt.2 q hq1)
   clear hq1 hq2 hrun
   go_wp2_with (fail)
   refine HGC.out.mono ?_
   rintro e W3 ⟨ev3, S3, rfl, he3, hI3, hs3⟩
   have HI3 := Lib.hid hI3
   have HS3 := Lib.hid (HS2.out.trans hs3)
   have HE3 := Lib.hid he3
   clear hI3 hs3
   rcases he3 with ⟨h0, rfl⟩ | ⟨bb, tt, er, ms, hk1, hk2, rfl, hbb⟩
   case inl =>
    have hnx : skipL sv (List.replicate (N - (j + 1)) g.t) q.2 = some R := by
     have h' := HQ2.out
     rw [if_pos h0] at h'
     exact h'
    clear HE3
    go_wp2_with (fail)
    exact ⟨⟨j + 1, S3, q.2, by go_num, by omega, Lib.hid hnx, HI3, HS3⟩, by simp [intOf]; omega⟩
   case inr =>
    have hne : q.1 ≠ 0 := by omega
    have h' := HQ2.out
    rw [if_neg hne] at h'
    injection h' with h'
    subst h'
    have hrr := HR2.out
    rw [if_neg hne] at hrr
    injection hrr with hrr
    subst hrr
    clear hk1 hne HQ2 HR2 hbb
    go_wp2
    go_ret
    exact ⟨_, S3, rfl, HE3.out, HI3.out, HS3.out⟩
  case neg =>
   have e0 : j = N := by omega
   subst e0
   have hlt' : ¬ ((j : Int) < (j : Int)) := by omega
   have hq := hrun.out
   rw [show j - j = 0 by omega] at hq
   have hq : some ((0 : Nat), s2) = some R := hq
   injection hq with hq
   subst hq
   have hrr := HR2.out
   rw [if_pos rfl, Option.map_eq_some_iff] at hrr
   obtain ⟨b, hb, hrr⟩ := hrr
   subst hrr
   have HO2 := Lib.hid (show Calls Tryz.prog (P.fn "ReadListEnd") #[P.ptr, ctxV] wr (TellsV P.Is (fun ev => ev) b.2.1 b.2.2 S2 wr) from P.does HI2.out hb)
   clear hb hrun
   go_wp2_with (fail)
   refine HO2.out.mono ?_
   rintro e W3 ⟨ev3, S3, rfl, he3, hI3, hs3⟩
   have HI3 := Lib.hid hI3
   have HS3 := Lib.hid (HS2.out.trans hs3)
   have HE3 := Lib.hid he3
   clear he3 hI3 hs3
   go_wp2
   go_ret
   exact ⟨_, S3, rfl, HE3.out, HI3.out, HS3.out⟩

end Go.Proofs.YtmjcnomgpikncaaGreatDoor

/-! Maps and structs are skipped by whatever protocol. Printed by a program (wip/tools/t76.py). -/
namespace Go.Proofs.YtmjcnomgpikncaaGreatDoor

open Go.RowKit Go.Deep

set_option linter.unusedVariables false

set_option linter.unusedSimpArgs false

open Go.Proofs.YtmjcnomgpikncaaGreatDoorW.PrintWords

theorem skipM_succ {σ : Type} (sv : Int → σ → Option (Nat × σ)) (k t : Int) (n : Nat) (s : σ) : skipL sv (pairs k t (n + 1)) s = (sv k s).bind fun r => if r.1 = 0 then (sv t r.2).bind (fun r => if r.1 = 0 then skipL sv (pairs k t n) r.2 else some r) else some r := rfl

set_option maxRecDepth 100000 in
set_option maxHeartbeats 2000000 in
theorem skip_map (P : PR) (sv : Int → P.σ → Option (Nat × P.σ)) (D : Int) (hD : 1 ≤ D ∧ D < 9223372036854775808) (hG : SkipsV P sv (D - 1)) {S : List Nat} {s : P.σ} {w : World} (h : P.Is S s w) {r : Nat × P.σ}
 (hr0 : ((P.run s .mapB).bind fun a => if a.2.1 = 0 then (skipL sv (pairs a.1.k a.1.t a.1.size.toNat) a.2.2).bind fun r => if r.1 = 0 then (P.run r.2 .mapE).map fun b => (b.2.1, b.2.2) else some r else some (a.2.1, a.2.2)) = some r) :
 Calls Tryz.prog 52 #[ctxV, .iface P.ty P.ptr, .int .u8 13, .int .i64 D] w (SkippedV P r S w) := by
 rw [Option.bind_eq_some_iff] at hr0
 obtain ⟨⟨g, k, s1⟩, hr, hr0⟩ := hr0
 dsimp only at hr0
 have HR := Lib.hid hr0
 have HG := Lib.hid hG
 have hfit := P.fits hr
 clear hr0 hG
 obtain ⟨hm, hn, hen⟩ := P.m_mapB
 obtain ⟨hm2, hn2, hen2⟩ := P.m_mapE
 have hD0 : ¬ D ≤ 0 := by omega
 have HO := Lib.hid (show Calls Tryz.prog (P.fn "ReadMapBegin") #[P.ptr, ctxV] w (TellsV P.Is (fun ev => .tuple #[.int .u8 g.k, .int .u8 g.t, .int .i64 g.size, ev]) k s1 S w) from P.does h hr)
 clear hr h
 go_enter Tryz.func52, Tryz.ntmps52
 go_wp2_with (fail)
 refine HO.out.mono ?_
 rintro e W1 ⟨ev, S1, rfl, he, hI, hs⟩
 have HI := Lib.hid hI
 have HS := Lib.hid hs
 have HE := Lib.hid he
 clear hI hs
 rcases he with ⟨rfl, rfl⟩ | ⟨bb, tt, er, ms, hk1, hk2, rfl, hbb⟩
 case inr =>
  have hrr := HR.out
  rw [if_neg (by omega)] at hrr
  injection hrr with hrr
  subst hrr
  clear hk1
  go_wp2
  go_ret
  exact ⟨_, S1, rfl, HE.out, HI.out, HS.out⟩
 case inl =>
 clear HE
 have HR := Lib.hid ((if_pos rfl).symm.trans HR.out)
 have hgt := hfit.1 (by decide)
 have hgk := hfit.2.2.1
 have hgs := hfit.2.2.2.2.1 rfl
 obtain ⟨N, hN⟩ : ∃ N : Nat, g.size = N := ⟨g.size.toNat, by omega⟩
 have hNb : N < 9223372036854775807 := by have := hfit.2.2.2.1; omega
 have hR0 := HR.out
 rw [hN, Int.toNat_natCast, Option.bind_eq_some_iff] at hR0
 obtain ⟨R, hR1, hR2⟩ := hR0
 have HR1 := Lib.hid hR1
 have HR2 := Lib.hid hR2
 rw [hN]
 clear hR1 hR2 HR hfit hN hgs
 go_wp2_with (fail)
 go_loopw [150] (fun i wr => ∃ (j : Nat) (S2 : List Nat) (s2 : P.σ), i = .int .i64 (j : Nat) ∧ j ≤ N ∧ Hid (skipL sv (pairs g.k g.t (N - j)) s2 = some R) ∧ Hid (P.Is S2 s2 wr) ∧ Hid (Step S S2 w wr)) (fun i _ => N - (intOf i).toNat)
 case atStart => exact ⟨0, S1, s1, rfl, by omega, HR1, HI, HS⟩
 case round =>
  obtain ⟨j, S2, s2, rfl, hj, hrun, HI2, HS2⟩ := hrel
  clear HR1 HI HS
  by_cases hlt : j < N
  case pos =>
   have hlt' : (j : Int) < (N : Int) := by omega
   have hq := hrun.out
   rw [show N - j = (N - (j + 1)) + 1 by omega, skipM_succ, Option.bind_eq_some_iff] at hq
   obtain ⟨q, hq1, hq2⟩ := hq
   have HQ2 := Lib.hid hq2
   have HGC := Lib.hid (HG.out S2 s2 wr g.k HI2.out hgk.1 hgk.2 q hq1)
   clear hq1 hq2 hrun
   go_wp2_with (fail)
   refine HGC.out.mono ?_
   rintro e W3 ⟨ev3, S3, rfl, he3, hI3, hs3⟩
   have HI3 := Lib.hid hI3
   have HS3 := Lib.hid (HS2.out.trans hs3)
   have HE3 := Lib.hid he3
   clear hI3 hs3
   rcases he3 with ⟨h0, rfl⟩ | ⟨bb, tt, er, ms, hk1, hk2, rfl, hbb⟩
   case inl =>
    have hnx := HQ2.out
    rw [if_pos h0, Option.bind_eq_some_iff] at hnx
    obtain ⟨q4, hq3, hq4⟩ := hnx
    have HQ4 := Lib.hid hq4
    have HGC2 := Lib.hid (HG.out S3 q.2 W3 g.t HI3.out hgt.1 hgt.2 q4 hq3)
    clear HE3 hq3 hq4 h0 HQ2
    go_wp2_with (fail)
    refine HGC2.out.mono ?_
    rintro e W5 ⟨ev5, S5, rfl, he5, hI5, hs5⟩
    have HI5 := Lib.hid hI5
    have HS5 := Lib.hid (HS3.out.trans hs5)
    have HE5 := Lib.hid he5
    clear hI5 hs5
    rcases he5 with ⟨h0, rfl⟩ | ⟨bb, tt, er, ms, hk1, hk2, rfl, hbb⟩
    case inl =>
     have hnx : skipL sv (pairs g.k g.t (N - (j + 1))) q4.2 = some R := by
      have h' := HQ4.out
      rw [if_pos h0] at h'
      exact h'
     clear HE5
     go_wp2_with (fail)
     exact ⟨⟨j + 1, S5, q4.2, by go_num, by omega, Lib.hid hnx, HI5, HS5⟩, by simp [intOf]; omega⟩
    case inr =>
     have hne : q4.1 ≠ 0 := by omega
     have h' := HQ4.out
     rw [if_neg hne] at h'
     injection h' with h'
     subst h'
     have hrr := HR2.out
     rw [if_neg hne] at hrr
     injection hrr with hrr
     subst hrr
     clear hk1 hne HQ4 HR2 hbb
     go_wp2
     go_ret
     exact ⟨_, S5, rfl, HE5.out, HI5.out, HS5.out⟩
   case inr =>
    have hne : q.1 ≠ 0 := by omega
    have h' := HQ2.out
    rw [if_neg hne] at h'
    injection h' with h'
    subst h'
    have hrr := HR2.out
    rw [if_neg hne] at hrr
    injection hrr with hrr
    subst hrr
    clear hk1 hne HQ2 HR2 hbb
    go_wp2
    go_ret
    exact ⟨_, S3, rfl, HE3.out, HI3.out, HS3.out⟩
  case neg =>
   have e0 : j = N := by omega
   subst e0
   have hlt' : ¬ ((j : Int) < (j : Int)) := by omega
   have hq := hrun.out
   rw [show j - j = 0 by omega] at hq
   have hq : some ((0 : Nat), s2) = some R := hq
   injection hq with hq
   subst hq
   have hrr := HR2.out
   rw [if_pos rfl, Option.map_eq_some_iff] at hrr
   obtain ⟨b, hb, hrr⟩ := hrr
   subst hrr
   have HO2 := Lib.hid (show Calls Tryz.prog (P.fn "ReadMapEnd") #[P.ptr, ctxV] wr (TellsV P.Is (fun ev => ev) b.2.1 b.2.2 S2 wr) from P.does HI2.out hb)
   clear hb hrun
   go_wp2_with (fail)
   refine HO2.out.mono ?_
   rintro e W3 ⟨ev3, S3, rfl, he3, hI3, hs3⟩
   have HI3 := Lib.hid hI3
   have HS3 := Lib.hid (HS2.out.trans hs3)
   have HE3 := Lib.hid he3
   clear he3 hI3 hs3
   go_wp2
   go_ret
   exact ⟨_, S3, rfl, HE3.out, HI3.out, HS3.out⟩

set_option maxRecDepth 100000 in
set_option maxHeartbeats 2000000 in
theorem skip_struct (P : PR) (sv : Int → P.σ → Option (Nat × P.σ)) (D : Int) (hD : 1 ≤ D ∧ D < 9223372036854775808) (hG : SkipsV P sv (D - 1)) (f : Nat) {S : List Nat} {s : P.σ} {w : World} (h : P.Is S s w) {r : Nat × P.σ}
 (hr0 : ((P.run s .strB).bind fun a => if a.2.1 = 0 then skipF P.run sv f a.2.2 else some (a.2.1, a.2.2)) = some r) :
 Calls Tryz.prog 52 #[ctxV, .iface P.ty P.ptr, .int .u8 12, .int .i64 D] w (SkippedV P r S w) := by
 rw [Option.bind_eq_some_iff] at hr0
 obtain ⟨⟨g, k, s1⟩, hr, hr0⟩ := hr0
 dsimp only at hr0
 have HR := Lib.hid hr0
 have HG := Lib.hid hG
 clear hr0 hG
 obtain ⟨hm, hn, hen⟩ := P.m_strB
 obtain ⟨hm2, hn2, hen2⟩ := P.m_fldB
 obtain ⟨hm3, hn3, hen3⟩ := P.m_fldE
 obtain ⟨hm4, hn4, hen4⟩ := P.m_strE
 have hD0 : ¬ D ≤ 0 := by omega
 have HO := Lib.hid (show Calls Tryz.prog (P.fn "ReadStructBegin") #[P.ptr, ctxV] w (TellsV P.Is (fun ev => .tuple #[.string ByteArray.empty, ev]) k s1 S w) from P.does h hr)
 clear hr h
 go_enter Tryz.func52, Tryz.ntmps52
 go_wp2_with (fail)
 refine HO.out.mono ?_
 rintro e W1 ⟨ev, S1, rfl, he, hI, hs⟩
 have HI := Lib.hid hI
 have HS := Lib.hid hs
 have HE := Lib.hid he
 clear hI hs
 rcases he with ⟨rfl, rfl⟩ | ⟨bb, tt, er, ms, hk1, hk2, rfl, hbb⟩
 case inr =>
  have hrr := HR.out
  rw [if_neg (by omega)] at hrr
  injection hrr with hrr
  subst hrr
  clear hk1
  go_wp2
  go_ret
  exact ⟨_, S1, rfl, HE.out, HI.out, HS.out⟩
 case inl =>
 clear HE
 have HR := Lib.hid ((if_pos rfl).symm.trans HR.out)
 go_wp2_with (fail)
 go_loopg [117] f (fun gk u117 wr => ∃ (S2 : List Nat) (s2 : P.σ), Hid (skipF P.run sv gk s2 = some r) ∧ Hid (P.Is S2 s2 wr) ∧ Hid (Step S S2 w wr))
 case atStart => exact ⟨S1, s1, HR, HI, HS⟩
 case round =>
  clear HR HI HS
  obtain ⟨S2, s2, hrun, HI2, HS2⟩ := hrel
  obtain ⟨gn, rfl⟩ : ∃ gn, gk = gn + 1 := by
   cases gk with
   | zero => have h' := hrun.out; simp [skipF] at h'
   | succ gn => exact ⟨gn, rfl⟩
  have hq := hrun.out
  rw [skipF, Option.bind_eq_some_iff] at hq
  obtain ⟨⟨a, ka, sa⟩, ha, hq⟩ := hq
  dsimp only at hq
  have HQ := Lib.hid hq
  have hfit := P.fits ha
  have hat := hfit.1 (by decide)
  have HO5 := Lib.hid (show Calls Tryz.prog (P.fn "ReadFieldBegin") #[P.ptr, ctxV] wr (TellsV P.Is (fun ev => .tuple #[.string ByteArray.empty, .int .u8 a.t, .int .i16 a.id, ev]) ka sa S2 wr) from P.does HI2.out ha)
  clear hq hrun ha hfit
  go_wp2_with (fail)
  refine HO5.out.mono ?_
  rintro e W3 ⟨ev3, S3, rfl, he3, hI3, hs3⟩
  have HI3 := Lib.hid hI3
  have HS3 := Lib.hid (HS2.out.trans hs3)
  have HE3 := Lib.hid he3
  clear hI3 hs3
  rcases he3 with ⟨rfl, rfl⟩ | ⟨bb, tt, er, ms, hk1, hk2, rfl, hbb⟩
  case inr =>
   have hrr := HQ.out
   rw [if_neg (by omega)] at hrr
   injection hrr with hrr
   subst hrr
   clear hk1 hbb HQ
   go_wp2
   go_ret
   exact ⟨_, S3, rfl, HE3.out, HI3.out, HS3.out⟩
  case inl =>
  clear HE3
  have HQ := Lib.hid ((if_pos rfl).symm.trans HQ.out)
  by_cases hstop : a.t = 0
  case pos =>
   have hrr := HQ.out
   rw [if_pos hstop, Option.map_eq_some_iff] at hrr
   obtain ⟨b, hb1, hrr⟩ := hrr
   subst hrr
   have HO9 := Lib.hid (show Calls Tryz.prog (P.fn "ReadStructEnd") #[P.ptr, ctxV] W3 (TellsV P.Is (fun ev => ev) b.2.1 b.2.2 S3 W3) from P.does HI3.out hb1)
   clear hb1 HQ
   go_wp2_with (fail)
   refine HO9.out.mono ?_
   rintro e W5 ⟨ev5, S5, rfl, he5, hI5, hs5⟩
   have HI5 := Lib.hid hI5
   have HS5 := Lib.hid (HS3.out.trans hs5)
   have HE5 := Lib.hid he5
   clear he5 hI5 hs5
   go_wp2
   go_ret
   exact ⟨_, S5, rfl, HE5.out, HI5.out, HS5.out⟩
  case neg =>
  have hq := HQ.out
  rw [if_neg hstop, Option.bind_eq_some_iff] at hq
  obtain ⟨q, hq1, hq2⟩ := hq
  have HQ2 := Lib.hid hq2
  have HGC := Lib.hid (HG.out S3 sa W3 a.t HI3.out hat.1 hat.2 q hq1)
  clear hq1 hq2 HQ
  go_wp2_with (fail)
  refine HGC.out.mono ?_
  rintro e W5 ⟨ev5, S5, rfl, he5, hI5, hs5⟩
  have HI5 := Lib.hid hI5
  have HS5 := Lib.hid (HS3.out.trans hs5)
  have HE5 := Lib.hid he5
  clear hI5 hs5
  rcases he5 with ⟨h0, rfl⟩ | ⟨bb, tt, er, ms, hk1, hk2, rfl, hbb⟩
  case inr =>
   have hne : q.1 ≠ 0 := by omega
   have hrr := HQ2.out
   rw [if_neg hne] at hrr
   injection hrr with hrr
   subst hrr
   clear hk1 hne HQ2 hbb
   go_wp2
   go_ret
   exact ⟨_, S5, rfl, HE5.out, HI5.out, HS5.out⟩
  case inl =>
  clear HE5
  have hq := HQ2.out
  rw [if_pos h0, Option.bind_eq_some_iff] at hq
  obtain ⟨b, hb1, hq⟩ := hq
  have HQ3 := Lib.hid hq
  have HO9 := Lib.hid (show Calls Tryz.prog (P.fn "ReadFieldEnd") #[P.ptr, ctxV] W5 (TellsV P.Is (fun ev => ev) b.2.1 b.2.2 S5 W5) from P.does HI5.out hb1)
  clear hb1 hq HQ2 h0
  go_wp2_with (fail)
  refine HO9.out.mono ?_
  rintro e W7 ⟨ev7, S7, rfl, he7, hI7, hs7⟩
  have HI7 := Lib.hid hI7
  have HS7 := Lib.hid (HS5.out.trans hs7)
  clear he7 hI7 hs7
  go_wp2_with (fail)
  go_roundg gn
  case measure => omega
  case rel => exact ⟨S7, b.2.2, HQ3, HI7, HS7⟩

end Go.Proofs.YtmjcnomgpikncaaGreatDoor

/-! Any value is skipped by whatever protocol. -/
namespace Go.Proofs.YtmjcnomgpikncaaGreatDoor

open Go.RowKit Go.Deep

set_option linter.unusedVariables false

set_option linter.unusedSimpArgs false

open Go.Proofs.YtmjcnomgpikncaaGreatDoorW.PrintWords

/-- A value of a type is skipped, so deep. -/
theorem skip_any (P : PR) : ∀ (f : Nat) (D : Int), -9223372036854775807 ≤ D → D < 9223372036854775808 → SkipsV P (skipV P.run f D) D
  | 0, D, h0, h1 => fun S s w t hI ht0 ht1 r hr => by simp [skipV] at hr
  | f + 1, D, h0, h1 => fun S s w t hI ht0 ht1 r hr => by
    rw [skipV] at hr
    by_cases hD : D ≤ 0
    · rw [if_pos hD] at hr
      injection hr with hr
      subst hr
      exact skip_deep P D t hD hI
    rw [if_neg hD] at hr
    have hD1 : 1 ≤ D ∧ D < 9223372036854775808 := by omega
    have ih := skip_any P f (D - 1) (by omega) (by omega)
    cases ho : ropOf t with
    | some o =>
      rw [ho] at hr
      simp only [Option.map_eq_some_iff] at hr
      obtain ⟨⟨g, k, s1⟩, ha, rfl⟩ := hr
      unfold ropOf at ho
      by_cases h2 : t = 2
      · subst h2; rw [if_pos rfl] at ho; injection ho with ho; subst ho; exact skip_leaf2 P D hD1.1 hI ha
      rw [if_neg h2] at ho
      by_cases h3 : t = 3
      · subst h3; rw [if_pos rfl] at ho; injection ho with ho; subst ho; exact skip_leaf3 P D hD1.1 hI ha
      rw [if_neg h3] at ho
      by_cases h4 : t = 4
      · subst h4; rw [if_pos rfl] at ho; injection ho with ho; subst ho; exact skip_leaf4 P D hD1.1 hI ha
      rw [if_neg h4] at ho
      by_cases h6 : t = 6
      · subst h6; rw [if_pos rfl] at ho; injection ho with ho; subst ho; exact skip_leaf6 P D hD1.1 hI ha
      rw [if_neg h6] at ho
      by_cases h8 : t = 8
      · subst h8; rw [if_pos rfl] at ho; injection ho with ho; subst ho; exact skip_leaf8 P D hD1.1 hI ha
      rw [if_neg h8] at ho
      by_cases h10 : t = 10
      · subst h10; rw [if_pos rfl] at ho; injection ho with ho; subst ho; exact skip_leaf10 P D hD1.1 hI ha
      rw [if_neg h10] at ho
      by_cases h11 : t = 11
      · subst h11; rw [if_pos rfl] at ho; injection ho with ho; subst ho; exact skip_leaf11 P D hD1.1 hI ha
      rw [if_neg h11] at ho
      by_cases h16 : t = 16
      · subst h16; rw [if_pos rfl] at ho; injection ho with ho; subst ho; exact skip_leaf16 P D hD1.1 hI ha
      rw [if_neg h16] at ho
      cases ho
    | none =>
      rw [ho] at hr
      dsimp only at hr
      by_cases h12 : t = 12
      · subst h12
        rw [if_pos rfl] at hr
        exact skip_struct P _ D hD1 ih f hI hr
      rw [if_neg h12] at hr
      by_cases h13 : t = 13
      · subst h13
        rw [if_pos rfl] at hr
        exact skip_map P _ D hD1 ih hI hr
      rw [if_neg h13] at hr
      by_cases h14 : t = 14
      · subst h14
        rw [if_pos rfl] at hr
        exact skip_set P _ D hD1 ih hI hr
      rw [if_neg h14] at hr
      by_cases h15 : t = 15
      · subst h15
        rw [if_pos rfl] at hr
        exact skip_lst P _ D hD1 ih hI hr
      rw [if_neg h15] at hr
      injection hr with hr
      subst hr
      refine skip_no P D t hD1.1 ⟨?_, ?_, ?_, ?_, ?_, ?_, ?_, h12, h13, h14, h15, ?_⟩ hI <;> (rintro rfl; simp [ropOf] at ho)

end Go.Proofs.YtmjcnomgpikncaaGreatDoor

/-! Any value is skipped in a memory buffer that has bytes, whatever the configuration. -/
namespace Go.Proofs.YtmjcnomgpikncaaGreatDoor

open Go.RowKit Go.Deep

set_option linter.unusedVariables false

set_option linter.unusedSimpArgs false

open Go.Proofs.YtmjcnomgpikncaaGreatDoorW.PrintWords

end Go.Proofs.YtmjcnomgpikncaaGreatDoor

/-! Right values are skipped, or are too deep, whatever the configuration. -/
namespace Go.Proofs.YtmjcnomgpikncaaGreatDoor

open Go.RowKit Go.Deep

set_option linter.unusedVariables false

set_option linter.unusedSimpArgs false

open Go.Proofs.YtmjcnomgpikncaaGreatDoorW.PrintWords

theorem leastOf_one (proto t : Int) : 1 ≤ leastOf proto t := by
  unfold leastOf
  (repeat' split) <;> omega

theorem xs_pos {proto : Int} {V : Val} (hV : rightV V = true) {xs : List Int} {r : List UInt8} (hx : toB xs = gen (codec proto) V ++ r) : 1 ≤ xs.length := by
  have h1 := gen_least proto V hV
  have h2 := leastOf_one proto V.f0
  have h3 := congrArg List.length hx
  rw [List.length_append] at h3
  have h4 : (toB xs).length = xs.length := by simp [toB]
  omega

section

variable (proto : Int) (hp : proto = 0 ∨ proto = 1) (plain rb sb : Bool) (ms ct fr : Int) (hf : (cfgOf plain rb sb ms ct fr).fit) (hc : 65536 ≤ (cfgOf plain rb sb ms ct fr).container) (hm : 1048576 ≤ (cfgOf plain rb sb ms ct fr).message)

  (V : Val) (hV : rightV V = true) (hw : wfV V) (ht : tot V ≤ 65536) (B : Option Addr) (cB : Nat) (xs : List Int) (r : List UInt8) (w : World) (hE : EofAt w) (hB : (Kd.int .u8).C w B xs.length xs) (h8 : ∀ x ∈ xs, 0 ≤ x ∧ x < 256) (hlim : xs.length ≤ 140737488355328) (hx : toB xs = gen (codec proto) V ++ r)

end

end Go.Proofs.YtmjcnomgpikncaaGreatDoor
