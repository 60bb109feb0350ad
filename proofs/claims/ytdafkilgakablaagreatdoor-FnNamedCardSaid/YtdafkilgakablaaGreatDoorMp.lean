/- Names through a multiplexed protocol. No condition. -/
import Derived.Test.YtdafkilgakablaaGreatDoorMg2
import Derived.Test.YtdafkilgakablaaGreatDoorMn
import Derived.Laws.Concat
/-! The begin of a message through a protocol that puts a service's name ahead: by whatever protocol beneath; over a new memory buffer, whatever the configuration. -/
namespace Go.Proofs.YtdafkilgakablaaGreatDoor
open Go.RowKit Go.Deep
set_option linter.unusedVariables false
set_option linter.unusedSimpArgs false
open Go.Proofs.YtdafkilgakablaaGreatDoorW.PrintWords

/-- The name that is written. -/
def wholeName (svc nm : List UInt8) (t : Int) : List UInt8 := if t = 1 ∨ t = 4 then svc ++ 58 :: nm else nm

theorem str_add (a b : List UInt8) : (⟨a.toArray⟩ : ByteArray) ++ (⟨b.toArray⟩ : ByteArray) = ⟨(a ++ b).toArray⟩ := by
  apply ByteArray.ext
  apply Array.toList_inj.1
  simp

set_option maxRecDepth 100000 in
set_option maxHeartbeats 2000000 in
theorem mux_plain (P : PW) (b : Nat) (nm : List UInt8) (t n : Int) {S : List Nat} {s : P.σ} {w : World} (h : P.Is S s w) (c0 : w.cell? ⟨b, 0, none⟩ = some (.iface P.ty P.ptr)) (ht : ¬ (t = 1 ∨ t = 4)) (hf : (WOp.msgB nm t n).fit) (hr : P.room s + WOp.cost (.msgB nm t n) ≤ 140737488355328) :
    Calls Tryz.prog 34 #[.pointer (some ⟨b, 0, none⟩), ctxV, strV nm, .int .i32 t, .int .i32 n] w (Did P.Is S w (P.run s (.msgB nm t n))) := by
  obtain ⟨hm1, hm2, hm3⟩ := P.m_msgB
  obtain ⟨r, hrr⟩ : ∃ r, P.run s (.msgB nm t n) = r := ⟨_, rfl⟩
  have hO := P.at_ h (.msgB nm t n) rfl hf hr
  rw [hrr] at hO ⊢
  have HO := Lib.hid (show ∀ W, Step [] [] w W → Calls Tryz.prog (P.fn "WriteMessageBegin") #[P.ptr, ctxV, strV nm, .int .i32 t, .int .i32 n] W (Did P.Is S W r) from hO)
  have h1 : (t == 1) = false := by simpa using fun e => ht (.inl e)
  have h4 : (t == 4) = false := by simpa using fun e => ht (.inr e)
  clear hO hrr h hf hr ht
  go_enter Tryz.func34, Tryz.ntmps34
  go_wp2_with (fail)
  refine (HO.out _ (Step.refl _ _)).mono ?_
  rintro e W1 ⟨ev, S1, rfl, he, hI, hs⟩
  go_wp2
  go_ret
  exact ⟨_, _, rfl, he, hI, hs⟩

set_option maxRecDepth 100000 in
set_option maxHeartbeats 2000000 in
theorem mux_call (P : PW) (b : Nat) (svc nm : List UInt8) (t n : Int) {S : List Nat} {s : P.σ} {w : World} (h : P.Is S s w) (c0 : w.cell? ⟨b, 0, none⟩ = some (.iface P.ty P.ptr)) (c1 : w.cell? ⟨b, 1, none⟩ = some (strV svc)) (hbS : b ∉ S) (ht : t = 1 ∨ t = 4) (hf : (WOp.msgB (svc ++ 58 :: nm) t n).fit) (hr : P.room s + WOp.cost (.msgB (svc ++ 58 :: nm) t n) ≤ 140737488355328) :
    Calls Tryz.prog 34 #[.pointer (some ⟨b, 0, none⟩), ctxV, strV nm, .int .i32 t, .int .i32 n] w (Did P.Is S w (P.run s (.msgB (svc ++ 58 :: nm) t n))) := by
  obtain ⟨hm1, hm2, hm3⟩ := P.m_msgB
  obtain ⟨r, hrr⟩ : ∃ r, P.run s (.msgB (svc ++ 58 :: nm) t n) = r := ⟨_, rfl⟩
  have hO := P.at_ h (.msgB (svc ++ 58 :: nm) t n) rfl hf hr
  rw [hrr] at hO ⊢
  have HO := Lib.hid (show ∀ W, Step [] [] w W → Calls Tryz.prog (P.fn "WriteMessageBegin") #[P.ptr, ctxV, strV (svc ++ 58 :: nm), .int .i32 t, .int .i32 n] W (Did P.Is S W r) from hO)
  have hlen : svc.length + nm.length + 1 ≤ 2147483647 := by have := hf.1; simp at this; omega
  have hadd1 : ∀ W, (Op.stringOp .add (⟨svc.toArray⟩ : ByteArray) (⟨#[58]⟩ : ByteArray)).run Tryz.prog W = .ok (.string ⟨(svc ++ [58]).toArray⟩) W := fun W => by
    refine (run_string_add_sum W (⟨svc.toArray⟩ : ByteArray) (⟨#[58]⟩ : ByteArray) (by show svc.toArray.size + 1 ≤ _; simp; omega)).trans ?_
    exact congrArg (fun x => Result.ok (Value.string x) W) (str_add svc [58])
  have hadd2 : ∀ W, (Op.stringOp .add (⟨(svc ++ [58]).toArray⟩ : ByteArray) (⟨nm.toArray⟩ : ByteArray)).run Tryz.prog W = .ok (.string ⟨(svc ++ 58 :: nm).toArray⟩) W := fun W => by
    refine (run_string_add_sum W (⟨(svc ++ [58]).toArray⟩ : ByteArray) (⟨nm.toArray⟩ : ByteArray) (by show (svc ++ [58]).toArray.size + nm.toArray.size ≤ _; simp; omega)).trans ?_
    have e := str_add (svc ++ [58]) nm
    rw [show svc ++ 58 :: nm = svc ++ [58] ++ nm by simp]
    exact congrArg (fun x => Result.ok (Value.string x) W) e
  have hbl := World.block_lt_of_cell? w _ c0
  clear hO hrr h hf hr
  rcases ht with rfl | rfl
  all_goals (
    go_enter Tryz.func34, Tryz.ntmps34
    go_wp2_with (fail)
    go_region_held3 (fun W' => W'.cell? ⟨b, 0, none⟩ = some (.iface P.ty P.ptr) ∧ W'.cell? ⟨b, 1, none⟩ = some (strV svc)) (first | exact ⟨c0, c1⟩ | exact ⟨d0, d1⟩ | (simp [go_sem, *]; done))
      (first
        | (refine (HO.out _ ?_).mono ?_; exact (Step.refl _ _).drew; rintro e W1 ⟨ev, S1, rfl, he, hI, hs⟩; have d0 := (hs.cell (p := ⟨b, 0, none⟩) hbl hbS).trans c0; have d1 := (hs.cell (p := ⟨b, 1, none⟩) hbl hbS).trans c1))
    all_goals go_wp2
    all_goals go_ret
    all_goals exact ⟨_, _, rfl, he, hI, ((Step.refl _ _).drew).trans hs⟩)

theorem mux_msg (P : PW) (b : Nat) (svc nm : List UInt8) (t n : Int) {S : List Nat} {s : P.σ} {w : World} (h : P.Is S s w) (c0 : w.cell? ⟨b, 0, none⟩ = some (.iface P.ty P.ptr)) (c1 : w.cell? ⟨b, 1, none⟩ = some (strV svc)) (hbS : b ∉ S) (hf : (WOp.msgB (wholeName svc nm t) t n).fit) (hr : P.room s + WOp.cost (.msgB (wholeName svc nm t) t n) ≤ 140737488355328) :
    Calls Tryz.prog 34 #[.pointer (some ⟨b, 0, none⟩), ctxV, strV nm, .int .i32 t, .int .i32 n] w (Did P.Is S w (P.run s (.msgB (wholeName svc nm t) t n))) := by
  by_cases ht : t = 1 ∨ t = 4
  · have e : wholeName svc nm t = svc ++ 58 :: nm := by unfold wholeName; rw [if_pos ht]
    rw [e] at hf hr ⊢
    exact mux_call P b svc nm t n h c0 c1 hbS ht hf hr
  · have e : wholeName svc nm t = nm := by unfold wholeName; rw [if_neg ht]
    rw [e] at hf hr ⊢
    exact mux_plain P b nm t n h c0 ht hf hr

set_option maxRecDepth 100000 in
set_option maxHeartbeats 2000000 in
theorem Name_C (proto : Int) (plain rb sb : Bool) (ms ct fr : Int) (A B : Option Addr) (ca cb : Nat) (sv nm : List Int) (t seq : Int) (w : World) (hA : (Kd.int .u8).C w A sv.length sv) (hB : (Kd.int .u8).C w B nm.length nm) (hl : sv.length + nm.length ≤ 1000000) (hs : -2147483648 ≤ seq ∧ seq < 2147483648)
    (h0 : (encC proto (cfgOf plain rb sb ms ct fr) [.msgB (wholeName (toB sv) (toB nm) (wrap32 t)) (wrap32 t) seq]).2 = 0) :
    Calls Tryz.prog 13 #[confV proto plain rb sb ms ct fr, .slice A sv.length ca, .slice B nm.length cb, .int .i64 t, .int .i32 seq] w fun e w' => ∃ v k, e = .returned (.tuple #[v, .int .i64 0]) ∧ w.heap.size ≤ k ∧ IsB (Lib.byteCells (encC proto (cfgOf plain rb sb ms ct fr) [.msgB (wholeName (toB sv) (toB nm) (wrap32 t)) (wrap32 t) seq]).1) v k w' ∧ Below w.heap.size w w' := by
  obtain ⟨wn, hwn⟩ : ∃ wn, wholeName (toB sv) (toB nm) (wrap32 t) = wn := ⟨_, rfl⟩
  have hwl : wn.length ≤ 1000001 := by
    rw [← hwn]
    unfold wholeName
    split <;> simp [toB] <;> omega
  have HBX := Lib.hid (fun W h => @Box7.of w.heap.size (w.heap.size + 1) (.int .i64 proto) (.bool plain) (.bool rb) (.bool sb) (.int .i32 ms) (.int .i32 ct) (.int .i32 fr) (w.alloc (.cells #[.int .i64 proto, .bool plain, .bool rb, .bool sb, .int .i32 ms, .int .i32 ct, .int .i32 fr] 23)) W (Box7.at_ (heap_alloc_new w _)) h (by omega))
  have HPR := Lib.hid (fun m b W => protocol_C proto plain rb sb ms ct fr m b W)
  have HMX := Lib.hid (fun (P : PW) (b : Nat) (S : List Nat) (s : P.σ) (W : World) (hI : P.Is S s W) (c0 : W.cell? ⟨b, 0, none⟩ = some (.iface P.ty P.ptr)) (c1 : W.cell? ⟨b, 1, none⟩ = some (strV (toB sv))) (hbS : b ∉ S) (hr : P.room s = 0) => show Calls Tryz.prog 34 #[.pointer (some ⟨b, 0, none⟩), ctxV, strV (toB nm), .int .i32 (IntKind.i32.wrap t), .int .i32 seq] W (Did P.Is S W (P.run s (.msgB wn (wrap32 t) seq))) from by
    have e : IntKind.i32.wrap t = wrap32 t := by rw [IntKind.wrap_i32]; unfold wrap32; omega
    rw [e, ← hwn]
    exact mux_msg P b (toB sv) (toB nm) (wrap32 t) seq hI c0 c1 hbS (by rw [hwn]; exact ⟨by omega, by unfold wrap32; omega, hs⟩) (by rw [hwn, hr]; show 0 + (wn.length + 32) ≤ _; omega))
  rw [hwn] at h0 ⊢
  have H0 := Lib.hid h0
  have hVA : ∀ W, Below w.heap.size w W → (convert 24 9 (.slice A sv.length ca)).run Tryz.prog W = .ok (strV (toB sv)) W := fun W hW => Kd.C_string Tryz.underlying24 Tryz.underlying5 Tryz.underlying9 (Kd.C_below hA hW)
  have hVB : ∀ W, Below w.heap.size w W → (convert 24 9 (.slice B nm.length cb)).run Tryz.prog W = .ok (strV (toB nm)) W := fun W hW => Kd.C_string Tryz.underlying24 Tryz.underlying5 Tryz.underlying9 (Kd.C_below hB hW)
  have HV := Lib.hid (fun W hW => And.intro (hVA W hW) (hVB W hW))
  have hc := ctx_any
  clear h0 hwn hA hB hVA hVB
  go_enter Tryz.func13, Tryz.ntmps13
  go_wp2_with (go_at_call 31; refine (newMem _).mono ?_)
  rintro e W1 ⟨m, g, rfl, hm, hg, hM, hB⟩
  have hsz : (w.alloc (.cells #[.int .i64 proto, .bool plain, .bool rb, .bool sb, .int .i32 ms, .int .i32 ct, .int .i32 fr] 23)).heap.size = w.heap.size + 1 := by simp
  rw [hsz] at hm hg hB
  have hw1 : Below w.heap.size w W1 := ((Below.refl _ w).alloc (Nat.le_refl _) _).trans (hB.mono (by omega))
  have HM := Lib.hid hM
  have HB := Lib.hid hB
  have HW1 := Lib.hid hw1
  have hbs := hB.size
  rw [hsz] at hbs
  clear hM hB hw1
  go_wp2_with (fail)
  go_region_held3 (fun W' => ((convert 24 9 (.slice A sv.length ca)).run Tryz.prog W' = .ok (strV (toB sv)) W' ∧ (convert 24 9 (.slice B nm.length cb)).run Tryz.prog W' = .ok (strV (toB nm)) W') ∧ W'.cell? ⟨w.heap.size, 0, none⟩ = some (.int .i64 proto) ∧ W'.cell? ⟨w.heap.size, 1, none⟩ = some (.bool plain) ∧ W'.cell? ⟨w.heap.size, 2, none⟩ = some (.bool rb) ∧ W'.cell? ⟨w.heap.size, 3, none⟩ = some (.bool sb) ∧ W'.cell? ⟨w.heap.size, 4, none⟩ = some (.int .i32 ms) ∧ W'.cell? ⟨w.heap.size, 5, none⟩ = some (.int .i32 ct) ∧ W'.cell? ⟨w.heap.size, 6, none⟩ = some (.int .i32 fr)) (first | exact ⟨HV.out _ HW1.out, HBX.out _ HB.out⟩ | exact ⟨HV.out _ HW1.out.drew, HBX.out _ HB.out.drew⟩ | exact ⟨HV.out _ HW2.out, HBX.out _ HB2.out⟩ | exact ⟨HV.out _ (HW2.out.alloc HW2.out.size _), HBX.out _ (HB2.out.alloc hs2s _)⟩ | exact ⟨HV.out _ HW3.out, HBX.out _ HB3.out⟩)
    (first
      | (go_at_call 35; refine (hc _).mono ?_; rintro e w' ⟨rfl, rfl⟩)
      | (go_at_call 32; go_in)
      | (go_at_call 33; refine (HPR.out m g _ (show Mem m g g 0 [] W1.drew from HM.out)).mono ?_; rintro e W2 ⟨O, S2, rfl, hE2, hI2, hS2, hB2⟩; have HB2 := Lib.hid (HB.out.drew.trans (hB2.mono (show w.heap.size + 1 ≤ W1.heap.size from hbs))); have HW2 := Lib.hid (HW1.out.drew.trans (hB2.mono (show w.heap.size ≤ W1.heap.size by omega))); have hs2s : w.heap.size + 1 ≤ W2.heap.size := (by have := HB2.out.size; simpa using this); have HI := Lib.hid hI2; have HLT := Lib.hid (fun k hk => O.P.lt hI2 k hk); have hown : ∀ k, k ∈ S2 → w.heap.size + 1 ≤ k := (fun k hk => by rcases hS2 k hk with h | h | h; omega; omega; exact Nat.le_trans hbs h); have HOWN := Lib.hid hown; have HE2 := Lib.hid hE2; clear hB2 hI2 hS2 hE2 hown)
      | (go_at_call 34; refine (HMX.out O.P W2.heap.size S2 O.s0 _ (O.P.step HI.out ((Step.refl [] W2).alloc _) (by simp)) ((cell_heap (heap_alloc_new _ _) 0).trans rfl) ((cell_heap (heap_alloc_new _ _) 1).trans rfl) (fun hm => Nat.lt_irrefl _ (HLT.out _ hm)) O.room0).mono ?_; rintro e W3 ⟨ev, S3, rfl, he, hI3, hs⟩; have HS3 := Lib.hid (((Step.refl S2 W2).alloc _).trans hs); have HB3 := Lib.hid (HB2.out.trans (HS3.out.below _ hs2s HOWN.out)); have HW3 := Lib.hid (HW2.out.trans (HS3.out.below _ HW2.out.size (fun k hk => by have := HOWN.out k hk; omega))); have HI3 := Lib.hid hI3; have HE3 := Lib.hid he; clear hs hI3 he))
  have hRun : O.enc [.msgB wn (wrap32 t) seq] = (O.bytes (O.P.run O.s0 (.msgB wn (wrap32 t) seq)).1, (O.P.run O.s0 (.msgB wn (wrap32 t) seq)).2) := by
    unfold OverMem.enc
    rw [runs_one]
  have hh := HE2.out [.msgB wn (wrap32 t) seq]
  rw [hRun] at hh
  have he := HE3.out
  rw [(congrArg Prod.snd hh).trans H0.out] at he
  obtain rfl := he.zero
  obtain ⟨b3, g3, hM3, -, -, hg3⟩ := O.mem HI3.out
  rw [show O.bytes (O.P.run O.s0 (.msgB wn (wrap32 t) seq)).1 = (encC proto (cfgOf plain rb sb ms ct fr) [.msgB wn (wrap32 t) seq]).1 from congrArg Prod.fst hh] at hM3
  have hgo : w.heap.size ≤ g3 := by
    rcases HS3.out.own g3 hg3 with hh | hh
    · have := HOWN.out g3 hh; omega
    · have := HW2.out.size; omega
  have HM3 := Lib.hid hM3
  have cm3 := hM3.cell
  clear he hM3 hg3 hh hRun
  go_wp2_with (go_at_call 36; refine (buf_bytes b3 g3 _ _ HM3.out.2.2.2).mono ?_)
  rintro e W4 ⟨v, rfl, hv, n, rfl⟩
  go_wp2_with (go_at_call 37; refine (kind_nil _).mono ?_; rintro e w' ⟨rfl, rfl⟩)
  go_ret2
  exact ⟨v, g3, rfl, hgo, hv, below_drewN HW3.out n⟩

end Go.Proofs.YtdafkilgakablaaGreatDoor
