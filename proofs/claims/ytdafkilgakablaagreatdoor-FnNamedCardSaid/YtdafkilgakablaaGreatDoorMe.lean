/- Put of single values. No condition. -/
import Derived.Test.YtdafkilgakablaaGreatDoorMc
import Derived.Test.YtdafkilgakablaaGreatDoorMd1
/-! A value of a scalar type is put by whatever protocol. Printed by a program (wip/tools/puts.py). -/
namespace Go.Proofs.YtdafkilgakablaaGreatDoor
open Go.RowKit Go.Deep Go.Proofs.YtdafkilgakablaaGreatDoorW.PrintWords
set_option linter.unusedVariables false
set_option linter.unusedSimpArgs false

theorem runs_one {σ : Type} (run : σ → WOp → σ × Nat) (o : WOp) (s : σ) : runs run [o] s = run s o := by
  simp only [runs]
  split
  · rename_i h
    exact Prod.ext rfl h.symm
  · rfl

/-- What a call of a protocol wants and leaves, at a world that is to come. -/
theorem PW.at_ (P : PW) {S : List Nat} {s : P.σ} {w : World} (h : P.Is S s w) (o : WOp) (hb : o.isBin = false) (hf : o.fit) (hr : P.room s + o.cost ≤ 140737488355328) :
    ∀ W, Step [] [] w W → Calls Tryz.prog (P.fn o.nm) (o.argv P.ptr) W (Did P.Is S W (P.run s o)) := fun W hW =>
  P.does (P.step h hW (by simp)) o hb hf hr

theorem uuid_of {A : Option Addr} (c : Nat) {xs : List Int} {W : World} (h : (Kd.int .u8).C W A xs.length xs) (h8 : ∀ x ∈ xs, 0 ≤ x ∧ x < 256) :
    Calls Tryz.prog 52 #[.slice A xs.length c] W fun e w' => e = .returned (.agg (Lib.byteCells (u16 (toB xs))).toArray) ∧ Below W.heap.size W w' := by
  by_cases h0 : xs.length = 0
  · obtain rfl : xs = [] := List.length_eq_zero_iff.1 h0
    exact uuid_none A c W
  · obtain ⟨ad, rfl, hc⟩ := h.2.2 (by omega)
    have hcell : ∀ j v, (Lib.byteCells (toB xs))[j]? = some v → W.cell? (ad.add j) = some v := fun j v hj => by
      have hj' : ∃ x, xs[j]? = some x ∧ v = .int .u8 x := by
        simp only [Lib.byteCells, toB, List.map_map, List.getElem?_map, Option.map_eq_some_iff] at hj
        obtain ⟨x, hx, rfl⟩ := hj
        refine ⟨x, hx, ?_⟩
        have := h8 x (List.mem_of_getElem? hx)
        simp only [Function.comp]
        congr 1
        show ((x.toNat % 256 : Nat) : Int) = x
        omega
      obtain ⟨x, hx, rfl⟩ := hj'
      obtain ⟨cs, hl, he, hcs⟩ := hc j x hx
      obtain rfl : cs = [.int .u8 x] := he
      have := hcs 0 _ rfl
      simpa [Kd.int, Kd.scalar] using this
    have hblk : ad.block < W.heap.size := by
      obtain ⟨x, hx⟩ : ∃ x, (Lib.byteCells (toB xs))[0]? = some x := by
        cases xs with
        | nil => simp at h0
        | cons x l => exact ⟨_, rfl⟩
      have := hcell 0 x hx
      have h3 := block_lt_of_cell this
      rwa [Lib.block_add] at h3
    exact uuid_some ad xs.length c (toB xs) W (by simp [toB]) hblk hcell

theorem PW.fresh (P : PW) {S : List Nat} {s : P.σ} {w : World} (h : P.Is S s w) : w.heap.size ∉ S := fun hm => Nat.lt_irrefl _ (P.lt h _ hm)


set_option maxRecDepth 100000 in
set_option maxHeartbeats 4000000 in
theorem put_bool (P : PW) (t n : Int) (v2 v3 v4 v5 v6 : Value) (ht : t % 256 = 2) {S : List Nat} {s : P.σ} {w : World} (h : P.Is S s w) (hr : P.room s + 32 ≤ 140737488355328) :
    Calls Tryz.prog 39 #[.iface P.ty P.ptr, .agg #[.int .i64 t, .int .i64 n, v2, v3, v4, v5, v6]] w (Did P.Is S w (P.run s (.bool (n != 0)))) := by
  have hm := P.meth (.bool (n != 0))
  have hn := P.ahead (.bool (n != 0))
  have hen := P.ent (.bool (n != 0))
  have hc := ctx_any
  obtain ⟨r, hrr⟩ : ∃ r, P.run s (.bool (n != 0)) = r := ⟨_, rfl⟩
  have hO := P.at_ h (.bool (n != 0)) rfl trivial hr
  rw [hrr] at hO ⊢
  have HO := Lib.hid hO
  have HF := Lib.hid (P.fresh h)
  clear hO hrr
  change ∀ (args : Array Value) (w : World), (callFunc (P.fn "WriteBool") args).run Tryz.prog w = .ok (.enter (P.fn "WriteBool") args) w at hen
  change ∀ (k : Nat) (w : World), (method (k + 1) P.ty P.ptr "WriteBool").run Tryz.prog w = .ok (P.fn "WriteBool", P.ptr) w at hm
  change ∀ (k : Nat) (w : World), (nilAhead (k + 1) P.ty P.ptr "WriteBool").run Tryz.prog w = .ok (some false) w at hn
  go_enter Tryz.func39, Tryz.ntmps39
  go_wp2_with (first | (go_at_call 42; go_in))
  go_region_held3 (fun W' => W'.cell? ⟨w.heap.size, 1, none⟩ = some (.int .i64 n)) (first | assumption | (simp [go_sem]))
    (first
      | (go_at_call 35; refine (hc _).mono ?_; rintro e w' ⟨rfl, rfl⟩)
      | (refine (HO.out _ ?_).mono ?_; exact ((Step.refl _ _).alloc _).drew; rintro e W1 ⟨ev, S1, rfl, he, hI, hs⟩; have hx1 := (hs.cell (p := ⟨w.heap.size, 1, none⟩) (by simp) HF.out).trans (cell_heap (heap_alloc_new _ _) 1)))
  all_goals go_wp2
  all_goals go_ret
  all_goals exact ⟨_, _, rfl, he, hI, (((Step.refl _ _).alloc _).drew).trans hs⟩

set_option maxRecDepth 100000 in
set_option maxHeartbeats 4000000 in
theorem put_byte (P : PW) (t n : Int) (v2 v3 v4 v5 v6 : Value) (ht : t % 256 = 3) {S : List Nat} {s : P.σ} {w : World} (h : P.Is S s w) (hr : P.room s + 32 ≤ 140737488355328) :
    Calls Tryz.prog 39 #[.iface P.ty P.ptr, .agg #[.int .i64 t, .int .i64 n, v2, v3, v4, v5, v6]] w (Did P.Is S w (P.run s (.byte (w8 n)))) := by
  have hm := P.meth (.byte (w8 n))
  have hn := P.ahead (.byte (w8 n))
  have hen := P.ent (.byte (w8 n))
  have hc := ctx_any
  obtain ⟨r, hrr⟩ : ∃ r, P.run s (.byte (w8 n)) = r := ⟨_, rfl⟩
  have hO := P.at_ h (.byte (w8 n)) rfl (by unfold w8; exact ⟨by omega, by omega⟩) hr
  rw [hrr] at hO ⊢
  have HO := Lib.hid hO
  have HF := Lib.hid (P.fresh h)
  clear hO hrr
  have hw : IntKind.i8.wrap n = w8 n := by rw [wrap_i8]; rfl
  change ∀ (args : Array Value) (w : World), (callFunc (P.fn "WriteByte") args).run Tryz.prog w = .ok (.enter (P.fn "WriteByte") args) w at hen
  change ∀ (k : Nat) (w : World), (method (k + 1) P.ty P.ptr "WriteByte").run Tryz.prog w = .ok (P.fn "WriteByte", P.ptr) w at hm
  change ∀ (k : Nat) (w : World), (nilAhead (k + 1) P.ty P.ptr "WriteByte").run Tryz.prog w = .ok (some false) w at hn
  go_enter Tryz.func39, Tryz.ntmps39
  go_wp2_with (first | (go_at_call 42; go_in))
  go_region_held3 (fun W' => W'.cell? ⟨w.heap.size, 1, none⟩ = some (.int .i64 n)) (first | assumption | (simp [go_sem]))
    (first
      | (go_at_call 35; refine (hc _).mono ?_; rintro e w' ⟨rfl, rfl⟩)
      | (refine (HO.out _ ?_).mono ?_; exact ((Step.refl _ _).alloc _).drew; rintro e W1 ⟨ev, S1, rfl, he, hI, hs⟩; have hx1 := (hs.cell (p := ⟨w.heap.size, 1, none⟩) (by simp) HF.out).trans (cell_heap (heap_alloc_new _ _) 1)))
  all_goals go_wp2
  all_goals go_ret
  all_goals exact ⟨_, _, rfl, he, hI, (((Step.refl _ _).alloc _).drew).trans hs⟩

set_option maxRecDepth 100000 in
set_option maxHeartbeats 4000000 in
theorem put_i16 (P : PW) (t n : Int) (v2 v3 v4 v5 v6 : Value) (ht : t % 256 = 6) {S : List Nat} {s : P.σ} {w : World} (h : P.Is S s w) (hr : P.room s + 32 ≤ 140737488355328) :
    Calls Tryz.prog 39 #[.iface P.ty P.ptr, .agg #[.int .i64 t, .int .i64 n, v2, v3, v4, v5, v6]] w (Did P.Is S w (P.run s (.i16 (w16 n)))) := by
  have hm := P.meth (.i16 (w16 n))
  have hn := P.ahead (.i16 (w16 n))
  have hen := P.ent (.i16 (w16 n))
  have hc := ctx_any
  obtain ⟨r, hrr⟩ : ∃ r, P.run s (.i16 (w16 n)) = r := ⟨_, rfl⟩
  have hO := P.at_ h (.i16 (w16 n)) rfl (by unfold w16; exact ⟨by omega, by omega⟩) hr
  rw [hrr] at hO ⊢
  have HO := Lib.hid hO
  have HF := Lib.hid (P.fresh h)
  clear hO hrr
  have hw : IntKind.i16.wrap n = w16 n := by rw [wrap_i16]; rfl
  change ∀ (args : Array Value) (w : World), (callFunc (P.fn "WriteI16") args).run Tryz.prog w = .ok (.enter (P.fn "WriteI16") args) w at hen
  change ∀ (k : Nat) (w : World), (method (k + 1) P.ty P.ptr "WriteI16").run Tryz.prog w = .ok (P.fn "WriteI16", P.ptr) w at hm
  change ∀ (k : Nat) (w : World), (nilAhead (k + 1) P.ty P.ptr "WriteI16").run Tryz.prog w = .ok (some false) w at hn
  go_enter Tryz.func39, Tryz.ntmps39
  go_wp2_with (first | (go_at_call 42; go_in))
  go_region_held3 (fun W' => W'.cell? ⟨w.heap.size, 1, none⟩ = some (.int .i64 n)) (first | assumption | (simp [go_sem]))
    (first
      | (go_at_call 35; refine (hc _).mono ?_; rintro e w' ⟨rfl, rfl⟩)
      | (refine (HO.out _ ?_).mono ?_; exact ((Step.refl _ _).alloc _).drew; rintro e W1 ⟨ev, S1, rfl, he, hI, hs⟩; have hx1 := (hs.cell (p := ⟨w.heap.size, 1, none⟩) (by simp) HF.out).trans (cell_heap (heap_alloc_new _ _) 1)))
  all_goals go_wp2
  all_goals go_ret
  all_goals exact ⟨_, _, rfl, he, hI, (((Step.refl _ _).alloc _).drew).trans hs⟩

set_option maxRecDepth 100000 in
set_option maxHeartbeats 4000000 in
theorem put_i32 (P : PW) (t n : Int) (v2 v3 v4 v5 v6 : Value) (ht : t % 256 = 8) {S : List Nat} {s : P.σ} {w : World} (h : P.Is S s w) (hr : P.room s + 32 ≤ 140737488355328) :
    Calls Tryz.prog 39 #[.iface P.ty P.ptr, .agg #[.int .i64 t, .int .i64 n, v2, v3, v4, v5, v6]] w (Did P.Is S w (P.run s (.i32 (wrap32 n)))) := by
  have hm := P.meth (.i32 (wrap32 n))
  have hn := P.ahead (.i32 (wrap32 n))
  have hen := P.ent (.i32 (wrap32 n))
  have hc := ctx_any
  obtain ⟨r, hrr⟩ : ∃ r, P.run s (.i32 (wrap32 n)) = r := ⟨_, rfl⟩
  have hO := P.at_ h (.i32 (wrap32 n)) rfl (by unfold wrap32; exact ⟨by omega, by omega⟩) hr
  rw [hrr] at hO ⊢
  have HO := Lib.hid hO
  have HF := Lib.hid (P.fresh h)
  clear hO hrr
  have hw : IntKind.i32.wrap n = wrap32 n := by rw [IntKind.wrap_i32]; unfold wrap32; omega
  change ∀ (args : Array Value) (w : World), (callFunc (P.fn "WriteI32") args).run Tryz.prog w = .ok (.enter (P.fn "WriteI32") args) w at hen
  change ∀ (k : Nat) (w : World), (method (k + 1) P.ty P.ptr "WriteI32").run Tryz.prog w = .ok (P.fn "WriteI32", P.ptr) w at hm
  change ∀ (k : Nat) (w : World), (nilAhead (k + 1) P.ty P.ptr "WriteI32").run Tryz.prog w = .ok (some false) w at hn
  go_enter Tryz.func39, Tryz.ntmps39
  go_wp2_with (first | (go_at_call 42; go_in))
  go_region_held3 (fun W' => W'.cell? ⟨w.heap.size, 1, none⟩ = some (.int .i64 n)) (first | assumption | (simp [go_sem]))
    (first
      | (go_at_call 35; refine (hc _).mono ?_; rintro e w' ⟨rfl, rfl⟩)
      | (refine (HO.out _ ?_).mono ?_; exact ((Step.refl _ _).alloc _).drew; rintro e W1 ⟨ev, S1, rfl, he, hI, hs⟩; have hx1 := (hs.cell (p := ⟨w.heap.size, 1, none⟩) (by simp) HF.out).trans (cell_heap (heap_alloc_new _ _) 1)))
  all_goals go_wp2
  all_goals go_ret
  all_goals exact ⟨_, _, rfl, he, hI, (((Step.refl _ _).alloc _).drew).trans hs⟩

set_option maxRecDepth 100000 in
set_option maxHeartbeats 4000000 in
theorem put_i64 (P : PW) (t n : Int) (v2 v3 v4 v5 v6 : Value) (ht : t % 256 = 10) (h0 : -9223372036854775808 ≤ n) (h1 : n < 9223372036854775808) {S : List Nat} {s : P.σ} {w : World} (h : P.Is S s w) (hr : P.room s + 32 ≤ 140737488355328) :
    Calls Tryz.prog 39 #[.iface P.ty P.ptr, .agg #[.int .i64 t, .int .i64 n, v2, v3, v4, v5, v6]] w (Did P.Is S w (P.run s (.i64 n))) := by
  have hm := P.meth (.i64 n)
  have hn := P.ahead (.i64 n)
  have hen := P.ent (.i64 n)
  have hc := ctx_any
  obtain ⟨r, hrr⟩ : ∃ r, P.run s (.i64 n) = r := ⟨_, rfl⟩
  have hO := P.at_ h (.i64 n) rfl ⟨by omega, by omega⟩ hr
  rw [hrr] at hO ⊢
  have HO := Lib.hid hO
  have HF := Lib.hid (P.fresh h)
  clear hO hrr
  clear h0 h1
  change ∀ (args : Array Value) (w : World), (callFunc (P.fn "WriteI64") args).run Tryz.prog w = .ok (.enter (P.fn "WriteI64") args) w at hen
  change ∀ (k : Nat) (w : World), (method (k + 1) P.ty P.ptr "WriteI64").run Tryz.prog w = .ok (P.fn "WriteI64", P.ptr) w at hm
  change ∀ (k : Nat) (w : World), (nilAhead (k + 1) P.ty P.ptr "WriteI64").run Tryz.prog w = .ok (some false) w at hn
  go_enter Tryz.func39, Tryz.ntmps39
  go_wp2_with (first | (go_at_call 42; go_in))
  go_region_held3 (fun W' => W'.cell? ⟨w.heap.size, 1, none⟩ = some (.int .i64 n)) (first | assumption | (simp [go_sem]))
    (first
      | (go_at_call 35; refine (hc _).mono ?_; rintro e w' ⟨rfl, rfl⟩)
      | (refine (HO.out _ ?_).mono ?_; exact ((Step.refl _ _).alloc _).drew; rintro e W1 ⟨ev, S1, rfl, he, hI, hs⟩; have hx1 := (hs.cell (p := ⟨w.heap.size, 1, none⟩) (by simp) HF.out).trans (cell_heap (heap_alloc_new _ _) 1)))
  all_goals go_wp2
  all_goals go_ret
  all_goals exact ⟨_, _, rfl, he, hI, (((Step.refl _ _).alloc _).drew).trans hs⟩

set_option maxRecDepth 100000 in
set_option maxHeartbeats 4000000 in
theorem put_dbl (P : PW) (t n : Int) (v2 v3 v4 v5 v6 : Value) (ht : t % 256 = 4) {S : List Nat} {s : P.σ} {w : World} (h : P.Is S s w) (hr : P.room s + 32 ≤ 140737488355328) :
    Calls Tryz.prog 39 #[.iface P.ty P.ptr, .agg #[.int .i64 t, .int .i64 n, v2, v3, v4, v5, v6]] w (Did P.Is S w (P.run s (.dbl (IntKind.u64.wrap n).toNat))) := by
  have hm := P.meth (.dbl (IntKind.u64.wrap n).toNat)
  have hn := P.ahead (.dbl (IntKind.u64.wrap n).toNat)
  have hen := P.ent (.dbl (IntKind.u64.wrap n).toNat)
  have hc := ctx_any
  obtain ⟨r, hrr⟩ : ∃ r, P.run s (.dbl (IntKind.u64.wrap n).toNat) = r := ⟨_, rfl⟩
  have hO := P.at_ h (.dbl (IntKind.u64.wrap n).toNat) rfl (by show (IntKind.u64.wrap n).toNat < _; rw [IntKind.wrap_u64]; omega) hr
  rw [hrr] at hO ⊢
  have HO := Lib.hid hO
  have HF := Lib.hid (P.fresh h)
  clear hO hrr
  have hfo := f64of
  change ∀ (args : Array Value) (w : World), (callFunc (P.fn "WriteDouble") args).run Tryz.prog w = .ok (.enter (P.fn "WriteDouble") args) w at hen
  change ∀ (k : Nat) (w : World), (method (k + 1) P.ty P.ptr "WriteDouble").run Tryz.prog w = .ok (P.fn "WriteDouble", P.ptr) w at hm
  change ∀ (k : Nat) (w : World), (nilAhead (k + 1) P.ty P.ptr "WriteDouble").run Tryz.prog w = .ok (some false) w at hn
  go_enter Tryz.func39, Tryz.ntmps39
  go_wp2_with (first | (go_at_call 42; go_in))
  go_region_held3 (fun W' => W'.cell? ⟨w.heap.size, 1, none⟩ = some (.int .i64 n)) (first | assumption | (simp [go_sem]))
    (first
      | (go_at_call 35; refine (hc _).mono ?_; rintro e w' ⟨rfl, rfl⟩)
      | (refine (HO.out _ ?_).mono ?_; exact ((Step.refl _ _).alloc _).drew; rintro e W1 ⟨ev, S1, rfl, he, hI, hs⟩; have hx1 := (hs.cell (p := ⟨w.heap.size, 1, none⟩) (by simp) HF.out).trans (cell_heap (heap_alloc_new _ _) 1)))
  all_goals go_wp2
  all_goals go_ret
  all_goals exact ⟨_, _, rfl, he, hI, (((Step.refl _ _).alloc _).drew).trans hs⟩

end Go.Proofs.YtdafkilgakablaaGreatDoor

/-! A value of a scalar type is put by whatever protocol. Printed by a program (wip/tools/puts.py). -/
namespace Go.Proofs.YtdafkilgakablaaGreatDoor
open Go.RowKit Go.Deep Go.Proofs.YtdafkilgakablaaGreatDoorW.PrintWords
set_option linter.unusedVariables false
set_option linter.unusedSimpArgs false

set_option maxRecDepth 100000 in
set_option maxHeartbeats 4000000 in
theorem put_str (P : PW) (t : Int) (v1 v3 v4 v5 v6 : Value) (A : Option Addr) (c : Nat) (xs : List Int) (ht : t % 256 = 11) {S : List Nat} {s : P.σ} {w w0 : World} (h : P.Is S s w) (hx : (Kd.int .u8).C w0 A xs.length xs) (hB : Below w0.heap.size w0 w) (hS : ∀ k, k ∈ S → w0.heap.size ≤ k) (hl : xs.length ≤ 2147483647) (hr : P.room s + WOp.cost (.str (toB xs)) ≤ 140737488355328) :
    Calls Tryz.prog 39 #[.iface P.ty P.ptr, .agg #[.int .i64 t, v1, .slice A xs.length c, v3, v4, v5, v6]] w (Did P.Is S w (P.run s (.str (toB xs)))) := by
  have hm := P.meth (.str (toB xs))
  have hn := P.ahead (.str (toB xs))
  have hen := P.ent (.str (toB xs))
  have hc := ctx_any
  obtain ⟨r, hrr⟩ : ∃ r, P.run s (.str (toB xs)) = r := ⟨_, rfl⟩
  have hO := P.at_ h (.str (toB xs)) rfl (by show (toB xs).length ≤ _; unfold toB; simpa using hl) hr
  rw [hrr] at hO ⊢
  have HO := Lib.hid hO
  have HF := Lib.hid (P.fresh h)
  have hC : ∀ o, (Kd.int .u8).C (w.alloc o).drew A xs.length xs := fun o => Kd.C_below hx ((hB.alloc hB.size o).drew)
  have hV : ∀ W, Below w0.heap.size w0 W → (convert 24 9 (.slice A xs.length c)).run Tryz.prog W = .ok (strV (toB xs)) W := fun W hW => Kd.C_string Tryz.underlying24 Tryz.underlying5 Tryz.underlying9 (Kd.C_below hx hW)
  have HV := Lib.hid hV
  have HB := Lib.hid (show ∀ o, Below w0.heap.size w0 (w.alloc o).drew from fun o => (hB.alloc hB.size o).drew)
  have hI2 : ∀ {o S1 W1}, Step S S1 (w.alloc o).drew W1 → Below w0.heap.size w0 W1 := fun {o S1 W1} hs => ((hB.alloc hB.size o).drew).trans (hs.below _ (by have := hB.size; simp; omega) hS)
  clear hC hl hV
  clear hO hrr
  change ∀ (args : Array Value) (w : World), (callFunc (P.fn "WriteString") args).run Tryz.prog w = .ok (.enter (P.fn "WriteString") args) w at hen
  change ∀ (k : Nat) (w : World), (method (k + 1) P.ty P.ptr "WriteString").run Tryz.prog w = .ok (P.fn "WriteString", P.ptr) w at hm
  change ∀ (k : Nat) (w : World), (nilAhead (k + 1) P.ty P.ptr "WriteString").run Tryz.prog w = .ok (some false) w at hn
  go_enter Tryz.func39, Tryz.ntmps39
  go_wp2_with (first | (go_at_call 42; go_in))
  go_region_held3 (fun W' => W'.cell? ⟨w.heap.size, 2, none⟩ = some (.slice A xs.length c) ∧ (convert 24 9 (.slice A xs.length c)).run Tryz.prog W' = .ok (strV (toB xs)) W') (first | exact ⟨hx1, HV.out _ (hI2 hs)⟩ | exact ⟨by simp [go_sem], HV.out _ (HB.out _)⟩)
    (first
      | (go_at_call 35; refine (hc _).mono ?_; rintro e w' ⟨rfl, rfl⟩)
      | (refine (HO.out _ ?_).mono ?_; exact ((Step.refl _ _).alloc _).drew; rintro e W1 ⟨ev, S1, rfl, he, hI, hs⟩; have hx1 := (hs.cell (p := ⟨w.heap.size, 2, none⟩) (by simp) HF.out).trans (cell_heap (heap_alloc_new _ _) 2)))
  all_goals go_wp2
  all_goals go_ret
  all_goals exact ⟨_, _, rfl, he, hI, (((Step.refl _ _).alloc _).drew).trans hs⟩

set_option maxRecDepth 100000 in
set_option maxHeartbeats 4000000 in
theorem put_uuid (P : PW) (t : Int) (v1 v3 v4 v5 v6 : Value) (A : Option Addr) (c : Nat) (xs : List Int) (ht : t % 256 = 16) {S : List Nat} {s : P.σ} {w w0 : World} (h : P.Is S s w) (hx : (Kd.int .u8).C w0 A xs.length xs) (hB : Below w0.heap.size w0 w) (hS : ∀ k, k ∈ S → w0.heap.size ≤ k) (h8 : ∀ x ∈ xs, 0 ≤ x ∧ x < 256) (hr : P.room s + WOp.cost (.uuid (u16 (toB xs))) ≤ 140737488355328) :
    Calls Tryz.prog 39 #[.iface P.ty P.ptr, .agg #[.int .i64 t, v1, .slice A xs.length c, v3, v4, v5, v6]] w (Did P.Is S w (P.run s (.uuid (u16 (toB xs))))) := by
  have hm := P.meth (.uuid (u16 (toB xs)))
  have hn := P.ahead (.uuid (u16 (toB xs)))
  have hen := P.ent (.uuid (u16 (toB xs)))
  have hc := ctx_any
  obtain ⟨r, hrr⟩ : ∃ r, P.run s (.uuid (u16 (toB xs))) = r := ⟨_, rfl⟩
  have hO := P.at_ h (.uuid (u16 (toB xs))) rfl (u16_length _) hr
  rw [hrr] at hO ⊢
  have HO := Lib.hid hO
  have HF := Lib.hid (P.fresh h)
  have hC : ∀ o, (Kd.int .u8).C (w.alloc o).drew A xs.length xs := fun o => Kd.C_below hx ((hB.alloc hB.size o).drew)
  have hU : ∀ o, Calls Tryz.prog 52 #[.slice A xs.length c] (w.alloc o).drew fun e w' => e = .returned (.agg (Lib.byteCells (u16 (toB xs))).toArray) ∧ Below (w.alloc o).drew.heap.size (w.alloc o).drew w' := fun o => uuid_of c (hC o) h8
  have HU := Lib.hid hU
  clear hU hC h8
  clear hO hrr
  change ∀ (args : Array Value) (w : World), (callFunc (P.fn "WriteUUID") args).run Tryz.prog w = .ok (.enter (P.fn "WriteUUID") args) w at hen
  change ∀ (k : Nat) (w : World), (method (k + 1) P.ty P.ptr "WriteUUID").run Tryz.prog w = .ok (P.fn "WriteUUID", P.ptr) w at hm
  change ∀ (k : Nat) (w : World), (nilAhead (k + 1) P.ty P.ptr "WriteUUID").run Tryz.prog w = .ok (some false) w at hn
  go_enter Tryz.func39, Tryz.ntmps39
  go_wp2_with (first | (go_at_call 42; go_in))
  go_region_held3 (fun W' => W'.cell? ⟨w.heap.size, 2, none⟩ = some (.slice A xs.length c)) (first | assumption | (simp [go_sem]) | exact hx2)
    (first
      | (go_at_call 35; refine (hc _).mono ?_; rintro e w' ⟨rfl, rfl⟩)
      | (go_at_call 52; refine (HU.out _).mono ?_; rintro e W0 ⟨rfl, hb⟩; have hx2 : W0.cell? ⟨w.heap.size, 2, none⟩ = some (.slice A xs.length c) := (hb.cell (p := ⟨w.heap.size, 2, none⟩) (by show w.heap.size < _; simp)).trans (cell_heap (heap_alloc_new _ _) 2))
      | (refine (HO.out _ ?_).mono ?_; exact (((Step.refl _ _).alloc _).drew).trans (Step.ofBelow hb); rintro e W1 ⟨ev, S1, rfl, he, hI, hs⟩; have hx1 := (hs.cell (p := ⟨w.heap.size, 2, none⟩) (by show w.heap.size < W0.heap.size; have := hb.size; simp at this; omega) HF.out).trans (hx2)))
  all_goals go_wp2
  all_goals go_ret
  all_goals exact ⟨_, _, rfl, he, hI, ((((Step.refl _ _).alloc _).drew).trans (Step.ofBelow hb)).trans hs⟩
end Go.Proofs.YtdafkilgakablaaGreatDoor

/-! Values are put, one behind the other. -/
namespace Go.Proofs.YtdafkilgakablaaGreatDoor
open Go.RowKit Go.Deep Go.Proofs.YtdafkilgakablaaGreatDoorW.PrintWords
set_option linter.unusedVariables false
set_option linter.unusedSimpArgs false

/-- What putting a value comes to. -/
def Puts (P : PW) (w0 : World) (V : Val) : Prop :=
  ∀ (S : List Nat) (s : P.σ) (w : World) (cs : List Value), P.Is S s w → (∀ k, k ∈ S → w0.heap.size ≤ k) → Below w0.heap.size w0 w → kVal.K w0 V cs → P.room s + costs (ops V) ≤ 140737488355328 →
    Calls Tryz.prog 39 #[.iface P.ty P.ptr, .agg cs.toArray] w (Did P.Is S w (runs P.run (ops V) s))

set_option maxRecDepth 100000 in
set_option maxHeartbeats 4000000 in
theorem putAll_any (P : PW) (w0 : World) (l : List Val) (hl : ∀ v, v ∈ l → Puts P w0 v) (A : Option Addr) (c : Nat) {S : List Nat} {s : P.σ} {w : World} (h : P.Is S s w) (hS : ∀ k, k ∈ S → w0.heap.size ≤ k) (hB : Below w0.heap.size w0 w)
    (hC : kVal.C w0 A l.length l) (hr : P.room s + costs (opsL l l.length) ≤ 140737488355328) :
    Calls Tryz.prog 54 #[.iface P.ty P.ptr, .slice A l.length c] w (Did P.Is S w (runs P.run (opsL l l.length) s)) := by
  have hmx := hC.2.1
  have HC := Lib.hid hC
  have HL := Lib.hid hl
  have HR := Lib.hid hr
  have H0 := Lib.hid (show runs P.run (opsL l 0) s = (s, 0) by cases l <;> simp [opsL, runs])
  have HI0 := Lib.hid h
  clear hC hl hr
  obtain ⟨r, hrr⟩ : ∃ r, runs P.run (opsL l l.length) s = r := ⟨_, rfl⟩
  rw [hrr]
  have HRR := Lib.hid hrr
  clear hrr
  go_enter Tryz.func54, Tryz.ntmps54
  go_wp2_with (fail)
  go_loopw [10] (fun i wr => ∃ k S1 s1, k ≤ l.length ∧ i = .int .i64 (k : Nat) ∧ Hid (runs P.run (opsL l k) s = (s1, 0)) ∧ P.Is S1 s1 wr ∧ Step S S1 w wr) (fun i _ => l.length - (intOf i).toNat)
  case atStart => exact ⟨0, S, s, by omega, rfl, H0, HI0.out, Step.refl _ _⟩
  case round =>
    obtain ⟨k, S1, s1, hk, rfl, hrun, hI, hs⟩ := hrel
    have hBr : Below w0.heap.size w0 wr := hB.trans (hs.below _ hB.size hS)
    by_cases hlt : k < l.length
    · obtain ⟨ad, cc, rfl, hcl, hK, hc0⟩ := Kd.C_get HC.out zVal (k : Int) (by omega) (by omega)
      have hK2 := hK
      obtain ⟨A2, c2, A5, c5, A6, c6, rfl, -⟩ := kVal_open hK2
      have hc : ∀ j u, _ → wr.cell? (ad.add (k * 7 + j)) = some u := fun j u hj => pw_cell_below (hBr) (hc0 j u hj)
      have g0 := hc 0 _ rfl
      have g1 := hc 1 _ rfl
      have g2 := hc 2 _ rfl
      have g3 := hc 3 _ rfl
      have g4 := hc 4 _ rfl
      have g5 := hc 5 _ rfl
      have g6 := hc 6 _ rfl
      rw [add_field _ _ _ (by omega)] at g1 g2 g3 g4 g5 g6
      rw [Nat.add_zero] at g0
      clear hc hc0 hK2
      have hv : l.getD ((k : Int)).toNat zVal = l[k] := by simp [hlt]
      have hP := fun o => HL.out l[k] (List.getElem_mem hlt) S1 s1 (wr.alloc o) _ (P.step hI ((Step.refl [] wr).alloc o) (by simp)) (fun j hj => by rcases hs.own j hj with hh | hh; exact hS j hh; have := hB.size; omega) (hBr.alloc hBr.size o) (hv ▸ hK) (room_at P l k hlt s s1 hrun.out _ HR.out)
      rw [hv] at g0 g1 g2 g3 g4 g5 g6
      have HP := Lib.hid hP
      clear hP hv hK hcl
      go_wp2_with (fail)
      refine (HP.out _).mono ?_
      rintro e W1 ⟨ev, S2, rfl, he, hI2, hs2⟩
      by_cases hz : (runs P.run (ops l[k]) s1).2 = 0
      · have hnx := runs_next P.run l k hlt s s1 hrun.out
        have hne : runs P.run (opsL l (k + 1)) s = ((runs P.run (ops l[k]) s1).1, 0) := by rw [hnx]; exact Prod.ext rfl hz
        rw [hz] at he
        obtain rfl := he.zero
        have HN := Lib.hid hne
        clear hz hnx hne he g0 g1 g2 g3 g4 g5 g6
        go_wp2
        go_roundw
        case rel => exact ⟨k + 1, S2, _, by omega, by go_num, HN, hI2, hs.trans (((Step.refl _ _).alloc _).trans hs2)⟩
        case measure => simp [intOf]; omega
      · have hha := runs_halt P.run l k hlt s s1 hrun.out hz
        rw [HRR.out] at hha
        rcases he with ⟨h0, _⟩ | he
        · exact absurd h0 hz
        have HE := Lib.hid he
        obtain ⟨b, t, er, ms, hk1, hk2, rfl, hb⟩ := he
        have HH := Lib.hid hha
        clear hk1 hk2 hb hha hz g0 g1 g2 g3 g4 g5 g6
        go_wp2
        go_ret
        rw [HH.out]
        exact ⟨_, _, rfl, .inr HE.out, hI2, hs.trans (((Step.refl _ _).alloc _).trans hs2)⟩
    · obtain rfl : k = l.length := by omega
      go_wp2
      go_ret
      rw [hrun.out] at HRR
      rw [← HRR.out]
      exact ⟨_, _, rfl, IsErr.nil _, hI, hs⟩

end Go.Proofs.YtdafkilgakablaaGreatDoor
