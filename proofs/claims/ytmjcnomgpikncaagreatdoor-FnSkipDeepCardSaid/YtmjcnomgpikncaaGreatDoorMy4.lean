/- A protocol's own skipping, as one step. No condition. -/
import Derived.Test.YtmjcnomgpikncaaGreatDoorMy
import Derived.Test.YtmjcnomgpikncaaGreatDoorMv3
import Derived.Test.YtmjcnomgpikncaaGreatDoorMv1
import Derived.Test.YtmjcnomgpikncaaGreatDoorMe
import Derived.Test.YtmjcnomgpikncaaGreatDoorMy3
/-! A value is skipped by a protocol itself, as one step, by whatever protocol. -/
namespace Go.Proofs.YtmjcnomgpikncaaGreatDoor

open Go.RowKit Go.Deep

set_option linter.unusedVariables false

set_option linter.unusedSimpArgs false

set_option maxRecDepth 100000 in
set_option maxHeartbeats 2000000 in
theorem begun_skip (P : PR) (K : SkP P) (t : Int) (ht : 0 ≤ t ∧ t < 256) (y2 y3 y4 y5 y6 : Value) {S : List Nat} {s : P.σ} {w : World} (h : P.Is S s w) {k : Nat} {s1 : P.σ} (hr : ∀ W, Step [] [] w W → Calls Tryz.prog K.fn #[P.ptr, ctxV, .int .u8 t] W (TellsV P.Is (fun ev => ev) k s1 S W)) :
    Calls Tryz.prog 88 #[.iface P.ty P.ptr, .agg #[.int .i64 22, .int .i64 t, y2, y3, y4, y5, y6]] w (TellsG P {} k s1 S w) := by
  have hm := K.meth
  have hn := K.ahead
  have hen := K.ent
  have hc := ctx_any
  have ht' : t % 256 = t := by omega
  have htw : IntKind.u8.wrap t = t := by rw [IntKind.wrap_u8]; omega
  have HO := Lib.hid hr
  have HF := Lib.hid (P.lt h)


  clear hr h
  go_enter Tryz.func88, Tryz.ntmps88
  go_wp2_with (fail)
  go_region_held3 (fun W' => W'.cell? ⟨w.heap.size, 1, none⟩ = some (.int .i64 t)) (first | exact hsT | (simp [go_sem, *]; done) | fail)
    (first
      | (go_at_call 53; refine (hc _).mono ?_; rintro e w' ⟨rfl, rfl⟩)
      | (go_at_call 50; refine (typ_of _ _).mono ?_; rintro e w' ⟨rfl, rfl⟩; rw [ht'])
      | (refine (HO.out _ ?_).mono ?_; exact ((((Step.refl _ _).alloc _).alloc _).alloc _).drew; rintro e W1 ⟨ev, S1, rfl, he, hI, hs⟩; have hsT : W1.cell? ⟨w.heap.size, 1, none⟩ = some (.int .i64 t) := (cell_heap ((hs.block w.heap.size (by simp <;> omega) (fun hm => by have := HF.out _ hm; omega)).trans (heap_alloc_old (heap_alloc_old (heap_alloc_new w _) _) _)) _).trans rfl; have hbx := (hs.block (w.heap.size + 1) (by simp) (fun hm => by have := HF.out _ hm; omega)).trans (heap_alloc_old (heap_alloc_at (by simp) _) _); have hbg := (hs.block (w.heap.size + 1 + 1) (by simp) (fun hm => by have := HF.out _ hm; omega)).trans (heap_alloc_at (by simp) _); obtain ⟨c0, c1, c2, c3, c4, c5, c6⟩ := cells7 hbx; obtain ⟨d0, d1, d2, d3, d4, d5, d6⟩ := cells7 hbg; have hfz := frozen_heap hbx; have hfg := frozen_heap hbg; have hbl := lt_heap hbx; have HX := Lib.hid hbx; have HG := Lib.hid hbg; have HE := Lib.hid he; have HI := Lib.hid hI; have HS := Lib.hid hs; clear he hI hs hbx hbg))
  all_goals go_wp2
  all_goals (
    have hx' : ((W1.setCell ⟨w.heap.size + 1 + 1, 1, none⟩ (.int .i64 0)).setCell ⟨w.heap.size + 1 + 1, 2, none⟩ (.int .i64 0)).heap[w.heap.size + 1]? = some (.cells #[.int .i64 0, .int .i64 0, .int .i64 0, .int .i64 0, .int .i64 0, .int .i64 0, .slice none 0 0] 49 (0, 0)) :=
      heap_set_other (heap_set_other HX.out (by show w.heap.size + 1 ≠ w.heap.size + 1 + 1; omega) _) (by show w.heap.size + 1 ≠ w.heap.size + 1 + 1; omega) _
    have hs1 : Step [w.heap.size + 1, w.heap.size + 1 + 1] [w.heap.size + 1, w.heap.size + 1 + 1] W1 ((W1.setCell ⟨w.heap.size + 1 + 1, 1, none⟩ (.int .i64 0)).setCell ⟨w.heap.size + 1 + 1, 2, none⟩ (.int .i64 0)) :=
      ((Step.refl _ W1).setCell (p := ⟨w.heap.size + 1 + 1, 1, none⟩) (.inl (by simp)) _).setCell (p := ⟨w.heap.size + 1 + 1, 2, none⟩) (.inl (by simp)) _
    obtain ⟨W3, e2, h3, hs2⟩ := set7 hx' (.int .i64 0) (.int .i64 0) (.int .i64 0) (.int .i64 0) (.int .i64 0) (.int .i64 0) (.slice none 0 0)
    rw [e2]
    have hs3 := hs1.trans (hs2.more (S1 := [w.heap.size + 1, w.heap.size + 1 + 1]) (T1 := [w.heap.size + 1, w.heap.size + 1 + 1]) (by simp) (fun k hk => .inr (.inl hk)))
    clear e2 hs1 hs2 hx'
    obtain ⟨r0, r1, r2, r3, r4, r5, r6⟩ := cells7 h3
    refine bodyPost_ret (v := .tuple #[gotV {} (.slice none 0 0), ev]) (by simp [results, Tryz.results88, go_sem, *]) rfl ?_
    have hsz : ∀ j, j ∈ S1 → j ∉ [w.heap.size + 1, w.heap.size + 1 + 1] := fun j hj hm => by
      simp only [List.mem_cons, List.not_mem_nil, or_false] at hm
      rcases HS.out.own j hj with h' | h'
      · have := HF.out _ h'; omega
      · simp at h'; omega
    have hI3 := P.step HI.out hs3 hsz
    have hwl := HS.out.size
    simp at hwl
    exact ⟨ev, .slice none 0 0, W3.heap.size, S1, rfl, ⟨0, .inl ⟨rfl, rfl⟩⟩, by have := hs3.size; omega, fun hm => Nat.lt_irrefl _ (P.lt hI3 _ hm), HE.out.step_at hs3 (fun b hb => by
      simp only [List.mem_cons, List.not_mem_nil, or_false] at hb
      rcases hb with rfl | rfl
      · exact ⟨_, _, _, HX.out, by decide⟩
      · exact ⟨_, _, _, HG.out, by decide⟩), hI3, ((((((Step.refl _ _).alloc _).alloc _).alloc _).drew).trans HS.out).fresh hs3 (fun k hk => by simp only [List.mem_cons, List.not_mem_nil, or_false] at hk; omega)⟩)

set_option maxRecDepth 100000 in
set_option maxHeartbeats 2000000 in
theorem read_skip (P : PR) (K : SkP P) (t : Int) (ht : 0 ≤ t ∧ t < 256) (y2 y3 y4 y5 y6 : Value) {S : List Nat} {s : P.σ} {w : World} (h : P.Is S s w) {k : Nat} {s1 : P.σ} (hr : ∀ W, Step [] [] w W → Calls Tryz.prog K.fn #[P.ptr, ctxV, .int .u8 t] W (TellsV P.Is (fun ev => ev) k s1 S W)) :
    Calls Tryz.prog 73 #[.iface P.ty P.ptr, .agg #[.int .i64 22, .int .i64 t, y2, y3, y4, y5, y6]] w (TellsG P {} k s1 S w) := by
  have HO := Lib.hid (fun a b => begun_skip P K t ht y2 y3 y4 y5 y6 (P.step h (((Step.refl [] w).alloc a).alloc b) (by simp)) (fun W hW => (hr W ((((Step.refl [] w).alloc a).alloc b).trans hW))))
  have HF := Lib.hid (P.lt h)
  obtain ⟨G, hG⟩ : ∃ G : RGot, {} = G := ⟨_, rfl⟩
  rw [hG] at HO ⊢
  clear hG h hr
  go_enter Tryz.func73, Tryz.ntmps73
  go_wp2_with (fail)
  refine (HO.out _ _).mono ?_
  rintro e W1 ⟨ev, v, kb, S1, rfl, hB, hkb, hkS, he, hI, hs⟩
  obtain ⟨ao, c, rfl, hc, hC⟩ := hB.ints
  replace hkb : w.heap.size + 1 + 1 ≤ kb := by simpa using hkb
  have hbx := (hs.block (w.heap.size + 1) (by simp) (fun hm => by have := HF.out _ hm; omega)).trans (heap_alloc_at (by simp) _)
  obtain ⟨c0, c1, c2, c3, c4, c5, c6⟩ := cells7 hbx
  have hfz := frozen_heap hbx
  have hbl := lt_heap hbx
  have HX := Lib.hid hbx
  have HE := Lib.hid he
  have HI := Lib.hid hI
  have HS := Lib.hid hs
  have HB := Lib.hid hB
  have HK := Lib.hid hkS
  clear he hI hs hbx hB hkS hC hc
  go_wp2
  all_goals (
    obtain ⟨W3, e2, h3, hs3⟩ := set7 HX.out (.int .i64 0) (.int .i64 G.t) (.int .i64 G.k) (.int .i64 G.size) (.int .i64 G.id) (.int .i64 G.n) (.slice ao (ints G.s).length c)
    rw [e2]
    clear e2
    obtain ⟨r0, r1, r2, r3, r4, r5, r6⟩ := cells7 h3
    refine bodyPost_ret (v := .tuple #[gotV G (.slice ao (ints G.s).length c), ev]) (by simp [results, Tryz.results73, go_sem, *]) rfl ?_
    have hsz : ∀ j, j ∈ S1 → j ∉ [w.heap.size + 1] := fun j hj hm => by
      simp only [List.mem_cons, List.not_mem_nil, or_false] at hm
      rcases HS.out.own j hj with h' | h'
      · have := HF.out _ h'; omega
      · simp at h'; omega
    exact ⟨ev, _, kb, S1, rfl, HB.out.step hs3 (by simp only [List.mem_cons, List.not_mem_nil, or_false]; omega), by omega, HK.out, HE.out.step_at hs3 (fun b hb => by simp only [List.mem_cons, List.not_mem_nil, or_false] at hb; subst hb; exact ⟨_, _, _, HX.out, by decide⟩), P.step HI.out hs3 hsz, ((((Step.refl _ _).alloc _).alloc _).trans HS.out).fresh hs3 (by simp)⟩)

end Go.Proofs.YtmjcnomgpikncaaGreatDoor

/-! A right value is skipped by a protocol itself, as one step, whatever the configuration. -/
namespace Go.Proofs.YtmjcnomgpikncaaGreatDoor

open Go.RowKit Go.Deep

set_option linter.unusedVariables false

set_option linter.unusedSimpArgs false

open Go.Proofs.YtmjcnomgpikncaaGreatDoorW.PrintWords

/-- What skipping of 64 at most comes to. -/
theorem skip64 (proto : Int) (hp : proto = 0 ∨ proto = 1) (plain rb sb : Bool) (ms ct fr : Int) (hc : 65536 ≤ (cfgOf plain rb sb ms ct fr).container) (hm : 1048576 ≤ (cfgOf plain rb sb ms ct fr).message)
    (V : Val) (hV : rightV V = true) (hw : wfV V) (ht : tot V ≤ 65536) (ys : List Int) (r : List UInt8) (hx : toB ys = gen (codec proto) V ++ r) :
    ∃ (k : Nat) (st' : CSt) (rest : List UInt8), skipV (rdC proto (cfgOf plain rb sb ms ct fr)) (tot V + 1) 64 V.f0 (CR0, toB ys) = some (k, (st', rest)) ∧ (deepV V ≤ 64 → k = 0 ∧ rest = r) ∧ (64 < deepV V → k = 16) := by
  obtain ⟨h1, h2⟩ := skip_rd proto hp (cfgOf plain rb sb ms ct fr) hc hm V hV hw ht (tot V + 1) 64 (by omega) r
  rw [← hx] at h1 h2
  by_cases hd : deepV V ≤ 64
  · obtain ⟨st', h3⟩ := h1 (by omega)
    exact ⟨0, st', r, h3, fun _ => ⟨rfl, rfl⟩, fun h => by omega⟩
  · obtain ⟨⟨st', rest⟩, h3⟩ := h2 (by omega)
    exact ⟨16, st', rest, h3, fun h => by omega, fun _ => rfl⟩

theorem skip_step (proto : Int) (plain rb sb : Bool) (ms ct fr : Int) (V : Val) (hV : rightV V = true) (ys : List Int) {k : Nat} {st' : CSt} {rest : List UInt8}
    (hst : skipV (rdC proto (cfgOf plain rb sb ms ct fr)) (tot V + 1) 64 V.f0 (CR0, toB ys) = some (k, (st', rest))) :
    ∀ (m : Nat) (R : RP proto (cfgOf plain rb sb ms ct fr) m) (S : List Nat) (W : World), R.P.Is S (R.st (CR0, toB ys)) W → Calls Tryz.prog 73 #[.iface R.P.ty R.P.ptr, .agg #[.int .i64 22, .int .i64 V.f0, .int .i64 0, .int .i64 0, .int .i64 0, .int .i64 0, .slice none 0 0]] W (TellsG R.P {} k (R.st (st', rest)) S W) := by
  intro m R S W hI
  have hT := isT_lt (right_type hV)
  have h1 := skipV_sim R.st R.run_eq (tot V + 1) 64 V.f0 (CR0, toB ys)
  rw [hst] at h1
  refine read_skip R.P R.sk V.f0 hT _ _ _ _ _ hI (fun W1 hW1 => ?_)
  have h2 := skip_any R.P (tot V + 1) 64 (by omega) (by omega) S _ W1 V.f0 (R.P.step hI hW1 (by simp)) hT.1 hT.2 _ h1
  refine (R.sk.does (fun ev w' => ∃ S', IsErr k ev w' ∧ R.P.Is S' (R.st (st', rest)) w' ∧ Step S S' W1 w') V.f0 W1 (h2.mono ?_)).mono ?_
  · rintro e w' ⟨ev, S', h3, h4, h5, h6⟩
    exact ⟨ev, h3, S', h4, h5, h6⟩
  · rintro e w' ⟨ev, h3, S', h4, h5, h6⟩
    exact ⟨ev, S', h3, h4, h5, h6⟩

end Go.Proofs.YtmjcnomgpikncaaGreatDoor
