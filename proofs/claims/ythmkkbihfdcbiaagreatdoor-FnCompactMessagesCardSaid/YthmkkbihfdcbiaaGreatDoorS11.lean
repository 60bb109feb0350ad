/- The walk of FnCompactMessages. -/
import Derived.Test.YthmkkbihfdcbiaaGreatDoorMx
import Derived.Test.YthmkkbihfdcbiaaGreatDoorMr
import Derived.Test.YthmkkbihfdcbiaaGreatDoorMb2
namespace Go.Proofs.YthmkkbihfdcbiaaGreatDoor
open Go.RowKit Go.Deep
set_option linter.unusedVariables false
set_option linter.unusedSimpArgs false
open Go.Proofs.YthmkkbihfdcbiaaGreatDoorW.PrintWords

theorem isWide_any' {proto : Int} {plain rb sb : Bool} {ms ct fr : Int} {b : Bool} (h : laws_isWide.f proto plain rb sb ms ct fr = some b) (w : World) : Calls Tryz.prog 23 #[.agg #[.int .i64 proto, .bool plain, .bool rb, .bool sb, .int .i32 ms, .int .i32 ct, .int .i32 fr]] w fun e w' => e = .returned (.bool b) ∧ Below w.heap.size w w' :=
  laws_isWide.calls proto plain rb sb ms ct fr b w h

theorem C_two {q : Nat} {z x : UInt8} {W : World} (h0 : W.cell? ⟨q, 0, none⟩ = some (.int .u8 ((z.toNat : Nat) : Int))) (h1 : W.cell? ⟨q, 1, none⟩ = some (.int .u8 ((x.toNat : Nat) : Int))) : (Kd.int .u8).C W (some ⟨q, 0, none⟩) 2 (ints [z, x]) := by
  refine ⟨rfl, by simp, fun _ => ⟨_, rfl, fun j p hj => ?_⟩⟩
  match j, hj with
  | 0, hj =>
    have : p = ((z.toNat : Nat) : Int) := by simpa [ints] using hj.symm
    subst this
    refine ⟨[.int .u8 ((z.toNat : Nat) : Int)], rfl, rfl, fun i u hu => ?_⟩
    cases i with
    | succ i => simp at hu
    | zero =>
      have : u = .int .u8 ((z.toNat : Nat) : Int) := by simpa using hu.symm
      subst this
      exact h0
  | 1, hj =>
    have : p = ((x.toNat : Nat) : Int) := by simpa [ints] using hj.symm
    subst this
    refine ⟨[.int .u8 ((x.toNat : Nat) : Int)], rfl, rfl, fun i u hu => ?_⟩
    cases i with
    | succ i => simp at hu
    | zero =>
      have : u = .int .u8 ((x.toNat : Nat) : Int) := by simpa using hu.symm
      subst this
      exact h1
  | j + 2, hj => simp [ints] at hj

theorem three_drew (w : World) (o1 o2 o3 : Obj) : w.heap.size + 1 + 1 < (((w.alloc o1).alloc o2).alloc o3).drew.heap.size := by
  show _ < (((w.alloc o1).alloc o2).alloc o3).heap.size
  simp
theorem three_at0 (w : World) (o1 o2 o3 : Obj) : (((w.alloc o1).alloc o2).alloc o3).drew.heap[w.heap.size]? = some o1 :=
  show (((w.alloc o1).alloc o2).alloc o3).heap[w.heap.size]? = some o1 from heap_alloc_old (heap_alloc_old (heap_alloc_new w _) _) _
theorem three_at1 (w : World) (o1 o2 o3 : Obj) : (((w.alloc o1).alloc o2).alloc o3).drew.heap[w.heap.size + 1]? = some o2 :=
  show (((w.alloc o1).alloc o2).alloc o3).heap[w.heap.size + 1]? = some o2 from heap_alloc_old (heap_alloc_at (by simp) _) _
theorem three_at2 (w : World) (o1 o2 o3 : Obj) : (((w.alloc o1).alloc o2).alloc o3).drew.heap[w.heap.size + 1 + 1]? = some o3 :=
  show (((w.alloc o1).alloc o2).alloc o3).heap[w.heap.size + 1 + 1]? = some o3 from heap_alloc_at (by simp) _
theorem lt_heap' {w : World} {k : Nat} {o : Obj} (h : w.heap[k]? = some o) : k < w.heap.size := (Array.getElem?_eq_some_iff.1 h).1

theorem drop2 (D : Option Addr) (cd : Nat) (xs : List Int) (h2 : 2 ≤ xs.length) (hc : xs.length ≤ cd) : ∃ D', (∀ W : World, (Instr.slice 26 (.slice D xs.length cd) (some (.int .i64 2)) none none).run Tryz.prog W = .ok (.slice D' (xs.drop 2).length (cd - 2)) W) ∧
    (∀ W, (Kd.int .u8).C W D xs.length xs → (Kd.int .u8).C W D' (xs.drop 2).length (xs.drop 2)) ∧ (xs.drop 2).length ≤ cd - 2 := by
  obtain ⟨i0, hi, hz0, hz1, hz2⟩ := info_parts info8
  obtain ⟨A', h1, h3, h4⟩ := print_drop_of (P := Tryz.prog) (Value.int .u8) (0 : Int) 26 5 .i64 Tryz.underlying26 hi hz1 D cd xs 2 (by omega) (by omega) hc
  exact ⟨A', h1, fun W h => Kd.C_of_reads (h3 W (Kd.reads_of_C (d := (0 : Int)) h)), h4⟩

theorem msg_enc (c : Cfg) (s : List UInt8) (hl : s.length ≤ 65536) (K : Nat) (hK : K ≤ 7) (n : Int) (h0 : -2147483648 ≤ n) (h1 : n < 2147483648) (X : List UInt8) (hX : (130 : UInt8) :: (K * 32 + 1).toUInt8 :: (Lib.uvarint (n % 4294967296).toNat ++ cText s) = X) : encC 1 c [.msgB s (K : Int) n] = (X, 0) := by
  have hw := wr_msg s K n hK
  rw [hX] at hw
  have hf : (WOp.msgB s (K : Int) n).fit := ⟨by omega, ⟨by omega, by omega⟩, ⟨h0, h1⟩⟩
  rw [encC_one _ _ hf, hw.1, hw.2]

theorem msg_rd (c : Cfg) (hm : 1048576 ≤ c.message) (s : List UInt8) (hl : s.length ≤ 65536) (K : Nat) (hK : K ≤ 7) (n : Int) (h0 : -2147483648 ≤ n) (h1 : n < 2147483648) (X : List UInt8) (hX : (130 : UInt8) :: (K * 32 + 1).toUInt8 :: (Lib.uvarint (n % 4294967296).toNat ++ cText s) = X) (R : List UInt8) :
    rdC 1 c (CR0, X ++ R) .msgB = some ({ s := s, t := (K : Int), n := n }, 0, (CR0, R)) := by
  rw [← hX]
  exact rd_msg c hm s (by omega) K hK n h0 h1 R

theorem sw_msg' (W : World) (K n : Int) (h2 : wrap32 K = K) (h3 : wrap32 n = n) (A : Option Addr) (cA : Nat) (xs : List Int) (hx : (Kd.int .u8).C W A xs.length xs) (hl : xs.length ≤ 2147483647) : StepWrites W (.msgB (toB xs) K n) 0 K 0 0 0 n A xs.length cA := by
  have h := sw_msg W K n 0 0 0 A cA xs hx hl
  rw [h2, h3] at h
  exact h

theorem row_of {xs : List Int} (h8 : ∀ x ∈ xs, 0 ≤ x ∧ x < 256) {A : Option Addr} {c : Nat} {W : World} (hc : xs.length ≤ c) (hC : (Kd.int .u8).C W A xs.length xs) : RowB (toB xs) (.slice A xs.length c) W := by
  have e : ints (toB xs) = xs := ints_toB h8
  refine ⟨A, c, ?_, ?_, ?_⟩ <;> rw [e]
  · exact hc
  · exact hC

theorem msg_alone (plain rb sb : Bool) (ms ct fr : Int) (hf32 : (cfgOf plain rb sb ms ct fr).fit) (hwide : 1048576 ≤ (cfgOf plain rb sb ms ct fr).message) (nv : List Int) (h81 : ∀ x ∈ nv, 0 ≤ x ∧ x < 256) (hl1 : nv.length ≤ 65536) (K : Nat) (hK : K ≤ 7) (n : Int) (h0 : -2147483648 ≤ n) (h1 : n < 2147483648)
    (x : UInt8) (hx : (K * 32 + 1).toUInt8 = x) (Y : List UInt8) (hY : Lib.uvarint (n % 4294967296).toNat ++ cText (toB nv) = Y) (A1 : Option Addr) (c1 : Nat) (hcap1 : nv.length ≤ c1) (sv : List Int) (h8 : ∀ x ∈ sv, 0 ≤ x ∧ x < 256) (hl2 : sv.length ≤ 65536) (A : Option Addr) (ca : Nat) (hcapA : sv.length ≤ ca)
    (D : Option Addr) (cd : Nat) (W : World) (hE : EofAt W) (hCd : (Kd.int .u8).C W D (ints ((130 : UInt8) :: x :: Y)).length (ints ((130 : UInt8) :: x :: Y))) (hcd : (ints ((130 : UInt8) :: x :: Y)).length ≤ cd) (hA : (Kd.int .u8).C W A sv.length sv) (hA1 : (Kd.int .u8).C W A1 nv.length nv) :
    Calls Tryz.prog 20 #[confV 1 plain rb sb ms ct fr, .agg #[.int .i64 0, .int .i64 (K : Int), .int .i64 0, .int .i64 0, .int .i64 0, .int .i64 n, .slice A1 nv.length c1], .slice D (ints ((130 : UInt8) :: x :: Y)).length cd, .slice A sv.length ca, gotV { s := toB nv, t := (K : Int), n := n } (.slice A1 nv.length c1)] W fun e w' => e = .returned (.bool true) ∧ Below W.heap.size W w' := by
  have htl : (toB nv).length = nv.length := by simp [toB]
  have hw1 : wrap32 (K : Int) = K := by unfold wrap32; omega
  have hw2 : wrap32 n = n := by unfold wrap32; omega
  have hXX : (130 : UInt8) :: (K * 32 + 1).toUInt8 :: (Lib.uvarint (n % 4294967296).toNat ++ cText (toB nv)) = (130 : UInt8) :: x :: Y := by rw [hx, hY]
  have hl1' : (toB nv).length ≤ 65536 := by rw [htl]; exact hl1
  have hcost : (WOp.msgB (toB nv) (K : Int) n).cost ≤ 1000000 := by show (toB nv).length + 32 ≤ _; omega
  have hX := msg_enc (cfgOf plain rb sb ms ct fr) (toB nv) hl1' K hK n h0 h1 _ hXX
  have hrd := msg_rd (cfgOf plain rb sb ms ct fr) hwide (toB nv) hl1' K hK n h0 h1 _ hXX (toB sv)
  have hsw : ∀ W', Below W.heap.size W W' → StepWrites W' (.msgB (toB nv) (K : Int) n) 0 (K : Int) 0 0 0 n A1 nv.length c1 := fun W' hB => sw_msg' W' K n hw1 hw2 A1 c1 nv (Kd.C_below hA1 hB) (by omega)
  have hX1 : 1 ≤ ((130 : UInt8) :: x :: Y).length := by simp
  clear hXX hx hY
  generalize (130 : UInt8) :: x :: Y = X at *
  exact alone_row 1 plain rb sb ms ct fr hf32 (.msgB (toB nv) (K : Int) n) .msgB (fun g => { s := g.s, t := g.t, n := g.n }) 0 (K : Int) 0 0 0 n A1 nv.length c1 D cd A ca X sv { s := toB nv, t := (K : Int), n := n } (.slice A1 nv.length c1) W
    hE hsw (sr_msg _ _ _ _ _ _ _ _) hcost hCd hcd hA hcapA h8 (by omega) (row_of h81 hcap1 hA1) hX1 hX hrd rfl

theorem u8_and7 : ∀ a : Fin 256, bits .and .u8 ((a.val : Nat) : Int) 7 = ((a.val % 8 : Nat) : Int) := by decide +kernel
theorem u8_and31 : ∀ a : Fin 256, bits .and .u8 ((a.val : Nat) : Int) 31 = ((a.val % 32 : Nat) : Int) := by decide +kernel
theorem u8_kind : ∀ a : Fin 8, bits .or .u8 (((a.val : Nat) : Int) * 32) 1 = ((a.val * 32 + 1 : Nat) : Int) := by decide +kernel

set_option maxRecDepth 100000 in
set_option maxHeartbeats 2000000 in
theorem fnCompactMessages_walk (proto : Int) (plain rb sb : Bool) (ms ct fr : Int) (A1 : Option Addr) (l1 c1 : Nat) (zs1 : List Int) (kd fs sc n : Int) (A : Option Addr) (la ca : Nat) (zs : List Int) (w : World) (hf : (Lit.int .i64 proto).wf = true ∧ (Lit.int .i32 ms).wf = true ∧ (Lit.int .i32 ct).wf = true ∧ (Lit.int .i32 fr).wf = true)
    (hr1 : IsRow .u8 w A1 l1 c1 zs1) (hkd : (Lit.int .u8 kd).wf = true) (hfs : (Lit.int .u8 fs).wf = true) (hsc : (Lit.int .u8 sc).wf = true) (hn : (Lit.int .i32 n).wf = true) (hr : IsRow .u8 w A la ca zs) (hE : EofAt w) :
    Calls Tryz.prog 7 #[confV proto plain rb sb ms ct fr, .slice A1 l1 c1, .int .u8 kd, .int .u8 fs, .int .u8 sc, .int .i32 n, .slice A la ca] w fun e w' => e = .returned (.bool true) ∧ Below w.heap.size w w' := by
  have hf32 : (cfgOf plain rb sb ms ct fr).fit := by
    have e1 : IntKind.i32.min = -2147483648 := by decide
    have e2 : IntKind.i32.max = 2147483647 := by decide
    have h1 : IntKind.i32.min ≤ ms ∧ ms ≤ IntKind.i32.max := by simpa [Lit.wf] using hf.2.1
    have h2 : IntKind.i32.min ≤ ct ∧ ct ≤ IntKind.i32.max := by simpa [Lit.wf] using hf.2.2.1
    refine ⟨⟨?_, ?_⟩, ⟨?_, ?_⟩⟩ <;> simp only [cfgOf] <;> omega
  have hu8 : ∀ x : Int, (Lit.int .u8 x).wf = true → 0 ≤ x ∧ x < 256 := fun x hx => by
    have e1 : IntKind.u8.min = 0 := by decide
    have e2 : IntKind.u8.max = 255 := by decide
    have h1 : IntKind.u8.min ≤ x ∧ x ≤ IntKind.u8.max := by simpa [Lit.wf] using hx
    omega
  have hn0 : -2147483648 ≤ n ∧ n < 2147483648 := by
    have e1 : IntKind.i32.min = -2147483648 := by decide
    have e2 : IntKind.i32.max = 2147483647 := by decide
    have h1 : IntKind.i32.min ≤ n ∧ n ≤ IntKind.i32.max := by simpa [Lit.wf] using hn
    omega
  have hkd0 := hu8 kd hkd
  have hfs0 := hu8 fs hfs
  have hsc0 := hu8 sc hsc
  obtain ⟨f, rfl⟩ : ∃ f : UInt8, fs = ((f.toNat : Nat) : Int) := ⟨fs.toNat.toUInt8, by simp only [Nat.toUInt8, UInt8.toNat_ofNat']; omega⟩
  obtain ⟨s, rfl⟩ : ∃ s : UInt8, sc = ((s.toNat : Nat) : Int) := ⟨sc.toNat.toUInt8, by simp only [Nat.toUInt8, UInt8.toNat_ofNat']; omega⟩
  have hcapA : la ≤ ca := hr.cap
  have hcap1 : l1 ≤ c1 := hr1.cap
  obtain ⟨sv, rfl, hA, h8⟩ := row_bytes hr
  obtain ⟨nv, rfl, hA1, h81⟩ := row_bytes hr1
  clear hr hr1 hf hn hkd hfs hsc hu8
  have hk := Lib.hid known_any
  have HBY := Lib.hid (fun (W : World) => by_any 1 proto plain rb sb ms ct fr W)
  obtain ⟨bw, hbw⟩ := isWide_f proto plain rb sb ms ct fr
  have HWD := Lib.hid (fun W => isWide_any' hbw W)
  have HBW := Lib.hid hbw
  clear hbw
  by_cases hl1 : nv.length ≤ 2147483647
  case neg =>
    have hl1' : ¬ ((nv.length : Int) ≤ 2147483647) := by omega
    go_enter Tryz.func7, Tryz.ntmps7
    go_wp2_with (fail)
    go_ret
    exact ⟨rfl, (Below.refl _ w).alloc (Nat.le_refl _) _⟩
  have hl1' : (nv.length : Int) ≤ 2147483647 := by omega
  by_cases hl2 : sv.length ≤ 2147483647
  case neg =>
    have hl2' : ¬ ((sv.length : Int) ≤ 2147483647) := by omega
    go_enter Tryz.func7, Tryz.ntmps7
    go_wp2_with (fail)
    go_ret
    exact ⟨rfl, (Below.refl _ w).alloc (Nat.le_refl _) _⟩
  have hl2' : (sv.length : Int) ≤ 2147483647 := by omega
  obtain ⟨W0, hW0⟩ : ∃ W0, W0 = w.alloc (.cells #[.int .i64 proto, .bool plain, .bool rb, .bool sb, .int .i32 ms, .int .i32 ct, .int .i32 fr] 25) := ⟨_, rfl⟩
  have hB0 : Below w.heap.size w W0 := by rw [hW0]; exact (Below.refl _ w).alloc (Nat.le_refl _) _
  have hb0 : W0.heap[w.heap.size]? = some (.cells #[.int .i64 proto, .bool plain, .bool rb, .bool sb, .int .i32 ms, .int .i32 ct, .int .i32 fr] 25 (0, 0)) := by rw [hW0]; exact heap_alloc_new w _
  have HB0 := Lib.hid hB0
  have HC := Lib.hid (Below.refl W0.heap.size W0)
  have hs0 : w.heap.size ≤ W0.heap.size := hB0.size
  have HPS := Lib.hid (fun W (hB : Below W0.heap.size W0 W) => (Box7.at_ hb0).of hB (lt_heap hb0))
  obtain ⟨p0, p1, p2, p3, p4, p5, p6⟩ := Box7.at_ hb0
  have HB0K := Lib.hid hb0
  clear hb0 hB0
  by_cases hm1 : nv.length ≤ 65536
  case neg =>
    have hm1' : ¬ ((nv.length : Int) ≤ 65536) := by omega
    go_enter Tryz.func7, Tryz.ntmps7
    go_wp2_with (fail)
    rw [← hW0]
    go_wp2_with (first | (go_at_call 23; (with_reducible refine (HWD.out _).mono ?_); rintro e W3 ⟨rfl, hB3⟩; have HC := Lib.hid (HC.out.trans (hB3.mono HC.out.size)); clear hB3; obtain ⟨p0, p1, p2, p3, p4, p5, p6⟩ := HPS.out _ HC.out) | (go_at_call 12; refine (hk.out _).mono ?_; rintro e w' ⟨rfl, hb⟩))
    go_ret
    exact ⟨rfl, HB0.out.trans ((HC.out.trans (hb.mono HC.out.size)).mono hs0)⟩
  have hm1' : (nv.length : Int) ≤ 65536 := by omega
  by_cases hm2 : sv.length ≤ 65536
  case neg =>
    have hm2' : ¬ ((sv.length : Int) ≤ 65536) := by omega
    go_enter Tryz.func7, Tryz.ntmps7
    go_wp2_with (fail)
    rw [← hW0]
    go_wp2_with (first | (go_at_call 23; (with_reducible refine (HWD.out _).mono ?_); rintro e W3 ⟨rfl, hB3⟩; have HC := Lib.hid (HC.out.trans (hB3.mono HC.out.size)); clear hB3; obtain ⟨p0, p1, p2, p3, p4, p5, p6⟩ := HPS.out _ HC.out) | (go_at_call 12; refine (hk.out _).mono ?_; rintro e w' ⟨rfl, hb⟩))
    go_ret
    exact ⟨rfl, HB0.out.trans ((HC.out.trans (hb.mono HC.out.size)).mono hs0)⟩
  have hm2' : (sv.length : Int) ≤ 65536 := by omega
  by_cases hbw : bw = false
  case pos =>
    subst hbw
    go_enter Tryz.func7, Tryz.ntmps7
    go_wp2_with (fail)
    rw [← hW0]
    go_wp2_with (first | (go_at_call 23; (with_reducible refine (HWD.out _).mono ?_); rintro e W3 ⟨rfl, hB3⟩; have HC := Lib.hid (HC.out.trans (hB3.mono HC.out.size)); clear hB3; obtain ⟨p0, p1, p2, p3, p4, p5, p6⟩ := HPS.out _ HC.out) | (go_at_call 12; refine (hk.out _).mono ?_; rintro e w' ⟨rfl, hb⟩))
    go_ret
    exact ⟨rfl, HB0.out.trans ((HC.out.trans (hb.mono HC.out.size)).mono hs0)⟩
  obtain rfl : bw = true := by simpa using hbw
  clear hbw
  go_enter Tryz.func7, Tryz.ntmps7
  go_wp2_with (fail)
  rw [← hW0]
  go_wp2_with (first | (go_at_call 23; (with_reducible refine (HWD.out _).mono ?_); rintro e W3 ⟨rfl, hB3⟩; have HC := Lib.hid (HC.out.trans (hB3.mono HC.out.size)); clear hB3; obtain ⟨p0, p1, p2, p3, p4, p5, p6⟩ := HPS.out _ HC.out))
  refine (HBY.out _).mono ?_
  rintro e W1 ⟨rfl, hB1⟩
  have HBB := Lib.hid (HC.out.trans (hB1.mono HC.out.size))
  clear hB1
  have hbk : W1.heap[w.heap.size]? = some (.cells #[.int .i64 proto, .bool plain, .bool rb, .bool sb, .int .i32 ms, .int .i32 ct, .int .i32 fr] 25 (0, 0)) := (HBB.out.block _ (lt_heap HB0K.out)).trans HB0K.out
  have HW1 := Lib.hid (HB0.out.trans (HBB.out.mono hs0))
  have hz := frozen_heap hbk
  obtain ⟨p0, p1, p2, p3, p4, p5, p6⟩ := Box7.at_ hbk
  go_wp2_with (fail)
  obtain ⟨K, hK⟩ : ∃ K : Nat, kd % 8 = K := ⟨(kd % 8).toNat, by omega⟩
  have hK7 : K ≤ 7 := by omega
  obtain ⟨N, hN⟩ : ∃ N : Nat, n % 4294967296 = N := ⟨(n % 4294967296).toNat, by omega⟩
  have hNt : (n % 4294967296).toNat = N := by omega
  have hy : bits .or .u8 (kd % 8 * 32) 1 = ((((K * 32 + 1).toUInt8).toNat : Nat) : Int) := by
    rw [hK, byte_kind hK7]
    exact u8_kind ⟨K, by omega⟩
  rw [hy, hK, hN]
  obtain ⟨x, hx⟩ : ∃ x : UInt8, (K * 32 + 1).toUInt8 = x := ⟨_, rfl⟩
  rw [hx]
  obtain ⟨W2, hW2⟩ : ∃ W2, W2 = ((((((W1.setCell ⟨w.heap.size, 0, none⟩ (.int .i64 1)).setCell ⟨w.heap.size, 1, none⟩ (.bool plain)).setCell ⟨w.heap.size, 2, none⟩ (.bool rb)).setCell ⟨w.heap.size, 3, none⟩ (.bool sb)).setCell ⟨w.heap.size, 4, none⟩ (.int .i32 ms)).setCell ⟨w.heap.size, 5, none⟩ (.int .i32 ct)).setCell ⟨w.heap.size, 6, none⟩ (.int .i32 fr) := ⟨_, rfl⟩
  have hB2 : Below w.heap.size w W2 := by rw [hW2]; exact ((((((HW1.out.setCell (Nat.le_refl _) _).setCell (Nat.le_refl _) _).setCell (Nat.le_refl _) _).setCell (Nat.le_refl _) _).setCell (Nat.le_refl _) _).setCell (Nat.le_refl _) _).setCell (Nat.le_refl _) _
  have hb2 : W2.heap[w.heap.size]? = some (.cells #[.int .i64 1, .bool plain, .bool rb, .bool sb, .int .i32 ms, .int .i32 ct, .int .i32 fr] 25 (0, 0)) := by
    rw [hW2]
    exact (heap_set_same (o := 6) (heap_set_same (o := 5) (heap_set_same (o := 4) (heap_set_same (o := 3) (heap_set_same (o := 2) (heap_set_same (o := 1) (heap_set_same (o := 0) hbk _) _) _) _) _) _) _).trans rfl
  have hs21 : W1.heap.size = W2.heap.size := by rw [hW2]; simp
  rw [← hW2]
  clear hW2 p0 p1 p2 p3 p4 p5 p6 hz hbk HBB
  obtain ⟨W3, hW3⟩ : ∃ W3, W3 = (W2.alloc (.cells #[.int .i64 0, .int .i64 (K : Int), .int .i64 0, .int .i64 0, .int .i64 0, .int .i64 n, .slice A1 nv.length c1] 46)).alloc (.cells #[.int .u8 130, .int .u8 ((x.toNat : Nat) : Int)] 5) := ⟨_, rfl⟩
  have hB3 : Below w.heap.size w W3 := by rw [hW3]; exact (hB2.alloc hB2.size _).alloc (by have := hB2.size; simp; omega) _
  have hb3 : W3.heap[w.heap.size]? = some (.cells #[.int .i64 1, .bool plain, .bool rb, .bool sb, .int .i32 ms, .int .i32 ct, .int .i32 fr] 25 (0, 0)) := by rw [hW3]; exact heap_alloc_old (heap_alloc_old hb2 _) _
  have hq3 : W3.heap[W1.heap.size]? = some (.cells #[.int .i64 0, .int .i64 (K : Int), .int .i64 0, .int .i64 0, .int .i64 0, .int .i64 n, .slice A1 nv.length c1] 46 (0, 0)) := by rw [hW3, hs21]; exact heap_alloc_old (heap_alloc_new W2 _) _
  have hr3 : W3.heap[W1.heap.size + 1]? = some (.cells #[.int .u8 130, .int .u8 ((x.toNat : Nat) : Int)] 5 (0, 0)) := by rw [hW3, hs21]; exact heap_alloc_at (by simp) _
  have hs31 : W3.heap.size = W1.heap.size + 1 + 1 := by rw [hW3, hs21]; simp
  rw [← hW3]
  clear hW3 hb2 hB2 hs21
  have HB3 := Lib.hid hB3
  have HPS := Lib.hid (fun W (hB : Below W3.heap.size W3 W) => (And.intro ((Box7.at_ hb3).of hB (lt_heap hb3)) ((Box7.at_ hq3).of hB (lt_heap hq3))))
  have HR3 := Lib.hid hr3
  have hfz1 := frozen_heap hb3
  have hfz2 := frozen_heap hq3
  have hwl3 := lt_heap hb3
  clear hb3 hq3 hr3 hB3
  have HSV := Lib.hid (fun (M : Nat) (h : M < 18446744073709551616) W => seven_any M h W)
  refine (HSV.out N (by omega) W3).mono ?_
  rintro e W4 ⟨v4, rfl, hR4, hB4⟩
  obtain ⟨D4, cd4, rfl, hcd4, hCd4⟩ := Kd.R_reads hR4
  have HC := Lib.hid hB4
  have HCD4 := Lib.hid hCd4
  have HCAP4 := Lib.hid hcd4
  clear hR4 hB4 hCd4 hcd4
  go_wp2_with (fail)
  refine (HSV.out nv.length (by omega) W4).mono ?_
  rintro e W5 ⟨v5, rfl, hR5, hB5⟩
  obtain ⟨D5, cd5, rfl, hcd5, hCd5⟩ := Kd.R_reads hR5
  have HCD4 := Lib.hid (Kd.C_below HCD4.out hB5)
  have HC := Lib.hid (HC.out.trans (hB5.mono HC.out.size))
  have HCD5 := Lib.hid hCd5
  have HCAP5 := Lib.hid hcd5
  clear hR5 hB5 hCd5 hcd5
  go_wp2_with (fail)
  have hu4 := Lib.uvarint_length64 (x := N) (by omega)
  have hu5 := Lib.uvarint_length64 (x := nv.length) (by omega)
  obtain ⟨W6, hW6⟩ : ∃ W6, W6 = W5.alloc (.cells #[.slice (some ⟨W1.heap.size + 1, 0, none⟩) 2 2, .slice D4 (ints (Lib.uvarint N)).length cd4, .slice D5 (ints (Lib.uvarint nv.length)).length cd5, .slice A1 nv.length c1] 26) := ⟨_, rfl⟩
  have hb6 : W6.heap[W5.heap.size]? = some (.cells #[.slice (some ⟨W1.heap.size + 1, 0, none⟩) 2 2, .slice D4 (ints (Lib.uvarint N)).length cd4, .slice D5 (ints (Lib.uvarint nv.length)).length cd5, .slice A1 nv.length c1] 26 (0, 0)) := by rw [hW6]; exact heap_alloc_new W5 _
  have hB65 : Below W5.heap.size W5 W6 := by rw [hW6]; exact (Below.refl _ W5).alloc (Nat.le_refl _) _
  rw [← hW6]
  clear hW6
  have HC6 := Lib.hid (HC.out.trans (hB65.mono HC.out.size))
  have hr6 : W6.heap[W1.heap.size + 1]? = some (.cells #[.int .u8 130, .int .u8 ((x.toNat : Nat) : Int)] 5 (0, 0)) := (HC6.out.block _ (lt_heap HR3.out)).trans HR3.out
  have hC2 : (Kd.int .u8).C W6 (some ⟨W1.heap.size + 1, 0, none⟩) 2 (ints [130, x]) := C_two ((cell_heap hr6 0).trans rfl) ((cell_heap hr6 1).trans rfl)
  have hA6 := Kd.C_below hA1 (HB3.out.trans (HC6.out.mono HB3.out.size))
  have HJ := Lib.hid (joined_any (W := W6) W5.heap.size 4 [ints [130, x], ints (Lib.uvarint N), ints (Lib.uvarint nv.length), nv] (by simp) (by simp) (by simp) (by simp [ints_length]; omega) (fun j p hj => by
    match j, hj with
    | 0, hj => simp only [List.getElem?_cons_zero, Option.some.injEq] at hj; subst hj; exact ⟨_, _, (cell_heap hb6 0).trans rfl, by simp [ints_length], hC2⟩
    | 1, hj => simp only [List.getElem?_cons_succ, List.getElem?_cons_zero, Option.some.injEq] at hj; subst hj; exact ⟨_, _, (cell_heap hb6 1).trans rfl, HCAP4.out, Kd.C_below HCD4.out hB65⟩
    | 2, hj => simp only [List.getElem?_cons_succ, List.getElem?_cons_zero, Option.some.injEq] at hj; subst hj; exact ⟨_, _, (cell_heap hb6 2).trans rfl, HCAP5.out, Kd.C_below HCD5.out hB65⟩
    | 3, hj => simp only [List.getElem?_cons_succ, List.getElem?_cons_zero, Option.some.injEq] at hj; subst hj; exact ⟨_, _, (cell_heap hb6 3).trans rfl, hcap1, hA6⟩
    | j + 4, hj => simp at hj))
  refine HJ.out.mono ?_
  rintro e W8 ⟨v8, rfl, hR8, hB8⟩
  obtain ⟨D, cd, rfl, hcd, hCd⟩ := Kd.R_reads hR8
  have HC := Lib.hid (HC6.out.trans (hB8.mono HC6.out.size))
  have hnvB : ints (toB nv) = nv := ints_toB h81
  have hfl : [ints [130, x], ints (Lib.uvarint N), ints (Lib.uvarint nv.length), nv].flatten = ints ((130 : UInt8) :: x :: (Lib.uvarint (n % 4294967296).toNat ++ cText (toB nv))) := by
    have e1 : (toB nv).length = nv.length := by simp [toB]
    unfold cText
    rw [hNt, e1]
    simp only [List.flatten_cons, List.flatten_nil, List.append_nil]
    conv => lhs; rw [← hnvB]
    simp [ints, toB]
  rw [hfl] at hcd hCd ⊢
  obtain ⟨Y, hY⟩ : ∃ Y, Lib.uvarint (n % 4294967296).toNat ++ cText (toB nv) = Y := ⟨_, rfl⟩
  rw [hY] at hcd hCd ⊢
  have HCD := Lib.hid hCd
  have HCAPD := Lib.hid hcd
  have HAL := Lib.hid (msg_alone plain rb sb ms ct fr hf32 (wide_of HBW.out).1 nv h81 (by omega) K hK7 n hn0.1 hn0.2 x hx Y hY A1 c1 hcap1 sv h8 (by omega) A ca hcapA D cd W8 (hE.below (HB3.out.trans (HC.out.mono HB3.out.size)) hE.lt) hCd hcd (Kd.C_below hA (HB3.out.trans (HC.out.mono HB3.out.size))) (Kd.C_below hA1 (HB3.out.trans (HC.out.mono HB3.out.size))))
  simp only [confV, gotV] at HAL
  clear hR8 hB8 hfl hcd hCd HJ hb6 hr6 hC2 hA6 HC6 hB65 HCD4 HCD5 HCAP4 HCAP5
  obtain ⟨⟨p0, p1, p2, p3, p4, p5, p6⟩, q0, q1, q2, q3, q4, q5, q6⟩ := HPS.out _ HC.out
  go_wp2_with (fail)
  refine HAL.out.mono ?_
  rintro e W9 ⟨rfl, hB9⟩
  have hB98 := hB9
  have HC := Lib.hid (HC.out.trans (hB9.mono HC.out.size))
  clear hB9 HAL p0 p1 p2 p3 p4 p5 p6 q0 q1 q2 q3 q4 q5 q6
  obtain ⟨⟨p0, p1, p2, p3, p4, p5, p6⟩, q0, q1, q2, q3, q4, q5, q6⟩ := HPS.out _ HC.out
  have hlY : (ints ((130 : UInt8) :: x :: Y)).length = Y.length + 2 := by simp [ints]
  obtain ⟨D', hsl, hDC, hcd'⟩ := drop2 D cd (ints ((130 : UInt8) :: x :: Y)) (by rw [hlY]; omega) HCAPD.out
  have hdr : (ints ((130 : UInt8) :: x :: Y)).drop 2 = ints Y := by simp [ints]
  rw [hdr] at hsl hDC hcd'
  have HDC := Lib.hid (hDC W8 HCD.out)
  have HB98 := Lib.hid hB98
  clear hDC hB98
  obtain ⟨g, k, st', rest, hrd2, hbad, hgood⟩ : ∃ g k st' rest, rdC 1 (cfgOf plain rb sb ms ct fr) (CR0, f :: s :: (Y ++ toB sv)) .msgB = some (g, k, (st', rest)) ∧ ((¬ (f.toNat : Int) = 130 ∨ ¬ (s.toNat : Int) % 32 = 1) → k = 14) ∧ ((f.toNat : Int) = 130 → (s.toNat : Int) % 32 = 1 → k = 0 ∧ g.t = (s.toNat : Int) / 32) := by
    obtain ⟨g, k, ⟨st', rest⟩, h1, h2, h3⟩ := rd_msg2 (cfgOf plain rb sb ms ct fr) (wide_of HBW.out).1 (toB nv) (by simp [toB]; omega) f s n hn0.1 hn0.2 (toB sv)
    rw [hY] at h1
    exact ⟨g, k, st', rest, h1, h2, h3⟩
  have HBAD := Lib.hid hbad
  have HGOOD := Lib.hid hgood
  clear hbad hgood
  obtain ⟨ys, hys⟩ : ∃ ys : List Int, [ints [f, s], ints Y, sv].flatten = ys := ⟨_, rfl⟩
  have hysB : toB ys = f :: s :: (Y ++ toB sv) := by
    rw [← hys]
    have h1 := toB_ints Y
    have h2 := toB_ints [f, s]
    unfold toB at h1 h2 ⊢
    simp only [List.flatten_cons, List.flatten_nil, List.append_nil, List.map_append, h1, h2]
    simp
  have hys8 : ∀ x ∈ ys, 0 ≤ x ∧ x < 256 := by
    rw [← hys]
    intro x hx
    simp only [List.flatten_cons, List.flatten_nil, List.append_nil, List.mem_append] at hx
    rcases hx with hx | hx | hx
    · obtain ⟨y, _, rfl⟩ := List.mem_map.1 hx
      have := y.toNat_lt
      omega
    · obtain ⟨y, _, rfl⟩ := List.mem_map.1 hx
      have := y.toNat_lt
      omega
    · exact h8 x hx
  have hYl : Y.length ≤ 70000 := by
    have e1 : (toB nv).length = nv.length := by simp [toB]
    rw [← hY]
    unfold cText
    rw [hNt, e1]
    simp only [List.length_append]
    omega
  have hysl : 1 ≤ ys.length ∧ ys.length ≤ 2000000 := by
    rw [← hys]
    simp [ints_length]
    omega
  have HJ := Lib.hid (fun W blk q (hB : Below W9.heap.size W9 W) (h0 : W.cell? ⟨blk, 0, none⟩ = some (.slice (some ⟨q, 0, none⟩) 2 2)) (h1 : W.cell? ⟨blk, 1, none⟩ = some (.slice D' (ints Y).length (cd - 2))) (h2 : W.cell? ⟨blk, 2, none⟩ = some (.slice A sv.length ca)) (hq0 : W.cell? ⟨q, 0, none⟩ = some (.int .u8 ((f.toNat : Nat) : Int))) (hq1 : W.cell? ⟨q, 1, none⟩ = some (.int .u8 ((s.toNat : Nat) : Int))) => joined_any (W := W) blk 3 [ints [f, s], ints Y, sv] (by simp) (by simp) (by simp) (by simp [ints_length]; omega) (fun j p hj => by
    match j, hj with
    | 0, hj => simp only [List.getElem?_cons_zero, Option.some.injEq] at hj; subst hj; exact ⟨_, _, h0, by simp [ints_length], C_two hq0 hq1⟩
    | 1, hj => simp only [List.getElem?_cons_succ, List.getElem?_cons_zero, Option.some.injEq] at hj; subst hj; exact ⟨_, _, h1, hcd', Kd.C_below (Kd.C_below HDC.out HB98.out) hB⟩
    | 2, hj => simp only [List.getElem?_cons_succ, List.getElem?_cons_zero, Option.some.injEq] at hj; subst hj; exact ⟨_, _, h2, hcapA, Kd.C_below hA (HB3.out.trans ((HC.out.mono HB3.out.size).trans (hB.mono (Nat.le_trans HB3.out.size HC.out.size))))⟩
    | j + 3, hj => simp at hj))
  rw [hys] at HJ
  have HRD := Lib.hid (fun W Dz cz b (hEW : EofAt W) (hD : (Kd.int .u8).C W Dz ys.length ys) hb hbl => Read_C 1 plain rb sb ms ct fr hf32 .msgB (fun g => { s := g.s, t := g.t, n := g.n }) 0 (K : Int) 0 0 0 n A1 nv.length c1 (sr_msg _ _ _ _ _ _ _ _) Dz cz ys b W hEW hD hys8 hysl.1 (by omega) hb hbl (by rw [hysB]; exact hrd2))
  simp only [confV] at HRD
  have HEO := Lib.hid (fun W (hB : Below W9.heap.size W9 W) => hE.below (HB3.out.trans ((HC.out.mono HB3.out.size).trans (hB.mono (Nat.le_trans HB3.out.size HC.out.size)))) hE.lt)
  have hl3 := HC.out.size
  have hc3 : w.heap.size < W9.heap.size := by omega
  have hc4 : W1.heap.size < W9.heap.size := by omega
  have HS2 := Lib.hid (fun W (hB : Below W9.heap.size W9 W) => show W.cell? ⟨w.heap.size, 0, none⟩ = some (.int .i64 1) ∧ W.cell? ⟨w.heap.size, 1, none⟩ = some (.bool plain) ∧ W.cell? ⟨w.heap.size, 2, none⟩ = some (.bool rb) ∧ W.cell? ⟨w.heap.size, 3, none⟩ = some (.bool sb) ∧ W.cell? ⟨w.heap.size, 4, none⟩ = some (.int .i32 ms) ∧ W.cell? ⟨w.heap.size, 5, none⟩ = some (.int .i32 ct) ∧ W.cell? ⟨w.heap.size, 6, none⟩ = some (.int .i32 fr) ∧ W.cell? ⟨W1.heap.size, 0, none⟩ = some (.int .i64 0) ∧ W.cell? ⟨W1.heap.size, 1, none⟩ = some (.int .i64 (K : Int)) ∧ W.cell? ⟨W1.heap.size, 2, none⟩ = some (.int .i64 0) ∧ W.cell? ⟨W1.heap.size, 3, none⟩ = some (.int .i64 0) ∧ W.cell? ⟨W1.heap.size, 4, none⟩ = some (.int .i64 0) ∧ W.cell? ⟨W1.heap.size, 5, none⟩ = some (.int .i64 n) ∧ W.cell? ⟨W1.heap.size, 6, none⟩ = some (.slice A1 nv.length c1) from (fun h => ⟨h.1.1, h.1.2.1, h.1.2.2.1, h.1.2.2.2.1, h.1.2.2.2.2.1, h.1.2.2.2.2.2.1, h.1.2.2.2.2.2.2, h.2⟩) (HPS.out _ (HC.out.trans (hB.mono hl3))))
  clear hys hysB hys8 hrd2 hlY hdr hY hysl hYl hE hu4 hu5
  go_wp2_with (fail)
  go_region_held3 (fun W' => W'.cell? ⟨w.heap.size, 0, none⟩ = some (.int .i64 1) ∧ W'.cell? ⟨w.heap.size, 1, none⟩ = some (.bool plain) ∧ W'.cell? ⟨w.heap.size, 2, none⟩ = some (.bool rb) ∧ W'.cell? ⟨w.heap.size, 3, none⟩ = some (.bool sb) ∧ W'.cell? ⟨w.heap.size, 4, none⟩ = some (.int .i32 ms) ∧ W'.cell? ⟨w.heap.size, 5, none⟩ = some (.int .i32 ct) ∧ W'.cell? ⟨w.heap.size, 6, none⟩ = some (.int .i32 fr) ∧ W'.cell? ⟨W1.heap.size, 0, none⟩ = some (.int .i64 0) ∧ W'.cell? ⟨W1.heap.size, 1, none⟩ = some (.int .i64 (K : Int)) ∧ W'.cell? ⟨W1.heap.size, 2, none⟩ = some (.int .i64 0) ∧ W'.cell? ⟨W1.heap.size, 3, none⟩ = some (.int .i64 0) ∧ W'.cell? ⟨W1.heap.size, 4, none⟩ = some (.int .i64 0) ∧ W'.cell? ⟨W1.heap.size, 5, none⟩ = some (.int .i64 n) ∧ W'.cell? ⟨W1.heap.size, 6, none⟩ = some (.slice A1 nv.length c1)) (first | exact ⟨p0, p1, p2, p3, p4, p5, p6, q0, q1, q2, q3, q4, q5, q6⟩ | (simp [go_sem, *]; done) | exact HS2.out _ HBJ.out | exact HS2.out _ (HBJ.out.alloc HBJ.out.size _) | exact HS2.out _ (HBJ.out.alloc HBJ.out.size _).drew | exact HS2.out _ HBJ.out.drew | exact HS2.out _ HBR.out | (refine HS2.out _ ?_; repeat (first | (with_reducible exact Below.refl _ _) | (with_reducible refine Below.drew ?_) | (with_reducible refine Below.alloc ?_ (by simp <;> omega) _))) | fail)
    (first
      | (go_at_call 19; (refine (HJ.out _ _ W9.heap.size ?_ ?_ ?_ ?_ ?_ ?_).mono ?_); (· repeat (first | (with_reducible exact Below.refl _ _) | (with_reducible refine Below.drew ?_) | (with_reducible refine Below.alloc ?_ (by simp <;> omega) _))); (· simp [go_sem]); (· simp [go_sem]); (· simp [go_sem]); (· simp [go_sem]); (· simp [go_sem]); rintro e Wj ⟨vj, rfl, hRj, hBj⟩; obtain ⟨Dj, cj, rfl, hcj, hCj⟩ := Kd.R_reads hRj; have HRW := Lib.hid hBj; have HBJ := Lib.hid ((show Below W9.heap.size W9 _ from (by repeat (first | (with_reducible exact Below.refl _ _) | (with_reducible refine Below.drew ?_) | (with_reducible refine Below.alloc ?_ (by simp <;> omega) _)))).trans (hBj.mono (by simp <;> omega))); have HCJ := Lib.hid hCj; clear hRj hBj hCj hcj)
      | (go_at_call 19; (refine (HJ.out _ _ (W9.heap.size + 1) ?_ ?_ ?_ ?_ ?_ ?_).mono ?_); (· repeat (first | (with_reducible exact Below.refl _ _) | (with_reducible refine Below.drew ?_) | (with_reducible refine Below.alloc ?_ (by simp <;> omega) _))); (· simp [go_sem]); (· simp [go_sem]); (· simp [go_sem]); (· simp [go_sem]); (· simp [go_sem]); rintro e Wj ⟨vj, rfl, hRj, hBj⟩; obtain ⟨Dj, cj, rfl, hcj, hCj⟩ := Kd.R_reads hRj; have HRW := Lib.hid hBj; have HBJ := Lib.hid ((show Below W9.heap.size W9 _ from (by repeat (first | (with_reducible exact Below.refl _ _) | (with_reducible refine Below.drew ?_) | (with_reducible refine Below.alloc ?_ (by simp <;> omega) _)))).trans (hBj.mono (by simp <;> omega))); have HCJ := Lib.hid hCj; clear hRj hBj hCj hcj)
      | (go_at_call 25; (with_reducible refine (HRD.out _ Dj cj _ (HEO.out _ (HBJ.out.alloc HBJ.out.size _)) (Kd.C_below HCJ.out ((Below.refl _ Wj).alloc (Nat.le_refl _) _)) (Box7.at_ (heap_alloc_new _ _)) (by simp)).mono ?_); rintro e Wr ⟨qr, capr, vr, kr, rfl, hGr, hvr, hBr⟩; have HBR := Lib.hid ((HBJ.out.alloc HBJ.out.size _).trans (hBr.mono (by have := HBJ.out.size; simp <;> omega))); have HGR := Lib.hid hGr; clear hGr hvr hBr)
      | (go_at_call 25; (with_reducible refine (HRD.out _ Dj cj _ (HEO.out _ HBJ.out) HCJ.out ?_ ?_).mono ?_); (first | exact Box7.at_ ((HRW.out.block _ (lt_heap (three_at0 W9 _ _ _))).trans (three_at0 W9 _ _ _)) | exact Box7.at_ ((HRW.out.block _ (lt_heap (three_at1 W9 _ _ _))).trans (three_at1 W9 _ _ _)) | exact Box7.at_ ((HRW.out.block _ (lt_heap (three_at2 W9 _ _ _))).trans (three_at2 W9 _ _ _))); (first | exact Nat.lt_of_lt_of_le (lt_heap (three_at0 W9 _ _ _)) HRW.out.size | exact Nat.lt_of_lt_of_le (lt_heap (three_at1 W9 _ _ _)) HRW.out.size | exact Nat.lt_of_lt_of_le (lt_heap (three_at2 W9 _ _ _)) HRW.out.size); rintro e Wr ⟨qr, capr, vr, kr, rfl, hGr, hvr, hBr⟩; have HBR := Lib.hid (HBJ.out.trans (hBr.mono HBJ.out.size)); have HGR := Lib.hid hGr; clear hGr hvr hBr))
  all_goals (
    obtain ⟨g0, g1, g2, g3, g4, g5, g6⟩ := HGR.out
    have hs9 := HBR.out.size
    have HEND := Lib.hid (fun W (h : Below Wr.heap.size Wr W) => HB3.out.trans (((HC.out.trans ((HBR.out.trans (h.mono hs9)).mono hl3)).mono HB3.out.size)))
    dsimp only at g1
    have hand : bits .and .u8 ((s.toNat : Nat) : Int) 31 = ((s.toNat : Nat) : Int) % 32 := by
      have h := u8_and31 ⟨s.toNat, s.toNat_lt⟩
      simp only at h
      rw [h]
      omega
    clear g2 g3 g4 g5 g6
    by_cases hfx : (f.toNat : Int) = 130
    · by_cases hsx : (s.toNat : Int) % 32 = 1
      · obtain ⟨hk0, hgt⟩ := HGOOD.out hfx hsx
        subst hk0
        rw [hgt] at g1
        rw [hsx] at hand
        go_wp2_with (go_at_call 12; refine (hk.out _).mono ?_; rintro e w' ⟨rfl, hb⟩)
        go_ret
        exact ⟨rfl, HEND.out _ hb⟩
      · have hk0 := HBAD.out (.inr hsx)
        subst hk0
        have hand2 : ¬ bits .and .u8 ((s.toNat : Nat) : Int) 31 = 1 := by rw [hand]; exact hsx
        clear hand
        go_wp2_with (go_at_call 12; refine (hk.out _).mono ?_; rintro e w' ⟨rfl, hb⟩)
        go_ret
        exact ⟨rfl, HEND.out _ hb⟩
    · have hk0 := HBAD.out (.inl hfx)
      subst hk0
      clear hand
      go_wp2_with (go_at_call 12; refine (hk.out _).mono ?_; rintro e w' ⟨rfl, hb⟩)
      go_ret
      exact ⟨rfl, HEND.out _ hb⟩)

end Go.Proofs.YthmkkbihfdcbiaaGreatDoor
