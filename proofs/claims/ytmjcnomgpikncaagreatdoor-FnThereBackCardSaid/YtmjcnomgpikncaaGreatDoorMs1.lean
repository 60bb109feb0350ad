/- Sizes, weights, right values; the laws' helpers on values. No condition. -/
import Derived.Test.YtmjcnomgpikncaaGreatDoorMc
import Derived.Test.YtmjcnomgpikncaaGreatDoorMr2
import Derived.Below
import Derived.Deep.Draws
import Derived.Deep.AppendLies
import Derived.Maps.AppendAt
import Derived.OwnWalk
import Derived.Laws.BytesArg
import Derived.Laws.MakeOwn
import Derived.Laws.OwnMore
import Derived.Deep.OwnRows
import Derived.Tactics
import Derived.Lib.ConvBytes
import Derived.Laws.Slices
import Derived.WalkKit
import Derived.KernelRfl
import Derived.RowKit3
import Derived.Deep.LoopGhost
import Derived.Deep.QuietTactic
import Derived.BigQuiet
import Derived.WideLaws
import Derived.Deep.DeepCutAuto
import Derived.Deep.CutBlock
import Derived.Deep.RegionHeld3
import Derived.Laws.Rows
import Derived.Lib.AppendStr
import Derived.ArgAppend
import Derived.Laws.IdiomCopy
import Derived.OrdersHeld
import Derived.Laws.BitsLemmas
import Derived.RowKit
import Derived.Test.YtmjcnomgpikncaaGreatDoorMw1
import Derived.Test.YtmjcnomgpikncaaGreatDoorMw2
import Derived.SliceStrings
set_option linter.unusedVariables false
set_option linter.unusedSimpArgs false
namespace Go.Proofs.YtmjcnomgpikncaaGreatDoor

open Go.RowKit Go.Proofs.YtmjcnomgpikncaaGreatDoorW.PrintWords Go.Proofs.YtmjcnomgpikncaaGreatDoorW.PrintLast Go.Proofs.YtmjcnomgpikncaaGreatDoorW.PrintMore

attribute [local go_sem] max2_int min2_int max_two min_two max_three min_three max_four min_four



def laws_zzFits1.f (a0_0:Int) (a0_1:Int) (l0_2:List Int) (a0_3:Int) (a0_4:Int) (l0_5:List Int) (l0_6:List (Val)):Option (Bool):=if (l0_2.length:Int) > 2147483647 then (some false) else (if (l0_5.length:Int) > 2147483647 then (some false) else (if (l0_6.length:Int) > 2147483647 then (some false) else (some true)))

set_option maxHeartbeats 8000000 in
set_option maxRecDepth 100000 in
theorem laws_zzFits1.calls (a0_0:Int) (a0_1:Int) (A0_2:Option Addr) (c0_2:Nat) (l0_2:List Int) (a0_3:Int) (a0_4:Int) (A0_5:Option Addr) (c0_5:Nat) (l0_5:List Int) (A0_6:Option Addr) (c0_6:Nat) (l0_6:List (Val)) (r:Bool) (w:World) (hr0_2:Kd.C (Kd.int .u8) w A0_2 l0_2.length l0_2) (hc0_2:l0_2.length≤c0_2) (hr0_5:Kd.C (Kd.int .i64) w A0_5 l0_5.length l0_5) (hc0_5:l0_5.length≤c0_5) (hr0_6:Kd.C kVal w A0_6 l0_6.length l0_6) (hc0_6:l0_6.length≤c0_6) (h:laws_zzFits1.f a0_0 a0_1 l0_2 a0_3 a0_4 l0_5 l0_6=some r) :
    Calls Tryz.prog 12 #[.agg #[.int .i64 a0_0,.int .i64 a0_1,.slice A0_2 l0_2.length c0_2,.int .i64 a0_3,.int .i64 a0_4,.slice A0_5 l0_5.length c0_5,.slice A0_6 l0_6.length c0_6]] w fun e w'=>e=.returned (.bool r)∧Below w.heap.size w w':=by
  have hu28:=Tryz.underlying28
  have HR0_2:=Aside0.mk hr0_2
  have HC0_2:=Aside0.mk hc0_2
  clear hr0_2 hc0_2
  have HR0_5:=Aside0.mk hr0_5
  have HC0_5:=Aside0.mk hc0_5
  clear hr0_5 hc0_5
  have HR0_6:=Aside0.mk hr0_6
  have HC0_6:=Aside0.mk hc0_6
  clear hr0_6 hc0_6
  have HB:=Aside0.mk (Below.refl w.heap.size w)
  have H:(if (l0_2.length:Int) > 2147483647 then (some false) else (if (l0_5.length:Int) > 2147483647 then (some false) else (if (l0_6.length:Int) > 2147483647 then (some false) else (some true))))=some r:=h
  clear h
  by_cases c2:(l0_2.length:Int) > 2147483647
  · rw [if_pos c2] at H
    have c2b0:decide (2147483647 < (l0_2.length:Int))=true:=decide_eq_true c2
    have c2b1:decide (2147483647 < l0_2.length)=true:=decide_eq_true (by omega)
    clear c2
    obtain rfl:=Option.some.inj H
    go_enter Tryz.func12,Tryz.ntmps12
    go_wp2_with (first | ((with_reducible refine gate_dst (N:=1) rfl ?_);refine box_event ?hg (N:=1) ?hd (cs:=#[.int .i64 a0_0,.int .i64 a0_1,.slice A0_2 l0_2.length c0_2,.int .i64 a0_3,.int .i64 a0_4,.slice A0_5 l0_5.length c0_5,.slice A0_6 l0_6.length c0_6]) (t:=28) ?hr ?_;(case hd=>rfl);(case hg=>rfl);(case hr=>first | (go_simp;done) | (go_simp;rfl));intro gb101 hg w3 hbox hb;have n0_:=Aside0.mk (below_step (by repeat (first | (with_reducible first | exact HB.out | apply below_alloc | apply pw_below_drewN | apply below_drew1) | exact HB.out)) hb);have n1_:=Aside0.mk (hbox);have n2_:=Aside0.mk ((by rw [hg];exact (below_size (by repeat (first | (with_reducible first | exact HB.out | apply below_alloc | apply pw_below_drewN | apply below_drew1) | exact HB.out))):w.heap.size≤gb101));have n3_:=Aside0.mk ((by rw [hg];exact (below_size (by repeat (first | (with_reducible first | exact HB.out | apply below_alloc | apply pw_below_drewN | apply below_drew1) | exact HB.out))):w.heap.size≤gb101));clear HB;have HB:=n0_;have BK101:=n1_;have GW101:=n2_;have GE101:=n3_;clear n0_ n1_ n2_ n3_;clear hb hbox hg;have hcz4_0:w3.cell? ⟨gb101,0,none⟩=some (.int .i64 a0_0):=(blk_cell BK101.out 0).trans rfl;have hcz4_1:w3.cell? ⟨gb101,1,none⟩=some (.int .i64 a0_1):=(blk_cell BK101.out 1).trans rfl;have hcz4_2:w3.cell? ⟨gb101,2,none⟩=some (.slice A0_2 l0_2.length c0_2):=(blk_cell BK101.out 2).trans rfl;have hcz4_3:w3.cell? ⟨gb101,3,none⟩=some (.int .i64 a0_3):=(blk_cell BK101.out 3).trans rfl;have hcz4_4:w3.cell? ⟨gb101,4,none⟩=some (.int .i64 a0_4):=(blk_cell BK101.out 4).trans rfl;have hcz4_5:w3.cell? ⟨gb101,5,none⟩=some (.slice A0_5 l0_5.length c0_5):=(blk_cell BK101.out 5).trans rfl;have hcz4_6:w3.cell? ⟨gb101,6,none⟩=some (.slice A0_6 l0_6.length c0_6):=(blk_cell BK101.out 6).trans rfl;have hfz4_0:=blk_frozen BK101.out 0;have hfz4_1:=blk_frozen BK101.out 1;have hfz4_2:=blk_frozen BK101.out 2;have hfz4_3:=blk_frozen BK101.out 3;have hfz4_4:=blk_frozen BK101.out 4;have hfz4_5:=blk_frozen BK101.out 5;have hfz4_6:=blk_frozen BK101.out 6))
    go_ret
    exact ⟨by first | rfl | (simp [Nat.add_zero] <;> rfl) | (simp [*,Nat.add_zero] <;> rfl) | (simp [wrap64];done) | (unfold wrap64;rfl),by repeat (first | (with_reducible first | exact HB.out | apply below_alloc | apply pw_below_drewN | apply below_drew1 | refine below_set ?_ GE101.out) | exact HB.out)⟩
  · rw [if_neg c2] at H
    have c2b0:decide (2147483647 < (l0_2.length:Int))=false:=decide_eq_false c2
    have c2b1:decide (2147483647 < l0_2.length)=false:=decide_eq_false (by omega)
    clear c2
    by_cases c5:(l0_5.length:Int) > 2147483647
    · rw [if_pos c5] at H
      have c5b0:decide (2147483647 < (l0_5.length:Int))=true:=decide_eq_true c5
      have c5b1:decide (2147483647 < l0_5.length)=true:=decide_eq_true (by omega)
      clear c5
      obtain rfl:=Option.some.inj H
      go_enter Tryz.func12,Tryz.ntmps12
      go_wp2_with (first | ((with_reducible refine gate_dst (N:=1) rfl ?_);refine box_event ?hg (N:=1) ?hd (cs:=#[.int .i64 a0_0,.int .i64 a0_1,.slice A0_2 l0_2.length c0_2,.int .i64 a0_3,.int .i64 a0_4,.slice A0_5 l0_5.length c0_5,.slice A0_6 l0_6.length c0_6]) (t:=28) ?hr ?_;(case hd=>rfl);(case hg=>rfl);(case hr=>first | (go_simp;done) | (go_simp;rfl));intro gb101 hg w6 hbox hb;have n0_:=Aside0.mk (below_step (by repeat (first | (with_reducible first | exact HB.out | apply below_alloc | apply pw_below_drewN | apply below_drew1) | exact HB.out)) hb);have n1_:=Aside0.mk (hbox);have n2_:=Aside0.mk ((by rw [hg];exact (below_size (by repeat (first | (with_reducible first | exact HB.out | apply below_alloc | apply pw_below_drewN | apply below_drew1) | exact HB.out))):w.heap.size≤gb101));have n3_:=Aside0.mk ((by rw [hg];exact (below_size (by repeat (first | (with_reducible first | exact HB.out | apply below_alloc | apply pw_below_drewN | apply below_drew1) | exact HB.out))):w.heap.size≤gb101));clear HB;have HB:=n0_;have BK101:=n1_;have GW101:=n2_;have GE101:=n3_;clear n0_ n1_ n2_ n3_;clear hb hbox hg;have hcz7_0:w6.cell? ⟨gb101,0,none⟩=some (.int .i64 a0_0):=(blk_cell BK101.out 0).trans rfl;have hcz7_1:w6.cell? ⟨gb101,1,none⟩=some (.int .i64 a0_1):=(blk_cell BK101.out 1).trans rfl;have hcz7_2:w6.cell? ⟨gb101,2,none⟩=some (.slice A0_2 l0_2.length c0_2):=(blk_cell BK101.out 2).trans rfl;have hcz7_3:w6.cell? ⟨gb101,3,none⟩=some (.int .i64 a0_3):=(blk_cell BK101.out 3).trans rfl;have hcz7_4:w6.cell? ⟨gb101,4,none⟩=some (.int .i64 a0_4):=(blk_cell BK101.out 4).trans rfl;have hcz7_5:w6.cell? ⟨gb101,5,none⟩=some (.slice A0_5 l0_5.length c0_5):=(blk_cell BK101.out 5).trans rfl;have hcz7_6:w6.cell? ⟨gb101,6,none⟩=some (.slice A0_6 l0_6.length c0_6):=(blk_cell BK101.out 6).trans rfl;have hfz7_0:=blk_frozen BK101.out 0;have hfz7_1:=blk_frozen BK101.out 1;have hfz7_2:=blk_frozen BK101.out 2;have hfz7_3:=blk_frozen BK101.out 3;have hfz7_4:=blk_frozen BK101.out 4;have hfz7_5:=blk_frozen BK101.out 5;have hfz7_6:=blk_frozen BK101.out 6))
      go_ret
      exact ⟨by first | rfl | (simp [Nat.add_zero] <;> rfl) | (simp [*,Nat.add_zero] <;> rfl) | (simp [wrap64];done) | (unfold wrap64;rfl),by repeat (first | (with_reducible first | exact HB.out | apply below_alloc | apply pw_below_drewN | apply below_drew1 | refine below_set ?_ GE101.out) | exact HB.out)⟩
    · rw [if_neg c5] at H
      have c5b0:decide (2147483647 < (l0_5.length:Int))=false:=decide_eq_false c5
      have c5b1:decide (2147483647 < l0_5.length)=false:=decide_eq_false (by omega)
      clear c5
      by_cases c8:(l0_6.length:Int) > 2147483647
      · rw [if_pos c8] at H
        have c8b0:decide (2147483647 < (l0_6.length:Int))=true:=decide_eq_true c8
        have c8b1:decide (2147483647 < l0_6.length)=true:=decide_eq_true (by omega)
        clear c8
        obtain rfl:=Option.some.inj H
        go_enter Tryz.func12,Tryz.ntmps12
        go_wp2_with (first | ((with_reducible refine gate_dst (N:=1) rfl ?_);refine box_event ?hg (N:=1) ?hd (cs:=#[.int .i64 a0_0,.int .i64 a0_1,.slice A0_2 l0_2.length c0_2,.int .i64 a0_3,.int .i64 a0_4,.slice A0_5 l0_5.length c0_5,.slice A0_6 l0_6.length c0_6]) (t:=28) ?hr ?_;(case hd=>rfl);(case hg=>rfl);(case hr=>first | (go_simp;done) | (go_simp;rfl));intro gb101 hg w9 hbox hb;have n0_:=Aside0.mk (below_step (by repeat (first | (with_reducible first | exact HB.out | apply below_alloc | apply pw_below_drewN | apply below_drew1) | exact HB.out)) hb);have n1_:=Aside0.mk (hbox);have n2_:=Aside0.mk ((by rw [hg];exact (below_size (by repeat (first | (with_reducible first | exact HB.out | apply below_alloc | apply pw_below_drewN | apply below_drew1) | exact HB.out))):w.heap.size≤gb101));have n3_:=Aside0.mk ((by rw [hg];exact (below_size (by repeat (first | (with_reducible first | exact HB.out | apply below_alloc | apply pw_below_drewN | apply below_drew1) | exact HB.out))):w.heap.size≤gb101));clear HB;have HB:=n0_;have BK101:=n1_;have GW101:=n2_;have GE101:=n3_;clear n0_ n1_ n2_ n3_;clear hb hbox hg;have hcz10_0:w9.cell? ⟨gb101,0,none⟩=some (.int .i64 a0_0):=(blk_cell BK101.out 0).trans rfl;have hcz10_1:w9.cell? ⟨gb101,1,none⟩=some (.int .i64 a0_1):=(blk_cell BK101.out 1).trans rfl;have hcz10_2:w9.cell? ⟨gb101,2,none⟩=some (.slice A0_2 l0_2.length c0_2):=(blk_cell BK101.out 2).trans rfl;have hcz10_3:w9.cell? ⟨gb101,3,none⟩=some (.int .i64 a0_3):=(blk_cell BK101.out 3).trans rfl;have hcz10_4:w9.cell? ⟨gb101,4,none⟩=some (.int .i64 a0_4):=(blk_cell BK101.out 4).trans rfl;have hcz10_5:w9.cell? ⟨gb101,5,none⟩=some (.slice A0_5 l0_5.length c0_5):=(blk_cell BK101.out 5).trans rfl;have hcz10_6:w9.cell? ⟨gb101,6,none⟩=some (.slice A0_6 l0_6.length c0_6):=(blk_cell BK101.out 6).trans rfl;have hfz10_0:=blk_frozen BK101.out 0;have hfz10_1:=blk_frozen BK101.out 1;have hfz10_2:=blk_frozen BK101.out 2;have hfz10_3:=blk_frozen BK101.out 3;have hfz10_4:=blk_frozen BK101.out 4;have hfz10_5:=blk_frozen BK101.out 5;have hfz10_6:=blk_frozen BK101.out 6))
        go_ret
        exact ⟨by first | rfl | (simp [Nat.add_zero] <;> rfl) | (simp [*,Nat.add_zero] <;> rfl) | (simp [wrap64];done) | (unfold wrap64;rfl),by repeat (first | (with_reducible first | exact HB.out | apply below_alloc | apply pw_below_drewN | apply below_drew1 | refine below_set ?_ GE101.out) | exact HB.out)⟩
      · rw [if_neg c8] at H
        have c8b0:decide (2147483647 < (l0_6.length:Int))=false:=decide_eq_false c8
        have c8b1:decide (2147483647 < l0_6.length)=false:=decide_eq_false (by omega)
        clear c8
        obtain rfl:=Option.some.inj H
        go_enter Tryz.func12,Tryz.ntmps12
        go_wp2_with (first | ((with_reducible refine gate_dst (N:=1) rfl ?_);refine box_event ?hg (N:=1) ?hd (cs:=#[.int .i64 a0_0,.int .i64 a0_1,.slice A0_2 l0_2.length c0_2,.int .i64 a0_3,.int .i64 a0_4,.slice A0_5 l0_5.length c0_5,.slice A0_6 l0_6.length c0_6]) (t:=28) ?hr ?_;(case hd=>rfl);(case hg=>rfl);(case hr=>first | (go_simp;done) | (go_simp;rfl));intro gb101 hg w11 hbox hb;have n0_:=Aside0.mk (below_step (by repeat (first | (with_reducible first | exact HB.out | apply below_alloc | apply pw_below_drewN | apply below_drew1) | exact HB.out)) hb);have n1_:=Aside0.mk (hbox);have n2_:=Aside0.mk ((by rw [hg];exact (below_size (by repeat (first | (with_reducible first | exact HB.out | apply below_alloc | apply pw_below_drewN | apply below_drew1) | exact HB.out))):w.heap.size≤gb101));have n3_:=Aside0.mk ((by rw [hg];exact (below_size (by repeat (first | (with_reducible first | exact HB.out | apply below_alloc | apply pw_below_drewN | apply below_drew1) | exact HB.out))):w.heap.size≤gb101));clear HB;have HB:=n0_;have BK101:=n1_;have GW101:=n2_;have GE101:=n3_;clear n0_ n1_ n2_ n3_;clear hb hbox hg;have hcz12_0:w11.cell? ⟨gb101,0,none⟩=some (.int .i64 a0_0):=(blk_cell BK101.out 0).trans rfl;have hcz12_1:w11.cell? ⟨gb101,1,none⟩=some (.int .i64 a0_1):=(blk_cell BK101.out 1).trans rfl;have hcz12_2:w11.cell? ⟨gb101,2,none⟩=some (.slice A0_2 l0_2.length c0_2):=(blk_cell BK101.out 2).trans rfl;have hcz12_3:w11.cell? ⟨gb101,3,none⟩=some (.int .i64 a0_3):=(blk_cell BK101.out 3).trans rfl;have hcz12_4:w11.cell? ⟨gb101,4,none⟩=some (.int .i64 a0_4):=(blk_cell BK101.out 4).trans rfl;have hcz12_5:w11.cell? ⟨gb101,5,none⟩=some (.slice A0_5 l0_5.length c0_5):=(blk_cell BK101.out 5).trans rfl;have hcz12_6:w11.cell? ⟨gb101,6,none⟩=some (.slice A0_6 l0_6.length c0_6):=(blk_cell BK101.out 6).trans rfl;have hfz12_0:=blk_frozen BK101.out 0;have hfz12_1:=blk_frozen BK101.out 1;have hfz12_2:=blk_frozen BK101.out 2;have hfz12_3:=blk_frozen BK101.out 3;have hfz12_4:=blk_frozen BK101.out 4;have hfz12_5:=blk_frozen BK101.out 5;have hfz12_6:=blk_frozen BK101.out 6))
        go_ret
        exact ⟨by first | rfl | (simp [Nat.add_zero] <;> rfl) | (simp [*,Nat.add_zero] <;> rfl) | (simp [wrap64];done) | (unfold wrap64;rfl),by repeat (first | (with_reducible first | exact HB.out | apply below_alloc | apply pw_below_drewN | apply below_drew1 | refine below_set ?_ GE101.out) | exact HB.out)⟩

mutual
def laws_weigh.l0:Nat→Int→Int→Int→Int→List Int→Int→Int→List Int→List (Val)→Option (Int)
  | 0,_,_,_,_,_,_,_,_,_=>none
  | k+1,x1,x5,x103000,x103001,x103002,x103003,x103004,x103005,x103006=>if x5 < (x103006.length:Int) then (if x1≤65536 then (if 0≤x5 then ((laws_weigh.f k ((rd_Val x103006 x5).f0) ((rd_Val x103006 x5).f1) ((rd_Val x103006 x5).f2) ((rd_Val x103006 x5).f3) ((rd_Val x103006 x5).f4) ((rd_Val x103006 x5).f5) ((rd_Val x103006 x5).f6) (wrap64 (x1+8))).bind fun t104=>(laws_weigh.l0 k t104 (wrap64 (x5+1)) x103000 x103001 x103002 x103003 x103004 x103005 x103006)) else (none)) else (some x1)) else (some x1)
def laws_weigh.f:Nat→Int→Int→List Int→Int→Int→List Int→List (Val)→Int→Option (Int)
  | 0,_,_,_,_,_,_,_,_=>none
  | k+1,a0_0,a0_1,l0_2,a0_3,a0_4,l0_5,l0_6,a1=>laws_weigh.l0 k (wrap64 (a1+((1+(mn (l0_2.length:Int) 65537))+(mn (l0_5.length:Int) 65537)))) 0 a0_0 a0_1 l0_2 a0_3 a0_4 l0_5 l0_6
end

theorem laws_weigh.mono_l:∀ k,(∀ y0 y1 y2 y3 y4 y5 y6 y7,LeO (laws_weigh.f k y0 y1 y2 y3 y4 y5 y6 y7) (laws_weigh.f (k+1) y0 y1 y2 y3 y4 y5 y6 y7))∧(∀ y0 y1 y2 y3 y4 y5 y6 y7 y8,LeO (laws_weigh.l0 k y0 y1 y2 y3 y4 y5 y6 y7 y8) (laws_weigh.l0 (k+1) y0 y1 y2 y3 y4 y5 y6 y7 y8))
  | 0=>⟨fun _ _ _ _ _ _ _ _ r h=>by simp [laws_weigh.f] at h,fun _ _ _ _ _ _ _ _ _ r h=>by simp [laws_weigh.l0] at h⟩
  | k+1=>by
    obtain ⟨ih0,ih1⟩:=laws_weigh.mono_l k
    refine ⟨?_,?_⟩
    · intro y0 y1 y2 y3 y4 y5 y6 y7
      unfold laws_weigh.f
      repeat' first
      | (with_reducible exact ih0 _ _ _ _ _ _ _ _)
      | (with_reducible exact ih1 _ _ _ _ _ _ _ _ _)
      | (with_reducible exact LeO.refl _)
      | (with_reducible exact LeO.none _)
      | (with_reducible refine LeO.ite ?_ ?_)
      | (with_reducible refine LeO.bind ?_ (fun _=>?_))
      | exact ih0 _ _ _ _ _ _ _ _
      | exact ih1 _ _ _ _ _ _ _ _ _
      | exact LeO.none _
      | refine LeO.ite ?_ ?_
      | refine LeO.bind ?_ (fun _=>?_)
    · intro y0 y1 y2 y3 y4 y5 y6 y7 y8
      unfold laws_weigh.l0
      repeat' first
      | (with_reducible exact ih0 _ _ _ _ _ _ _ _)
      | (with_reducible exact ih1 _ _ _ _ _ _ _ _ _)
      | (with_reducible exact LeO.refl _)
      | (with_reducible exact LeO.none _)
      | (with_reducible refine LeO.ite ?_ ?_)
      | (with_reducible refine LeO.bind ?_ (fun _=>?_))
      | exact ih0 _ _ _ _ _ _ _ _
      | exact ih1 _ _ _ _ _ _ _ _ _
      | exact LeO.none _
      | refine LeO.ite ?_ ?_
      | refine LeO.bind ?_ (fun _=>?_)

theorem laws_weigh.mono:∀ a0 a1 a2 a3 a4 a5 a6 a7 k,LeO (laws_weigh.f k a0 a1 a2 a3 a4 a5 a6 a7) (laws_weigh.f (k+1) a0 a1 a2 a3 a4 a5 a6 a7):=by
  intro a0 a1 a2 a3 a4 a5 a6 a7 k
  obtain ⟨ih0,ih1⟩:=laws_weigh.mono_l k
  exact ih0 a0 a1 a2 a3 a4 a5 a6 a7

set_option maxHeartbeats 8000000 in
set_option maxRecDepth 100000 in
theorem laws_weigh.calls (k:Nat):∀ (a0_0:Int) (a0_1:Int) (A0_2:Option Addr) (c0_2:Nat) (l0_2:List Int) (a0_3:Int) (a0_4:Int) (A0_5:Option Addr) (c0_5:Nat) (l0_5:List Int) (A0_6:Option Addr) (c0_6:Nat) (l0_6:List (Val)) (a1:Int) (r:Int) (w:World) (hr0_2:Kd.C (Kd.int .u8) w A0_2 l0_2.length l0_2) (hc0_2:l0_2.length≤c0_2) (hr0_5:Kd.C (Kd.int .i64) w A0_5 l0_5.length l0_5) (hc0_5:l0_5.length≤c0_5) (hr0_6:Kd.C kVal w A0_6 l0_6.length l0_6) (hc0_6:l0_6.length≤c0_6) (h:laws_weigh.f k a0_0 a0_1 l0_2 a0_3 a0_4 l0_5 l0_6 a1=some r),
 Calls Tryz.prog 42 #[.agg #[.int .i64 a0_0,.int .i64 a0_1,.slice A0_2 l0_2.length c0_2,.int .i64 a0_3,.int .i64 a0_4,.slice A0_5 l0_5.length c0_5,.slice A0_6 l0_6.length c0_6],.int .i64 a1] w fun e w'=>e=.returned (.int .i64 r)∧Below w.heap.size w w':=by
 induction k using Nat.strongRecOn with
 | _ k ih =>
 intro a0_0 a0_1 A0_2 c0_2 l0_2 a0_3 a0_4 A0_5 c0_5 l0_5 A0_6 c0_6 l0_6 a1 r w hr0_2 hc0_2 hr0_5 hc0_5 hr0_6 hc0_6 h
 cases k with
 | zero=>exact absurd h (by simp [laws_weigh.f])
 | succ k =>
 simp only [laws_weigh.f] at h
 have hu28:=Tryz.underlying28
 have HR0_2:=Aside0.mk hr0_2
 have HC0_2:=Aside0.mk hc0_2
 clear hr0_2 hc0_2
 have HR0_5:=Aside0.mk hr0_5
 have HC0_5:=Aside0.mk hc0_5
 clear hr0_5 hc0_5
 have HR0_6:=Aside0.mk hr0_6
 have HC0_6:=Aside0.mk hc0_6
 clear hr0_6 hc0_6
 have HB:=Aside0.mk (Below.refl w.heap.size w)
 have H:(laws_weigh.l0 k (wrap64 (a1+((1+(mn (l0_2.length:Int) 65537))+(mn (l0_5.length:Int) 65537)))) 0 a0_0 a0_1 l0_2 a0_3 a0_4 l0_5 l0_6)=some r:=h
 clear h
 obtain ⟨ji3,hji3⟩:∃ j_:Int,(mn (l0_2.length:Int) 65537)=j_:=⟨_,rfl⟩
 replace H:(laws_weigh.l0 k (wrap64 (a1+((1+(ji3))+(mn (l0_5.length:Int) 65537)))) 0 a0_0 a0_1 l0_2 a0_3 a0_4 l0_5 l0_6)=some r:=by first | (rw [hji3] at H;exact H) | (simp only [hji3] at H ⊢;exact H)
 (try (have hji3h:ji3≤65537:=by (rw [← hji3];unfold mn;(repeat' split) <;> omega)))
 (try (have hji3g:ji3≤64:=by omega))
 (try (have hji3l:0≤ji3:=by (rw [← hji3];unfold mn;(repeat' split) <;> omega)))
 (try (have hji3m:0≤ji3:=by omega))
 have hji3_:(if 65537 < (l0_2.length:Int) then 65537 else (l0_2.length:Int))=ji3:=hji3
 obtain ⟨ji4,hji4⟩:∃ j_:Int,(mn (l0_5.length:Int) 65537)=j_:=⟨_,rfl⟩
 replace H:(laws_weigh.l0 k (wrap64 (a1+((1+(ji3))+(ji4)))) 0 a0_0 a0_1 l0_2 a0_3 a0_4 l0_5 l0_6)=some r:=by first | (rw [hji4] at H;exact H) | (simp only [hji4] at H ⊢;exact H)
 (try (have hji4h:ji4≤65537:=by (rw [← hji4];unfold mn;(repeat' split) <;> omega)))
 (try (have hji4g:ji4≤64:=by omega))
 (try (have hji4l:0≤ji4:=by (rw [← hji4];unfold mn;(repeat' split) <;> omega)))
 (try (have hji4m:0≤ji4:=by omega))
 have hji4_:(if 65537 < (l0_5.length:Int) then 65537 else (l0_5.length:Int))=ji4:=hji4
 have H':=Aside0.mk H
 clear H
 go_enter Tryz.func42,Tryz.ntmps42
 go_wp2_with (first | ((with_reducible refine gate_dst (N:=2) rfl ?_);refine box_event ?hg (N:=2) ?hd (cs:=#[.int .i64 a0_0,.int .i64 a0_1,.slice A0_2 l0_2.length c0_2,.int .i64 a0_3,.int .i64 a0_4,.slice A0_5 l0_5.length c0_5,.slice A0_6 l0_6.length c0_6]) (t:=28) ?hr ?_;(case hd=>rfl);(case hg=>rfl);(case hr=>first | (go_simp;done) | (go_simp;rfl));intro gb102 hg w5 hbox hb;have n0_:=Aside0.mk (below_step (by repeat (first | (with_reducible first | exact HB.out | apply below_alloc | apply pw_below_drewN | apply below_drew1) | exact HB.out)) hb);have n1_:=Aside0.mk (hbox);have n2_:=Aside0.mk ((by rw [hg];exact (below_size (by repeat (first | (with_reducible first | exact HB.out | apply below_alloc | apply pw_below_drewN | apply below_drew1) | exact HB.out))):w.heap.size≤gb102));have n3_:=Aside0.mk ((by rw [hg];exact (below_size (by repeat (first | (with_reducible first | exact HB.out | apply below_alloc | apply pw_below_drewN | apply below_drew1) | exact HB.out))):w.heap.size≤gb102));clear HB;have HB:=n0_;have BK102:=n1_;have GW102:=n2_;have GE102:=n3_;clear n0_ n1_ n2_ n3_;clear hb hbox hg;have hcz6_0:w5.cell? ⟨gb102,0,none⟩=some (.int .i64 a0_0):=(blk_cell BK102.out 0).trans rfl;have hcz6_1:w5.cell? ⟨gb102,1,none⟩=some (.int .i64 a0_1):=(blk_cell BK102.out 1).trans rfl;have hcz6_2:w5.cell? ⟨gb102,2,none⟩=some (.slice A0_2 l0_2.length c0_2):=(blk_cell BK102.out 2).trans rfl;have hcz6_3:w5.cell? ⟨gb102,3,none⟩=some (.int .i64 a0_3):=(blk_cell BK102.out 3).trans rfl;have hcz6_4:w5.cell? ⟨gb102,4,none⟩=some (.int .i64 a0_4):=(blk_cell BK102.out 4).trans rfl;have hcz6_5:w5.cell? ⟨gb102,5,none⟩=some (.slice A0_5 l0_5.length c0_5):=(blk_cell BK102.out 5).trans rfl;have hcz6_6:w5.cell? ⟨gb102,6,none⟩=some (.slice A0_6 l0_6.length c0_6):=(blk_cell BK102.out 6).trans rfl;have hfz6_0:=blk_frozen BK102.out 0;have hfz6_1:=blk_frozen BK102.out 1;have hfz6_2:=blk_frozen BK102.out 2;have hfz6_3:=blk_frozen BK102.out 3;have hfz6_4:=blk_frozen BK102.out 4;have hfz6_5:=blk_frozen BK102.out 5;have hfz6_6:=blk_frozen BK102.out 6))
 go_loopg [1,5] k (fun kq v1 v5 w'=>∃ (x1_1:Int) (x5_1:Int),v1=.int .i64 x1_1∧v5=.int .i64 x5_1∧Aside0 (laws_weigh.l0 kq x1_1 x5_1 a0_0 a0_1 l0_2 a0_3 a0_4 l0_5 l0_6=some r)∧Aside0 (kq≤k)∧Aside0 (w'.heap[gb102]?=some (.cells #[.int .i64 a0_0,.int .i64 a0_1,(.slice A0_2 l0_2.length c0_2),.int .i64 a0_3,.int .i64 a0_4,(.slice A0_5 l0_5.length c0_5),(.slice A0_6 l0_6.length c0_6)] 28 (0,0)))∧Aside0 (Below w.heap.size w w'))
 case atStart=>exact ⟨(wrap64 (a1+((1+(ji3))+(ji4)))),(0),(by first | rfl | (simp;done) | (simp only [← hji3,← hji4] <;> (first | rfl | simp)) | (simp [*];done)),(by first | rfl | (simp;done) | (simp [*];done)),H',⟨Nat.le_refl _⟩,⟨by (with_reducible repeat (first | refine blk_drewN ?_ _ | refine blk_drew ?_ | refine blk_alloc ?_ _));exact BK102.out⟩,⟨by repeat (first | (with_reducible first | exact HB.out | apply below_alloc | apply pw_below_drewN | apply below_drew1 | refine below_set ?_ GE102.out) | exact HB.out)⟩⟩
 case round =>
  clear H'
  try clear p2
  try clear c4
  try clear p6
  try clear hcz6_0
  try clear hcz6_1
  try clear hcz6_2
  try clear hcz6_3
  try clear hcz6_4
  try clear hcz6_5
  try clear hcz6_6
  try clear hfz6_0
  try clear hfz6_1
  try clear hfz6_2
  try clear hfz6_3
  try clear hfz6_4
  try clear hfz6_5
  try clear hfz6_6
  obtain ⟨x1_1,x5_1,rfl,rfl,HA,HK1,BK102,HB⟩:=hrel
  cases gk with
  | zero=>exact absurd HA.out (by simp [laws_weigh.l0])
  | succ k1 =>
   have H:=HA.out
   clear HA
   simp only [laws_weigh.l0] at H
   by_cases c7:x5_1 < (l0_6.length:Int)
   · rw [if_pos c7] at H
     have c7b0:decide (x5_1 < (l0_6.length:Int))=true:=decide_eq_true c7
     clear c7
     by_cases c8:x1_1≤65536
     · rw [if_pos c8] at H
       have c8b0:decide (x1_1≤65536)=true:=decide_eq_true c8
       clear c8
       by_cases c9:0≤x5_1
       · rw [if_pos c9] at H
         have c9b0:decide (0≤x5_1)=true:=decide_eq_true c9
         clear c9
         replace H:=Option.bind_eq_some_iff.mp H
         obtain ⟨t104,A100,H⟩:=H
         replace H:(laws_weigh.l0 k1 t104 (wrap64 (x5_1+1)) a0_0 a0_1 l0_2 a0_3 a0_4 l0_5 l0_6)=some r:=H
         have A10:=Aside0.mk A100
         clear A100
         have H':=Aside0.mk H
         clear H
         have hcz11_0:wr.cell? ⟨gb102,0,none⟩=some (.int .i64 a0_0):=(blk_cell BK102.out 0).trans rfl
         have hcz11_1:wr.cell? ⟨gb102,1,none⟩=some (.int .i64 a0_1):=(blk_cell BK102.out 1).trans rfl
         have hcz11_2:wr.cell? ⟨gb102,2,none⟩=some (.slice A0_2 l0_2.length c0_2):=(blk_cell BK102.out 2).trans rfl
         have hcz11_3:wr.cell? ⟨gb102,3,none⟩=some (.int .i64 a0_3):=(blk_cell BK102.out 3).trans rfl
         have hcz11_4:wr.cell? ⟨gb102,4,none⟩=some (.int .i64 a0_4):=(blk_cell BK102.out 4).trans rfl
         have hcz11_5:wr.cell? ⟨gb102,5,none⟩=some (.slice A0_5 l0_5.length c0_5):=(blk_cell BK102.out 5).trans rfl
         have hcz11_6:wr.cell? ⟨gb102,6,none⟩=some (.slice A0_6 l0_6.length c0_6):=(blk_cell BK102.out 6).trans rfl
         have hfz11_0:=blk_frozen BK102.out 0
         have hfz11_1:=blk_frozen BK102.out 1
         have hfz11_2:=blk_frozen BK102.out 2
         have hfz11_3:=blk_frozen BK102.out 3
         have hfz11_4:=blk_frozen BK102.out 4
         have hfz11_5:=blk_frozen BK102.out 5
         have hfz11_6:=blk_frozen BK102.out 6
         have p103:0≤(x5_1:Int):=of_decide_eq_true (by first | (with_reducible assumption) | assumption)
         have q103:x5_1 < (l0_6.length:Int):=of_decide_eq_true (by first | (with_reducible assumption) | assumption)
         obtain ⟨ad103,A103_2,c103_2,A103_5,c103_5,A103_6,c103_6,e103,hx103_0,hx103_1,hx103_2,hx103_3,hx103_4,hx103_5,hx103_6,hl103_2,hi103_2,hl103_5,hi103_5,hl103_6,hi103_6⟩:=at_Val HR0_6.out x5_1 p103 q103
         cases e103
         replace hx103_0:=(HB.out.cell (World.block_lt_of_cell? w _ hx103_0)).trans hx103_0
         replace hx103_1:=(HB.out.cell (World.block_lt_of_cell? w _ hx103_1)).trans hx103_1
         replace hx103_2:=(HB.out.cell (World.block_lt_of_cell? w _ hx103_2)).trans hx103_2
         replace hx103_3:=(HB.out.cell (World.block_lt_of_cell? w _ hx103_3)).trans hx103_3
         replace hx103_4:=(HB.out.cell (World.block_lt_of_cell? w _ hx103_4)).trans hx103_4
         replace hx103_5:=(HB.out.cell (World.block_lt_of_cell? w _ hx103_5)).trans hx103_5
         replace hx103_6:=(HB.out.cell (World.block_lt_of_cell? w _ hx103_6)).trans hx103_6
         have HR103_2:=Aside0.mk hi103_2
         have HC103_2:=Aside0.mk hl103_2
         clear hi103_2 hl103_2
         have HR103_5:=Aside0.mk hi103_5
         have HC103_5:=Aside0.mk hl103_5
         clear hi103_5 hl103_5
         have HR103_6:=Aside0.mk hi103_6
         have HC103_6:=Aside0.mk hl103_6
         clear hi103_6 hl103_6
         replace p103:=eq_true p103
         replace q103:=eq_true q103
         go_wp2_with (first | ((with_reducible refine gate_callee (f:=42) rfl ?_);refine goesL_ (some 36) rfl rfl Tryz.func42 (by kernel_rfl) rfl #[.agg #[.int .i64 ((rd_Val l0_6 x5_1).f0),.int .i64 ((rd_Val l0_6 x5_1).f1),.slice A103_2 ((rd_Val l0_6 x5_1).f2).length c103_2,.int .i64 ((rd_Val l0_6 x5_1).f3),.int .i64 ((rd_Val l0_6 x5_1).f4),.slice A103_5 ((rd_Val l0_6 x5_1).f5).length c103_5,.slice A103_6 ((rd_Val l0_6 x5_1).f6).length c103_6],.int .i64 (wrap64 (x1_1+8))] rfl (by (try simp only [List.map_toArray,List.map_cons,List.map_nil]);first | done | rfl | (simp only [List.length_drop,List.length_take];rfl)) ?_;(with_reducible refine (ih k1 (by have:=HK1.out;omega) ((rd_Val l0_6 x5_1).f0) ((rd_Val l0_6 x5_1).f1) _ _ ((rd_Val l0_6 x5_1).f2) ((rd_Val l0_6 x5_1).f3) ((rd_Val l0_6 x5_1).f4) _ _ ((rd_Val l0_6 x5_1).f5) _ _ ((rd_Val l0_6 x5_1).f6) (wrap64 (x1_1+8)) t104 _ ?side1 ?side2 ?side3 ?side4 ?side5 ?side6 A10.out).mono ?_);(case side1=>repeat (first | exact (Kd.C_below HR103_2.out HB.out) | (with_reducible refine Kd.C_alloc ?_ _) | (with_reducible refine Kd.C_drewN ?_ _) | (with_reducible refine Kd.C_drew ?_)));(case side2=>exact HC103_2.out);(case side3=>repeat (first | exact (Kd.C_below HR103_5.out HB.out) | (with_reducible refine Kd.C_alloc ?_ _) | (with_reducible refine Kd.C_drewN ?_ _) | (with_reducible refine Kd.C_drew ?_)));(case side4=>exact HC103_5.out);(case side5=>repeat (first | exact (Kd.C_below HR103_6.out HB.out) | (with_reducible refine Kd.C_alloc ?_ _) | (with_reducible refine Kd.C_drewN ?_ _) | (with_reducible refine Kd.C_drew ?_)));(case side6=>exact HC103_6.out);rintro e w12 ⟨rfl,hb⟩;refine ⟨_,rfl,?_⟩;have n0_:=Aside0.mk (blk_below (g:=gb102) (o:=.cells #[.int .i64 a0_0,.int .i64 a0_1,.slice A0_2 l0_2.length c0_2,.int .i64 a0_3,.int .i64 a0_4,.slice A0_5 l0_5.length c0_5,.slice (some ad103) l0_6.length c0_6] 28 (0,0)) (by (with_reducible repeat (first | refine blk_drewN ?_ _ | refine blk_drew ?_ | refine blk_alloc ?_ _));exact BK102.out) hb);have n1_:=Aside0.mk (below_step (by repeat (first | (with_reducible first | exact HB.out | apply below_alloc | apply pw_below_drewN | apply below_drew1 | refine below_set ?_ GE102.out) | exact HB.out)) hb);clear BK102;clear HB;have BK102:=n0_;have HB:=n1_;clear n0_ n1_;(try clear hb);(try clear hb2);(try clear hk);(try clear hi)))
         go_roundg k1
         case measure=>have:=HK1.out;omega
         case rel=>exact ⟨(t104),(wrap64 (x5_1+1)),(by first | rfl | (simp;done) | (simp [*];done)),(by first | rfl | (simp;done) | (simp [*];done)),H',⟨by have:=HK1.out;omega⟩,⟨by (with_reducible repeat (first | refine blk_drewN ?_ _ | refine blk_drew ?_ | refine blk_alloc ?_ _));exact BK102.out⟩,⟨by repeat (first | (with_reducible first | exact HB.out | apply below_alloc | apply pw_below_drewN | apply below_drew1 | refine below_set ?_ GE102.out) | exact HB.out)⟩⟩
       · rw [if_neg c9] at H
         exact absurd H (by simp)
     · rw [if_neg c8] at H
       have c8b0:decide (x1_1≤65536)=false:=decide_eq_false c8
       clear c8
       obtain rfl:=Option.some.inj H
       have hcz13_0:wr.cell? ⟨gb102,0,none⟩=some (.int .i64 a0_0):=(blk_cell BK102.out 0).trans rfl
       have hcz13_1:wr.cell? ⟨gb102,1,none⟩=some (.int .i64 a0_1):=(blk_cell BK102.out 1).trans rfl
       have hcz13_2:wr.cell? ⟨gb102,2,none⟩=some (.slice A0_2 l0_2.length c0_2):=(blk_cell BK102.out 2).trans rfl
       have hcz13_3:wr.cell? ⟨gb102,3,none⟩=some (.int .i64 a0_3):=(blk_cell BK102.out 3).trans rfl
       have hcz13_4:wr.cell? ⟨gb102,4,none⟩=some (.int .i64 a0_4):=(blk_cell BK102.out 4).trans rfl
       have hcz13_5:wr.cell? ⟨gb102,5,none⟩=some (.slice A0_5 l0_5.length c0_5):=(blk_cell BK102.out 5).trans rfl
       have hcz13_6:wr.cell? ⟨gb102,6,none⟩=some (.slice A0_6 l0_6.length c0_6):=(blk_cell BK102.out 6).trans rfl
       have hfz13_0:=blk_frozen BK102.out 0
       have hfz13_1:=blk_frozen BK102.out 1
       have hfz13_2:=blk_frozen BK102.out 2
       have hfz13_3:=blk_frozen BK102.out 3
       have hfz13_4:=blk_frozen BK102.out 4
       have hfz13_5:=blk_frozen BK102.out 5
       have hfz13_6:=blk_frozen BK102.out 6
       go_wp2
       go_ret
       exact ⟨by first | rfl | (simp [Nat.add_zero] <;> rfl) | (simp only [← hji3,← hji4];first | rfl | (simp [Nat.add_zero] <;> rfl)) | (simp [*,Nat.add_zero] <;> rfl) | (simp [wrap64];done) | (unfold wrap64;rfl),by repeat (first | (with_reducible first | exact HB.out | apply below_alloc | apply pw_below_drewN | apply below_drew1 | refine below_set ?_ GE102.out) | exact HB.out)⟩
   · rw [if_neg c7] at H
     have c7b0:decide (x5_1 < (l0_6.length:Int))=false:=decide_eq_false c7
     clear c7
     obtain rfl:=Option.some.inj H
     have hcz14_0:wr.cell? ⟨gb102,0,none⟩=some (.int .i64 a0_0):=(blk_cell BK102.out 0).trans rfl
     have hcz14_1:wr.cell? ⟨gb102,1,none⟩=some (.int .i64 a0_1):=(blk_cell BK102.out 1).trans rfl
     have hcz14_2:wr.cell? ⟨gb102,2,none⟩=some (.slice A0_2 l0_2.length c0_2):=(blk_cell BK102.out 2).trans rfl
     have hcz14_3:wr.cell? ⟨gb102,3,none⟩=some (.int .i64 a0_3):=(blk_cell BK102.out 3).trans rfl
     have hcz14_4:wr.cell? ⟨gb102,4,none⟩=some (.int .i64 a0_4):=(blk_cell BK102.out 4).trans rfl
     have hcz14_5:wr.cell? ⟨gb102,5,none⟩=some (.slice A0_5 l0_5.length c0_5):=(blk_cell BK102.out 5).trans rfl
     have hcz14_6:wr.cell? ⟨gb102,6,none⟩=some (.slice A0_6 l0_6.length c0_6):=(blk_cell BK102.out 6).trans rfl
     have hfz14_0:=blk_frozen BK102.out 0
     have hfz14_1:=blk_frozen BK102.out 1
     have hfz14_2:=blk_frozen BK102.out 2
     have hfz14_3:=blk_frozen BK102.out 3
     have hfz14_4:=blk_frozen BK102.out 4
     have hfz14_5:=blk_frozen BK102.out 5
     have hfz14_6:=blk_frozen BK102.out 6
     go_wp2
     go_ret
     exact ⟨by first | rfl | (simp [Nat.add_zero] <;> rfl) | (simp only [← hji3,← hji4];first | rfl | (simp [Nat.add_zero] <;> rfl)) | (simp [*,Nat.add_zero] <;> rfl) | (simp [wrap64];done) | (unfold wrap64;rfl),by repeat (first | (with_reducible first | exact HB.out | apply below_alloc | apply pw_below_drewN | apply below_drew1 | refine below_set ?_ GE102.out) | exact HB.out)⟩

def laws_isHeavy.l0:Nat→List (Val)→Int→Int→Option (Bool)
  | 0,_,_,_=>none
  | k+1,x0,x3,x4=>if x4 < (x0.length:Int) then (if x3≤65536 then (if 0≤x4 then ((laws_weigh.f k ((rd_Val x0 x4).f0) ((rd_Val x0 x4).f1) ((rd_Val x0 x4).f2) ((rd_Val x0 x4).f3) ((rd_Val x0 x4).f4) ((rd_Val x0 x4).f5) ((rd_Val x0 x4).f6) x3).bind fun t106=>(laws_isHeavy.l0 k x0 t106 (wrap64 (x4+1)))) else (none)) else (some (decide (x3 > 65536)))) else (some (decide (x3 > 65536)))

def laws_isHeavy.f (k:Nat) (l0:List (Val)):Option (Bool):=laws_isHeavy.l0 k l0 0 0

set_option maxHeartbeats 8000000 in
set_option maxRecDepth 100000 in
theorem laws_isHeavy.calls (k:Nat) (A0:Option Addr) (c0:Nat) (l0:List (Val)) (r:Bool) (w:World) (hr0:Kd.C kVal w A0 l0.length l0) (hc0:l0.length≤c0) (h:laws_isHeavy.f k l0=some r) :
 Calls Tryz.prog 13 #[.slice A0 l0.length c0] w fun e w'=>e=.returned (.bool r)∧Below w.heap.size w w':=by
 have hu28:=Tryz.underlying28
 have HR0:=Aside0.mk hr0
 have HC0:=Aside0.mk hc0
 clear hr0 hc0
 have HB:=Aside0.mk (Below.refl w.heap.size w)
 have H:(laws_isHeavy.l0 k l0 0 0)=some r:=h
 clear h
 have H':=Aside0.mk H
 clear H
 go_enter Tryz.func13,Tryz.ntmps13
 go_wp2
 go_loopg [3,4] k (fun kq v3 v4 w'=>∃ (x3_1:Int) (x4_1:Int),v3=.int .i64 x3_1∧v4=.int .i64 x4_1∧Aside0 (laws_isHeavy.l0 kq l0 x3_1 x4_1=some r)∧Aside0 (kq≤k)∧Aside0 (Below w.heap.size w w'))
 case atStart=>exact ⟨(0),(0),(by first | rfl | (simp;done) | (simp [*];done)),(by first | rfl | (simp;done) | (simp [*];done)),H',⟨Nat.le_refl _⟩,⟨by repeat (first | (with_reducible first | exact HB.out | apply below_alloc | apply pw_below_drewN | apply below_drew1) | exact HB.out)⟩⟩
 case round =>
  clear H'
  try clear c1
  obtain ⟨x3_1,x4_1,rfl,rfl,HA,HK1,HB⟩:=hrel
  cases gk with
  | zero=>exact absurd HA.out (by simp [laws_isHeavy.l0])
  | succ k1 =>
   have H:=HA.out
   clear HA
   simp only [laws_isHeavy.l0] at H
   by_cases c2:x4_1 < (l0.length:Int)
   · rw [if_pos c2] at H
     have c2b0:decide (x4_1 < (l0.length:Int))=true:=decide_eq_true c2
     clear c2
     by_cases c3:x3_1≤65536
     · rw [if_pos c3] at H
       have c3b0:decide (x3_1≤65536)=true:=decide_eq_true c3
       clear c3
       by_cases c4:0≤x4_1
       · rw [if_pos c4] at H
         have c4b0:decide (0≤x4_1)=true:=decide_eq_true c4
         clear c4
         replace H:=Option.bind_eq_some_iff.mp H
         obtain ⟨t106,A50,H⟩:=H
         replace H:(laws_isHeavy.l0 k1 l0 t106 (wrap64 (x4_1+1)))=some r:=H
         have A5:=Aside0.mk A50
         clear A50
         have H':=Aside0.mk H
         clear H
         have p105:0≤(x4_1:Int):=of_decide_eq_true (by first | (with_reducible assumption) | assumption)
         have q105:x4_1 < (l0.length:Int):=of_decide_eq_true (by first | (with_reducible assumption) | assumption)
         obtain ⟨ad105,A105_2,c105_2,A105_5,c105_5,A105_6,c105_6,e105,hx105_0,hx105_1,hx105_2,hx105_3,hx105_4,hx105_5,hx105_6,hl105_2,hi105_2,hl105_5,hi105_5,hl105_6,hi105_6⟩:=at_Val HR0.out x4_1 p105 q105
         cases e105
         replace hx105_0:=(HB.out.cell (World.block_lt_of_cell? w _ hx105_0)).trans hx105_0
         replace hx105_1:=(HB.out.cell (World.block_lt_of_cell? w _ hx105_1)).trans hx105_1
         replace hx105_2:=(HB.out.cell (World.block_lt_of_cell? w _ hx105_2)).trans hx105_2
         replace hx105_3:=(HB.out.cell (World.block_lt_of_cell? w _ hx105_3)).trans hx105_3
         replace hx105_4:=(HB.out.cell (World.block_lt_of_cell? w _ hx105_4)).trans hx105_4
         replace hx105_5:=(HB.out.cell (World.block_lt_of_cell? w _ hx105_5)).trans hx105_5
         replace hx105_6:=(HB.out.cell (World.block_lt_of_cell? w _ hx105_6)).trans hx105_6
         have HR105_2:=Aside0.mk hi105_2
         have HC105_2:=Aside0.mk hl105_2
         clear hi105_2 hl105_2
         have HR105_5:=Aside0.mk hi105_5
         have HC105_5:=Aside0.mk hl105_5
         clear hi105_5 hl105_5
         have HR105_6:=Aside0.mk hi105_6
         have HC105_6:=Aside0.mk hl105_6
         clear hi105_6 hl105_6
         replace p105:=eq_true p105
         replace q105:=eq_true q105
         go_wp2_with (first | ((with_reducible refine gate_callee (f:=42) rfl ?_);refine goesL_ (some 20) rfl rfl Tryz.func42 (by kernel_rfl) rfl #[.agg #[.int .i64 ((rd_Val l0 x4_1).f0),.int .i64 ((rd_Val l0 x4_1).f1),.slice A105_2 ((rd_Val l0 x4_1).f2).length c105_2,.int .i64 ((rd_Val l0 x4_1).f3),.int .i64 ((rd_Val l0 x4_1).f4),.slice A105_5 ((rd_Val l0 x4_1).f5).length c105_5,.slice A105_6 ((rd_Val l0 x4_1).f6).length c105_6],.int .i64 x3_1] rfl (by (try simp only [List.map_toArray,List.map_cons,List.map_nil]);first | done | rfl | (simp only [List.length_drop,List.length_take];rfl)) ?_;(with_reducible refine (laws_weigh.calls k1 ((rd_Val l0 x4_1).f0) ((rd_Val l0 x4_1).f1) _ _ ((rd_Val l0 x4_1).f2) ((rd_Val l0 x4_1).f3) ((rd_Val l0 x4_1).f4) _ _ ((rd_Val l0 x4_1).f5) _ _ ((rd_Val l0 x4_1).f6) x3_1 t106 _ ?side1 ?side2 ?side3 ?side4 ?side5 ?side6 A5.out).mono ?_);(case side1=>repeat (first | exact (Kd.C_below HR105_2.out HB.out) | (with_reducible refine Kd.C_alloc ?_ _) | (with_reducible refine Kd.C_drewN ?_ _) | (with_reducible refine Kd.C_drew ?_)));(case side2=>exact HC105_2.out);(case side3=>repeat (first | exact (Kd.C_below HR105_5.out HB.out) | (with_reducible refine Kd.C_alloc ?_ _) | (with_reducible refine Kd.C_drewN ?_ _) | (with_reducible refine Kd.C_drew ?_)));(case side4=>exact HC105_5.out);(case side5=>repeat (first | exact (Kd.C_below HR105_6.out HB.out) | (with_reducible refine Kd.C_alloc ?_ _) | (with_reducible refine Kd.C_drewN ?_ _) | (with_reducible refine Kd.C_drew ?_)));(case side6=>exact HC105_6.out);rintro e w6 ⟨rfl,hb⟩;refine ⟨_,rfl,?_⟩;have n0_:=Aside0.mk (below_step (by repeat (first | (with_reducible first | exact HB.out | apply below_alloc | apply pw_below_drewN | apply below_drew1) | exact HB.out)) hb);clear HB;have HB:=n0_;clear n0_;(try clear hb);(try clear hb2);(try clear hk);(try clear hi)))
         go_roundg k1
         case measure=>have:=HK1.out;omega
         case rel=>exact ⟨(t106),(wrap64 (x4_1+1)),(by first | rfl | (simp;done) | (simp [*];done)),(by first | rfl | (simp;done) | (simp [*];done)),H',⟨by have:=HK1.out;omega⟩,⟨by repeat (first | (with_reducible first | exact HB.out | apply below_alloc | apply pw_below_drewN | apply below_drew1) | exact HB.out)⟩⟩
       · rw [if_neg c4] at H
         exact absurd H (by simp)
     · rw [if_neg c3] at H
       have c3b0:decide (x3_1≤65536)=false:=decide_eq_false c3
       clear c3
       obtain rfl:=Option.some.inj H
       go_wp2
       go_ret
       exact ⟨by first | rfl | (simp [Nat.add_zero] <;> rfl) | (simp [*,Nat.add_zero] <;> rfl) | (simp [wrap64];done) | (unfold wrap64;rfl),by repeat (first | (with_reducible first | exact HB.out | apply below_alloc | apply pw_below_drewN | apply below_drew1) | exact HB.out)⟩
   · rw [if_neg c2] at H
     have c2b0:decide (x4_1 < (l0.length:Int))=false:=decide_eq_false c2
     clear c2
     obtain rfl:=Option.some.inj H
     go_wp2
     go_ret
     exact ⟨by first | rfl | (simp [Nat.add_zero] <;> rfl) | (simp [*,Nat.add_zero] <;> rfl) | (simp [wrap64];done) | (unfold wrap64;rfl),by repeat (first | (with_reducible first | exact HB.out | apply below_alloc | apply pw_below_drewN | apply below_drew1) | exact HB.out)⟩

end Go.Proofs.YtmjcnomgpikncaaGreatDoor

namespace Go.Proofs.YtmjcnomgpikncaaGreatDoor

open Go.RowKit Go.Proofs.YtmjcnomgpikncaaGreatDoorW.PrintWords Go.Proofs.YtmjcnomgpikncaaGreatDoorW.PrintLast Go.Proofs.YtmjcnomgpikncaaGreatDoorW.PrintMore



mutual
def okV:Val→Prop
  | ⟨t,n,s,k,e,ids,l⟩=>i64r t∧i64r n∧(∀ x∈s,0≤x∧x < 256)∧i64r k∧i64r e∧(∀ x∈ids,i64r x)∧s.length≤9223372036854775807∧ids.length≤9223372036854775807∧l.length≤9223372036854775807∧okL l
def okL:List Val→Prop
  | []=>True
  | v :: l=>okV v∧okL l
end

mutual
def wgh:Val→Int→Int
  | ⟨_,_,s,_,_,ids,l⟩,n=>wghL l (n+(1+mn (s.length:Int) 65537+mn (ids.length:Int) 65537))
def wghL:List Val→Int→Int
  | [],n=>n
  | v :: l,n=>if n≤65536 then wghL l (wgh v (n+8)) else n
end

mutual
def tot:Val→Nat
  | ⟨_,_,s,_,_,ids,l⟩=>1+s.length+ids.length+totL l
def totL:List Val→Nat
  | []=>0
  | v :: l=>8+tot v+totL l
end

theorem mn_ge (a:Nat):0≤mn (a:Int) 65537:=by unfold mn;split <;> omega

theorem mn_le (a:Nat):mn (a:Int) 65537≤65537:=by unfold mn;split <;> omega

theorem mn_eq (a:Nat) (h:mn (a:Int) 65537≤65536):mn (a:Int) 65537=a:=by unfold mn at *;split at h <;> omega

mutual
theorem wgh_up:∀ (v:Val) (n:Int),n≤wgh v n
  | ⟨_,_,s,_,_,ids,l⟩,n=>by
    have:=wghL_up l (n+(1+mn (s.length:Int) 65537+mn (ids.length:Int) 65537))
    have:=mn_ge s.length
    have:=mn_ge ids.length
    simp only [wgh]
    omega
theorem wghL_up:∀ (l:List Val) (n:Int),n≤wghL l n
  | [],n=>by simp [wghL]
  | v :: l,n=>by
    simp only [wghL]
    split
    · have:=wgh_up v (n+8)
      have:=wghL_up l (wgh v (n+8))
      omega
    · omega
end

mutual
theorem wgh_le:∀ (v:Val) (n:Int),n≤65544→wgh v n≤196619
  | ⟨_,_,s,_,_,ids,l⟩,n,h=>by
    have:=mn_le s.length
    have:=mn_le ids.length
    simp only [wgh]
    exact wghL_le l _ (by omega)
theorem wghL_le:∀ (l:List Val) (n:Int),n≤196619→wghL l n≤196619
  | [],n,h=>by simpa [wghL] using h
  | v :: l,n,h=>by
    simp only [wghL]
    split
    · exact wghL_le l _ (wgh_le v _ (by omega))
    · exact h
end

mutual
theorem wgh_tot:∀ (v:Val) (n:Int),wgh v n≤65536→0≤n→wgh v n=n+tot v
  | ⟨_,_,s,_,_,ids,l⟩,n,h,h0=>by
    simp only [wgh] at h ⊢
    have:=wghL_up l (n+(1+mn (s.length:Int) 65537+mn (ids.length:Int) 65537))
    have:=mn_ge s.length
    have:=mn_ge ids.length
    have e1:=mn_eq s.length (by omega)
    have e2:=mn_eq ids.length (by omega)
    have:=wghL_tot l _ h (by omega)
    rw [e1,e2] at this
    rw [e1,e2,this]
    simp only [tot]
    omega
theorem wghL_tot:∀ (l:List Val) (n:Int),wghL l n≤65536→0≤n→wghL l n=n+totL l
  | [],n,h,h0=>by simp [wghL,totL]
  | v :: l,n,h,h0=>by
    simp only [wghL] at h ⊢
    have hn:n≤65536:=by
      by_cases hn:n≤65536
      · exact hn
      · rw [if_neg hn] at h
        omega
    rw [if_pos hn] at h ⊢
    have:=wghL_up l (wgh v (n+8))
    have e1:=wgh_tot v (n+8) (by omega) (by omega)
    have e2:=wghL_tot l _ h (by omega)
    rw [e2,e1]
    simp only [totL]
    omega
end

mutual
theorem tot_wf:∀ (v:Val),okV v→tot v≤65536→wfV v
  | ⟨t,n,s,k,e,ids,l⟩,h,ht=>by
    simp only [tot] at ht
    simp only [okV] at h
    simp only [wfV]
    obtain ⟨h1,h2,h3,h4,h5,h6,h7,h8,h9,h10⟩:=h
    exact ⟨h1,h2,h3,h4,h5,h6,by omega,totL_wf l h10 (by omega)⟩
theorem totL_wf:∀ (l:List Val),okL l→totL l≤65536→wfL l
  | [],h,ht=>by simp [wfL]
  | v :: l,h,ht=>by
    simp only [totL] at ht
    simp only [okL] at h
    simp only [wfL]
    exact ⟨tot_wf v h.1 (by omega),totL_wf l h.2 (by omega)⟩
end

theorem ite_le {c:Prop} [Decidable c] {a b B:Nat} (h1:c→a≤B) (h2:¬ c→b≤B):(if c then a else b)≤B:=by
  by_cases h:c
  · rw [if_pos h];exact h1 h
  · rw [if_neg h];exact h2 h

mutual
theorem costs_ops:∀ (v:Val),costs (ops v)≤96 * tot v
  | ⟨t,n,s,k,e,ids,l⟩=>by
    have h1:=costs_opsF l ids
    have h2:=costs_opsL l (l.length / 2 * 2)
    have h3:=costs_opsL l l.length
    simp only [ops,tot,apply_ite costs,costs_cons,costs_append,costs_nil,WOp.cost,toB_len]
    repeat' (with_reducible refine ite_le (fun _=>?_) (fun _=>?_))
    all_goals omega
theorem costs_opsL:∀ (l:List Val) (n:Nat),costs (opsL l n)≤96 * totL l
  | [],n=>by simp [opsL,costs_nil]
  | v :: l,0=>by simp [opsL,costs_nil]
  | v :: l,n+1=>by
    have h1:=costs_ops v
    have h2:=costs_opsL l n
    simp only [opsL,totL,costs_append]
    omega
theorem costs_opsF:∀ (l:List Val) (ids:List Int),costs (opsF l ids)≤96 * totL l
  | [],ids=>by simp [opsF,costs_nil]
  | v :: l,[]=>by simp [opsF,costs_nil]
  | v :: l,i :: ids=>by
    have h1:=costs_ops v
    have h2:=costs_opsF l ids
    simp only [opsF,totL,costs_cons,costs_append,WOp.cost]
    omega
end

theorem drop_at {L l:List Val} {i:Nat} {v:Val} (h:L.drop i=v :: l):i < L.length∧rd_Val L (i:Int)=v∧L.drop (i+1)=l:=by
  have hlt:i < L.length:=by
    by_cases hi:i < L.length
    · exact hi
    · rw [List.drop_eq_nil_of_le (by omega)] at h
      cases h
  rw [List.drop_eq_getElem_cons hlt] at h
  injection h with h1 h2
  refine ⟨hlt,?_,h2⟩
  simp [rd_Val,List.getD,hlt,h1]

theorem drop_nil {L:List Val} {i:Nat} (h:L.drop i=[]):¬ i < L.length:=fun hi=>by
  rw [List.drop_eq_getElem_cons hi] at h
  cases h

theorem LeO_add {α:Type} (f:Nat→Option α) (h:∀ k,LeO (f k) (f (k+1))) (k:Nat):∀ j,LeO (f k) (f (k+j))
  | 0=>LeO.refl _
  | j+1=>(LeO_add f h k j).trans (h _)

theorem LeO_le {α:Type} (f:Nat→Option α) (h:∀ k,LeO (f k) (f (k+1))) {k m:Nat} (hk:k≤m) {r:α} (hr:f k=some r):f m=some r:=by
  have:=LeO_add f h k (m - k) r hr
  rwa [show k+(m - k)=m by omega] at this

mutual
theorem weigh_f:∀ (v:Val),okV v→∀ n:Int,0≤n→n≤65544→∃ k,laws_weigh.f k v.f0 v.f1 v.f2 v.f3 v.f4 v.f5 v.f6 n=some (wgh v n)
  | ⟨t,a,s,kk,e,ids,L⟩,h,n,h0,h1=>by
    simp only [okV] at h
    obtain ⟨_,_,_,_,_,_,_,_,hl,hL⟩:=h
    have:=mn_ge s.length
    have:=mn_ge ids.length
    have:=mn_le s.length
    have:=mn_le ids.length
    obtain ⟨k,hk⟩:=weigh_l L hL L 0 rfl hl t a s kk e ids (n+(1+mn (s.length:Int) 65537+mn (ids.length:Int) 65537)) (by omega) (by omega)
    refine ⟨k+1,?_⟩
    simp only [laws_weigh.f,wgh]
    rw [w64i _ (by omega) (by omega)]
    exact hk
theorem weigh_l:∀ (l:List Val),okL l→∀ (L:List Val) (i:Nat),L.drop i=l→L.length≤9223372036854775807→∀ (t a:Int) (s:List Int) (kk e:Int) (ids:List Int) (n:Int),0≤n→n≤196619 →
    ∃ k,laws_weigh.l0 k n (i:Int) t a s kk e ids L=some (wghL l n)
  | [],_,L,i,hd,hl,t,a,s,kk,e,ids,n,h0,h1=>by
    have:=drop_nil hd
    refine ⟨1,?_⟩
    simp only [laws_weigh.l0,wghL]
    rw [if_neg (by omega)]
  | v :: l,hk,L,i,hd,hl,t,a,s,kk,e,ids,n,h0,h1=>by
    simp only [okL] at hk
    obtain ⟨hi,hv,hd'⟩:=drop_at hd
    by_cases hn:n≤65536
    · obtain ⟨k1,e1⟩:=weigh_f v hk.1 (n+8) (by omega) (by omega)
      have b1:=wgh_up v (n+8)
      have b2:=wgh_le v (n+8) (by omega)
      obtain ⟨k2,e2⟩:=weigh_l l hk.2 L (i+1) hd' hl t a s kk e ids (wgh v (n+8)) (by omega) b2
      refine ⟨k1+k2+1,?_⟩
      simp only [laws_weigh.l0,wghL]
      rw [if_pos (by omega),if_pos hn,if_pos (by omega),if_pos hn,hv,w64i _ (by omega) (by omega),w64i _ (by omega) (by omega)]
      rw [LeO_le (fun k=>laws_weigh.f k v.f0 v.f1 v.f2 v.f3 v.f4 v.f5 v.f6 (n+8)) (fun k=>laws_weigh.mono _ _ _ _ _ _ _ _ k) (show k1≤k1+k2 by omega) e1]
      exact LeO_le (fun k=>laws_weigh.l0 k (wgh v (n+8)) ((i:Int)+1) t a s kk e ids L) (fun k=>(laws_weigh.mono_l k).2 _ _ _ _ _ _ _ _ _) (show k2≤k1+k2 by omega) (by exact_mod_cast e2)
    · refine ⟨1,?_⟩
      simp only [laws_weigh.l0,wghL]
      rw [if_pos (by omega),if_neg hn,if_neg hn]
end

theorem isHeavy_f (v:Val) (h:okV v):∃ k,laws_isHeavy.f k [v]=some (decide (wgh v 0 > 65536)):=by
  obtain ⟨k1,e1⟩:=weigh_f v h 0 (by omega) (by omega)
  refine ⟨k1+2,?_⟩
  have e2:=LeO_le (fun k=>laws_weigh.f k v.f0 v.f1 v.f2 v.f3 v.f4 v.f5 v.f6 0) (fun k=>laws_weigh.mono _ _ _ _ _ _ _ _ k) (show k1≤k1+1 by omega) e1
  replace e2:laws_weigh.f (k1+1) v.f0 v.f1 v.f2 v.f3 v.f4 v.f5 v.f6 0=some (wgh v 0):=e2
  simp only [laws_isHeavy.f]
  rw [laws_isHeavy.l0]
  simp only [List.length_cons,List.length_nil,rd_Val,Int.toNat_zero,List.getD_cons_zero]
  rw [if_pos (by omega),if_pos (by omega),if_pos (by omega),e2]
  simp only [Option.bind_some]
  rw [laws_isHeavy.l0]
  simp [wrap64]

theorem zzFits_f (v:Val):∃ b,laws_zzFits1.f v.f0 v.f1 v.f2 v.f3 v.f4 v.f5 v.f6=some b:=by
  unfold laws_zzFits1.f
  repeat' split
  all_goals exact ⟨_,rfl⟩

def isT (a:Int):Bool:=decide (a=2∨a=3∨a=4∨a=6∨a=8∨a=10∨(11≤a∧a≤16))

end Go.Proofs.YtmjcnomgpikncaaGreatDoor

namespace Go.Proofs.YtmjcnomgpikncaaGreatDoor

open Go.RowKit Go.Proofs.YtmjcnomgpikncaaGreatDoorW.PrintWords Go.Proofs.YtmjcnomgpikncaaGreatDoorW.PrintLast Go.Proofs.YtmjcnomgpikncaaGreatDoorW.PrintMore

attribute [local go_sem] max2_int min2_int max_two min_two max_three min_three max_four min_four



end Go.Proofs.YtmjcnomgpikncaaGreatDoor

namespace Go.Proofs.YtmjcnomgpikncaaGreatDoor

open Go.RowKit Go.Proofs.YtmjcnomgpikncaaGreatDoorW.PrintWords Go.Proofs.YtmjcnomgpikncaaGreatDoorW.PrintLast Go.Proofs.YtmjcnomgpikncaaGreatDoorW.PrintMore



mutual
def rightV:Val→Bool
  | ⟨t,_,_,k,e,ids,l⟩ =>
    isT t && !(decide (t=12) && decide (ids.length≠l.length)) && !(decide (t=13) && decide (l.length % 2≠0)) &&
    (decide (t < 12) || decide (t=16) || (decide (t=13) && decide (l.length=0) && decide (k=0) && decide (e=0)) ||
      ((decide (t=12) || isT e) && (!decide (t=13) || isT k) && rightL t k e 0 l))
def rightL:Int→Int→Int→Nat→List Val→Bool
  | _,_,_,_,[]=>true
  | t,k,e,i,v :: l=>(decide (t=12) || decide (v.f0=if t=13∧i % 2=0 then k else e)) && rightV v && rightL t k e (i+1) l
end

end Go.Proofs.YtmjcnomgpikncaaGreatDoor

namespace Go.Proofs.YtmjcnomgpikncaaGreatDoor

open Go.RowKit Go.ChangeShapes Go.WideShapes Go.Proofs.YtmjcnomgpikncaaGreatDoorW.PrintWords Go.Proofs.YtmjcnomgpikncaaGreatDoorW.PrintLast Go.Proofs.YtmjcnomgpikncaaGreatDoorW.PrintMore



theorem cellsVal:Tryz.prog.cellsOf 28=7:=by kernel_rfl

theorem cellsI64:Tryz.prog.cellsOf 2=1:=by kernel_rfl

theorem cellsU8:Tryz.prog.cellsOf 5=1:=by kernel_rfl

theorem cellsU8s:Tryz.prog.cellsOf 24=1:=by kernel_rfl

theorem cellsInts:Tryz.prog.cellsOf 25=1:=by kernel_rfl

theorem cellsVals:Tryz.prog.cellsOf 26=1:=by kernel_rfl

theorem okL_of:∀ (l:List Val),(∀ v∈l,okV v)→okL l
  | [],_=>by simp [okL]
  | v :: l,h=>by
    simp only [okL]
    exact ⟨h v (by simp),okL_of l (fun u hu=>h u (by simp [hu]))⟩

theorem list_of {α:Type} (R:Nat→α→Prop):∀ n,(∀ i,i < n→∃ x,R i x)→∃ l:List α,l.length=n∧∀ i x,l[i]?=some x→R i x
  | 0,_=>⟨[],rfl,fun i x h=>by simp at h⟩
  | n+1,h=>by
    obtain ⟨l,hl,hr⟩:=list_of R n (fun i hi=>h i (by omega))
    obtain ⟨x,hx⟩:=h n (by omega)
    refine ⟨l++[x],by simp [hl],fun i y hy=>?_⟩
    by_cases hi:i < n
    · rw [List.getElem?_append_left (by omega)] at hy
      exact hr i y hy
    · rw [List.getElem?_append_right (by omega)] at hy
      have:i - l.length=0:=by
        rcases Nat.eq_zero_or_pos (i - l.length) with h0 | h0
        · exact h0
        · rw [List.getElem?_eq_none (by simp;omega)] at hy
          cases hy
      rw [this] at hy
      simp at hy
      obtain rfl:i=n:=by omega
      exact hy ▸ hx

theorem wf_i64r {n:Int} (h:(Lit.int .i64 n).wf=true):i64r n:=by
  have h':IntKind.i64.min≤n∧n≤9223372036854775807:=by simpa [Lit.wf] using h
  have e:IntKind.i64.min=-9223372036854775808:=by decide
  unfold i64r
  omega

theorem wf_u8r {n:Int} (h:(Lit.int .u8 n).wf=true):0≤n∧n < 256:=by
  have h':IntKind.u8.min≤n∧n≤IntKind.u8.max:=by simpa [Lit.wf] using h
  have e:IntKind.u8.min=0:=by decide
  have e2:IntKind.u8.max=255:=by decide
  omega

theorem row_ints {k:IntKind} {w:World} {a:Addr} {len cap:Nat} {zs:List Int} (hl:len≤cap) (hm:cap≤maxLen) (hz:len≤zs.length) (hc:∀ i,i < zs.length→w.cell? (a.add i)=some (.int k (zs.getD i 0))) :
    (Kd.int k).C w (some a) len (zs.take len):=by
  refine ⟨by simp;omega,by unfold maxLen at hm;omega,fun _=>⟨a,rfl,fun j p hj=>?_⟩⟩
  have hjl:j < len:=by
    have:=(List.getElem?_eq_some_iff.1 hj).1
    simp at this
    omega
  refine ⟨[.int k p],rfl,rfl,fun i u hu=>?_⟩
  cases i with
  | zero =>
    simp at hu
    subst hu
    have hp:zs.getD j 0=p:=by
      rw [List.getElem?_take_of_lt hjl] at hj
      simp [List.getD,hj]
    have:=hc j (by omega)
    rw [hp] at this
    rw [show j * (Kd.int k).sz+0=j from by show j * 1+0=j;omega]
    exact this
  | succ i=>simp at hu

set_option maxRecDepth 100000 in
theorem open_cells {H:Type} {enc:TypeId × Value→H} {w:World} {base:Nat} {spare:Nat→Bool} {held:Bool}:∀ (fuel:Nat) (cs:List Value) (x:DataW H × List MemPlace),
 DataW.trod enc Tryz.prog w base spare held fuel 28 cs=some x→∃ V,kVal.K w V cs∧okV V:=by
 intro fuel
 induction fuel using Nat.strongRecOn with
 | _ fuel ih =>
 intro cs x h
 obtain ⟨xs,n,rfl,_,hsz,hlen,hf⟩:=DataW.trod_struct Tryz.underlying28 h
 rw [cellsVal] at hsz
 obtain ⟨c0,c1,c2,c3,c4,c5,c6,rfl⟩:=list7 hsz
 obtain ⟨y0,y1,y2,y3,y4,y5,y6,rfl⟩:=list7 hlen
 have h0:=hf 0 _ rfl
 have h1:=hf 1 _ rfl
 have h2:=hf 2 _ rfl
 have h3:=hf 3 _ rfl
 have h4:=hf 4 _ rfl
 have h5:=hf 5 _ rfl
 have h6:=hf 6 _ rfl
 clear hf hlen hsz h
 obtain ⟨a0,e0,_,w0⟩:=DataW.trod_int Tryz.underlying3 (x:=y0) h0
 obtain ⟨a1,e1,_,w1⟩:=DataW.trod_int Tryz.underlying2 (x:=y1) h1
 obtain ⟨a3,e3,_,w3⟩:=DataW.trod_int Tryz.underlying3 (x:=y3) h3
 obtain ⟨a4,e4,_,w4⟩:=DataW.trod_int Tryz.underlying3 (x:=y4) h4
 replace e0:List.take (Tryz.prog.cellsOf 3) [c0,c1,c2,c3,c4,c5,c6]=_:=e0
 replace e1:List.take (Tryz.prog.cellsOf 2) [c1,c2,c3,c4,c5,c6]=_:=e1
 replace e3:List.take (Tryz.prog.cellsOf 3) [c3,c4,c5,c6]=_:=e3
 replace e4:List.take (Tryz.prog.cellsOf 3) [c4,c5,c6]=_:=e4
 rw [cellsInt] at e0 e3 e4
 rw [cellsI64] at e1
 simp at e0 e1 e3 e4
 subst e0 e1 e3 e4
 have hS:∃ A S c,c2=.slice A S.length c∧S.length≤c∧(Kd.int .u8).C w A S.length S∧(∀ x∈S,0≤x∧x < 256)∧S.length≤9223372036854775807:=by
  rcases open_ints Tryz.underlying24 Tryz.underlying5 cellsU8 (x:=y2) h2 with ⟨hcs,_⟩ | ⟨a,len,cap,zs,hcs,_,hl,hm,hz,_,hcell,hwf⟩
  · replace hcs:List.take (Tryz.prog.cellsOf 24) [c2,.int .i64 a3,.int .i64 a4,c5,c6]=_:=hcs
    rw [cellsU8s] at hcs
    simp at hcs
    exact ⟨none,[],0,hcs,by simp,⟨rfl,by simp,fun h=>absurd h (by simp)⟩,by simp,by simp⟩
  · replace hcs:List.take (Tryz.prog.cellsOf 24) [c2,.int .i64 a3,.int .i64 a4,c5,c6]=_:=hcs
    rw [cellsU8s] at hcs
    simp at hcs
    have hzl:len≤zs.length:=by rw [hz];split <;> omega
    have hln:(zs.take len).length=len:=by simp;omega
    refine ⟨some a,zs.take len,cap,by rw [hln];exact hcs,by rw [hln];exact hl,by rw [hln];exact row_ints hl hm hzl hcell,fun x hx=>?_,by rw [hln];unfold maxLen at hm;omega⟩
    exact wf_u8r (hwf x (List.mem_of_mem_take hx))
 have hI:∃ A S c,c5=.slice A S.length c∧S.length≤c∧(Kd.int .i64).C w A S.length S∧(∀ x∈S,i64r x)∧S.length≤9223372036854775807:=by
  rcases open_ints Tryz.underlying25 Tryz.underlying3 cellsInt (x:=y5) h5 with ⟨hcs,_⟩ | ⟨a,len,cap,zs,hcs,_,hl,hm,hz,_,hcell,hwf⟩
  · replace hcs:List.take (Tryz.prog.cellsOf 25) [c5,c6]=_:=hcs
    rw [cellsInts] at hcs
    simp at hcs
    exact ⟨none,[],0,hcs,by simp,⟨rfl,by simp,fun h=>absurd h (by simp)⟩,by simp,by simp⟩
  · replace hcs:List.take (Tryz.prog.cellsOf 25) [c5,c6]=_:=hcs
    rw [cellsInts] at hcs
    simp at hcs
    have hzl:len≤zs.length:=by rw [hz];split <;> omega
    have hln:(zs.take len).length=len:=by simp;omega
    refine ⟨some a,zs.take len,cap,by rw [hln];exact hcs,by rw [hln];exact hl,by rw [hln];exact row_ints hl hm hzl hcell,fun x hx=>?_,by rw [hln];unfold maxLen at hm;omega⟩
    exact wf_i64r (hwf x (List.mem_of_mem_take hx))
 have hL:∃ A L c,c6=.slice A L.length c∧L.length≤c∧kVal.C w A L.length L∧okL L∧L.length≤9223372036854775807:=by
  rcases DataW.trod_slice Tryz.underlying26 (x:=y6) h6 with ⟨hcs,_⟩ | ⟨a,len,cap,elems,rest,m,hmn,hcs,_,_,hl,hm,hel,hgo,_⟩
  · replace hcs:List.take (Tryz.prog.cellsOf 26) [c6]=_:=hcs
    rw [cellsVals] at hcs
    simp at hcs
    exact ⟨none,[],0,hcs,by simp,⟨rfl,by simp,fun h=>absurd h (by simp)⟩,by simp [okL],by simp⟩
  · replace hcs:List.take (Tryz.prog.cellsOf 26) [c6]=_:=hcs
    rw [cellsVals] at hcs
    simp at hcs
    rw [cellsVal] at hgo
    have key:∀ i,i < len→∃ v,okV v∧∃ c,c.length=7∧kVal.K w v c∧∀ j u,c[j]?=some u→w.cell? (a.add (i * 7+j))=some u:=by
     intro i hi
     have hg:=hgo i hi
     rw [List.getElem?_eq_getElem (by omega),Option.bind_eq_some_iff] at hg
     obtain ⟨cs',hc,ht⟩:=hg
     obtain ⟨V,hK,hV⟩:=ih m (by omega) cs' _ ht
     obtain ⟨_,hlen',hcell⟩:=World.cells?_some hc
     refine ⟨V,hV,cs',hlen',hK,fun j u hu=>?_⟩
     have hj:j < 7:=by
      have:=(List.getElem?_eq_some_iff.1 hu).1
      omega
     have:=hcell j hj
     rw [hu] at this
     rw [← this]
     rw [Go.Proofs.YtmjcnomgpikncaaGreatDoorW.PrintWords.add_add]
    obtain ⟨L,hLl,hLr⟩:=list_of _ len key
    refine ⟨some a,L,cap,by rw [hLl];exact hcs,by omega,⟨rfl,by unfold maxLen at hm;omega,fun _=>⟨a,rfl,fun j p hj=>?_⟩⟩,okL_of L (fun v hv=>?_),by unfold maxLen at hm;omega⟩
    · obtain ⟨_,c,h1,h2,h3⟩:=hLr j p hj
      exact ⟨c,h1,h2,h3⟩
    · obtain ⟨i,hi⟩:=List.getElem?_of_mem hv
      exact (hLr i v hi).1
 obtain ⟨A2,S,s2,rfl,l2,g2,r2,m2⟩:=hS
 obtain ⟨A5,I,s5,rfl,l5,g5,r5,m5⟩:=hI
 obtain ⟨A6,L,s6,rfl,l6,g6,r6,m6⟩:=hL
 refine ⟨⟨a0,a1,S,a3,a4,I,L⟩,kVal_mk w ⟨a0,a1,S,a3,a4,I,L⟩ l2 g2 l5 g5 l6 g6,?_⟩
 simp only [okV]
 exact ⟨wf_i64r w0,wf_i64r w1,r2,wf_i64r w3,wf_i64r w4,r5,m2,m5,m6,r6⟩

set_option maxRecDepth 100000 in
theorem open_val {H:Type} {enc:TypeId × Value→H} {w:World} {base:Nat} {spare:Nat→Bool} {held:Bool} {r:Reach} {b0:Nat} {v:Value} {d:DataW H} {p:List MemPlace}
    (hv:Value.okWide Tryz.prog w r b0 28 v) (h:DataW.Trod enc Tryz.prog w base spare held 28 v d p) :
    ∃ x0 x1 x2 x3 x4 x5 x6 V,v=.agg #[x0,x1,x2,x3,x4,x5,x6]∧kVal.K w V [x0,x1,x2,x3,x4,x5,x6]∧okV V:=by
  obtain ⟨cs,rfl,hsz⟩:=okWide_struct Tryz.underlying28 hv
  obtain ⟨c0,c1,c2,c3,c4,c5,c6,rfl⟩:=array7 (hsz.trans cellsVal)
  obtain ⟨fuel,hf⟩:=h
  obtain ⟨V,hK,hV⟩:=open_cells fuel _ _ hf
  exact ⟨c0,c1,c2,c3,c4,c5,c6,V,rfl,hK,hV⟩

end Go.Proofs.YtmjcnomgpikncaaGreatDoor

namespace Go.Proofs.YtmjcnomgpikncaaGreatDoor

open Go.RowKit Go.Deep Go.Proofs.YtmjcnomgpikncaaGreatDoorW.PrintWords



def fitsV (V:Val):Bool:=(laws_zzFits1.f V.f0 V.f1 V.f2 V.f3 V.f4 V.f5 V.f6).getD false

theorem fits_any {V:Val} {w:World} {x0 x1 x2 x3 x4 x5 x6:Value} (hK:kVal.K w V [x0,x1,x2,x3,x4,x5,x6]) (W:World) (hB:Below w.heap.size w W) :
    Calls Tryz.prog 12 #[.agg #[x0,x1,x2,x3,x4,x5,x6]] W fun e w'=>e=.returned (.bool (fitsV V))∧Below W.heap.size W w':=by
  obtain ⟨b,hb⟩:=zzFits_f V
  obtain ⟨A2,c2,A5,c5,A6,c6,he,l2,g2,l5,g5,l6,g6⟩:=kVal_open hK
  simp only [List.cons.injEq,and_true] at he
  obtain ⟨rfl,rfl,rfl,rfl,rfl,rfl,rfl⟩:=he
  have e:fitsV V=b:=by unfold fitsV;rw [hb];rfl
  rw [e]
  exact laws_zzFits1.calls V.f0 V.f1 A2 c2 V.f2 V.f3 V.f4 A5 c5 V.f5 A6 c6 V.f6 b W (Kd.C_below g2 hB) l2 (Kd.C_below g5 hB) l5 (Kd.C_below g6 hB) l6 hb

def heavyV (V:Val):Bool:=decide (wgh V 0 > 65536)

theorem heavyV_tot {V:Val} (h:heavyV V=false):tot V≤65536:=by
  have h1:wgh V 0≤65536:=by
    have:=of_decide_eq_false h
    omega
  have:=wgh_tot V 0 h1 (by omega)
  omega

theorem heavy_any {V:Val} (hV:okV V) {w:World} {x0 x1 x2 x3 x4 x5 x6:Value} (hK:kVal.K w V [x0,x1,x2,x3,x4,x5,x6]) (W:World) (hB:Below w.heap.size w W) (A:Addr) (c:Nat) (hc:1≤c)
    (h0:W.cell? (A.add 0)=some x0) (h1:W.cell? (A.add 1)=some x1) (h2:W.cell? (A.add 2)=some x2) (h3:W.cell? (A.add 3)=some x3) (h4:W.cell? (A.add 4)=some x4) (h5:W.cell? (A.add 5)=some x5) (h6:W.cell? (A.add 6)=some x6) :
    Calls Tryz.prog 13 #[.slice (some A) 1 c] W fun e w'=>e=.returned (.bool (heavyV V))∧Below W.heap.size W w':=by
  obtain ⟨k,hk⟩:=isHeavy_f V hV
  have hC:Kd.C kVal W (some A) [V].length [V]:=by
    refine ⟨rfl,by simp,fun _=>⟨A,rfl,fun j p hj=>?_⟩⟩
    cases j with
    | zero =>
      simp at hj
      subst hj
      refine ⟨[x0,x1,x2,x3,x4,x5,x6],rfl,kVal.K_below hB hK,fun i u hu=>?_⟩
      rw [Nat.zero_mul,Nat.zero_add]
      match i,hu with
      | 0,hu=>simp at hu;exact hu ▸ h0
      | 1,hu=>simp at hu;exact hu ▸ h1
      | 2,hu=>simp at hu;exact hu ▸ h2
      | 3,hu=>simp at hu;exact hu ▸ h3
      | 4,hu=>simp at hu;exact hu ▸ h4
      | 5,hu=>simp at hu;exact hu ▸ h5
      | 6,hu=>simp at hu;exact hu ▸ h6
      | n+7,hu=>simp at hu
    | succ j=>simp at hj
  exact laws_isHeavy.calls k (some A) c [V] _ W hC (by simpa using hc) hk

end Go.Proofs.YtmjcnomgpikncaaGreatDoor
