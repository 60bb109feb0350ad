/- The walk of FnDepth. -/
import Derived.Test.YtmjcnomgpikncaaGreatDoorMz1
import Derived.Test.YtmjcnomgpikncaaGreatDoorMz4
import Derived.Test.YtmjcnomgpikncaaGreatDoorMs1
import Derived.Test.YtmjcnomgpikncaaGreatDoorMr
import Derived.Test.YtmjcnomgpikncaaGreatDoorMg1
import Derived.Test.YtmjcnomgpikncaaGreatDoorMn
import Derived.Test.YtmjcnomgpikncaaGreatDoorMy5
import Derived.Test.YtmjcnomgpikncaaGreatDoorMy3
import Derived.Test.YtmjcnomgpikncaaGreatDoorMy6
import Derived.Test.YtmjcnomgpikncaaGreatDoorMs2
import Derived.Test.YtmjcnomgpikncaaGreatDoorMb2
import Derived.Test.YtmjcnomgpikncaaGreatDoorMb1
namespace Go.Proofs.YtmjcnomgpikncaaGreatDoor
open Go.RowKit Go.Deep
set_option linter.unusedVariables false
set_option linter.unusedSimpArgs false
open Go.Proofs.YtmjcnomgpikncaaGreatDoorW.PrintWords

theorem and1 (p:Int):bits .and .i64 p 1=0∨bits .and .i64 p 1=1:=by
  rw [i64_one]
  omega

set_option maxRecDepth 100000 in
set_option maxHeartbeats 2000000 in
theorem fnDepth_walk (proto:Int) (plain rb sb:Bool) (ms ct fr:Int) (x0 x1 x2 x3 x4 x5 x6:Value) (V:Val) (deep:Int) (w:World) (hf:(Lit.int .i64 proto).wf=true∧(Lit.int .i32 ms).wf=true∧(Lit.int .i32 ct).wf=true∧(Lit.int .i32 fr).wf=true)
 (hK:kVal.K w V [x0,x1,x2,x3,x4,x5,x6]) (hV:okV V) (hdp0:(Lit.int .i64 deep).wf=true) (hE:EofAt w) :
 Calls Tryz.prog 3 #[confV proto plain rb sb ms ct fr,.agg #[x0,x1,x2,x3,x4,x5,x6],.int .i64 deep] w fun e w'=>e=.returned (.bool true)∧Below w.heap.size w w':=by
 have hf32:(cfgOf plain rb sb ms ct fr).fit:=by
  have e1:IntKind.i32.min=-2147483648:=by decide
  have e2:IntKind.i32.max=2147483647:=by decide
  have h1:IntKind.i32.min≤ms∧ms≤IntKind.i32.max:=by simpa [Lit.wf] using hf.2.1
  have h2:IntKind.i32.min≤ct∧ct≤IntKind.i32.max:=by simpa [Lit.wf] using hf.2.2.1
  refine ⟨⟨?_,?_⟩,⟨?_,?_⟩⟩ <;> simp only [cfgOf] <;> omega
 have hpr:-9223372036854775808≤proto∧proto < 9223372036854775808:=by
  have e1:IntKind.i64.min=-9223372036854775808:=by decide
  have e2:IntKind.i64.max=9223372036854775807:=by decide
  have h1:IntKind.i64.min≤proto∧proto≤IntKind.i64.max:=by simpa [Lit.wf] using hf.1
  omega
 have hx0:x0=.int .i64 V.f0:=by
  obtain ⟨A2,c2,A5,c5,A6,c6,he,-⟩:=kVal_open hK
  simp only [List.cons.injEq,and_true] at he
  exact he.1
 subst hx0
 clear hf
 have HDP0:=Lib.hid hdp0
 clear hdp0
 have hk:=Lib.hid known_any
 obtain ⟨bw,hbw⟩:∃ bw,wideB plain ms ct fr=bw:=⟨_,rfl⟩
 have HWD:=Lib.hid (fun W=>hbw ▸ isWide_w proto plain rb sb ms ct fr W)
 have HBW:=Lib.hid hbw
 clear hbw
 have HF:=Lib.hid (fun W hB=>fits_any hK W hB)
 have HH:=Lib.hid (fun W hB A c=>heavy_any hV hK W hB A c)
 have HR:=Lib.hid (fun W hB=>right_any2 hV hK W hB)
 have HP:=Lib.hid (fun hw n W hB hr h0=>Put_C V hw n plain rb sb ms ct fr _ x1 x2 x3 x4 x5 x6 W (kVal.K_below hB hK) hr h0)
 have HK:=Lib.hid hK
 clear hK
 have HE:=Lib.hid hE
 clear hE
 go_enter Tryz.func3,Tryz.ntmps3
 go_wp2_with (fail)
 obtain ⟨W0,hW0⟩:∃ W0,W0=(w.alloc (.cells #[.int .i64 proto,.bool plain,.bool rb,.bool sb,.int .i32 ms,.int .i32 ct,.int .i32 fr] 23)).alloc (.cells #[.int .i64 V.f0,x1,x2,x3,x4,x5,x6] 28):=⟨_,rfl⟩
 have hsz:W0.heap.size=w.heap.size+1+1:=by rw [hW0];simp
 have B0:Box7 w.heap.size (.int .i64 proto) (.bool plain) (.bool rb) (.bool sb) (.int .i32 ms) (.int .i32 ct) (.int .i32 fr) W0:=by
  rw [hW0];exact Box7.at_ (heap_alloc_old (heap_alloc_new w _) _)
 have B1:Box7 (w.heap.size+1) (.int .i64 V.f0) x1 x2 x3 x4 x5 x6 W0:=by
  rw [hW0];exact Box7.at_ (heap_alloc_at (by simp) _)
 have F0:W0.frozen? ⟨w.heap.size,0,none⟩=false:=by
  rw [hW0];exact frozen_heap (heap_alloc_old (heap_alloc_new w _) _) 0
 have HW0:=Lib.hid (show Below w.heap.size w W0 from by rw [hW0];exact ((Below.refl _ w).alloc (Nat.le_refl _) _).alloc (by simp) _)
 rw [← hW0]
 have HB0:=Lib.hid (show Box7 w.heap.size (.int .i64 proto) (.bool plain) (.bool rb) (.bool sb) (.int .i32 ms) (.int .i32 ct) (.int .i32 fr) W0∧Box7 (w.heap.size+1) (.int .i64 V.f0) x1 x2 x3 x4 x5 x6 W0 from ⟨B0,B1⟩)
 have HF0:=Lib.hid F0
 clear hW0 B0 B1 F0
 refine (HF.out _ HW0.out).mono ?_
 rintro e W1 ⟨rfl,hB1⟩
 have HB1:=Lib.hid hB1
 have HW1:=Lib.hid (HW0.out.trans (hB1.mono HW0.out.size))
 clear hB1
 cases hfit:fitsV V
 · go_wp2_with (fail)
   go_ret
   exact ⟨rfl,HW1.out⟩
 obtain ⟨p0,p1,p2,p3,p4,p5,p6⟩:=HB0.out.2.of HB1.out (by omega)
 go_wp2_with (fail)
 refine (HH.out _ (HW1.out.alloc HW1.out.size _) ⟨W1.heap.size,0,none⟩ 1 (Nat.le_refl _) ?_ ?_ ?_ ?_ ?_ ?_ ?_).mono ?_
 any_goals (rw [Lib.addr_add,cell_heap (heap_alloc_new _ _)];rfl)
 rintro e W3 ⟨rfl,hB3⟩
 have hs1:=HB1.out.size
 have HB3:=Lib.hid ((HB1.out.alloc hs1 (.cells #[.int .i64 V.f0,x1,x2,x3,x4,x5,x6] 28)).trans (hB3.mono (by simp;omega)))
 have HW3:=Lib.hid ((HW1.out.alloc HW1.out.size (.cells #[.int .i64 V.f0,x1,x2,x3,x4,x5,x6] 28)).trans (hB3.mono (by have:=HW1.out.size;simp;omega)))
 clear hB3 p0 p1 p2 p3 p4 p5 p6
 cases hheavy:heavyV V
 case true =>
  go_wp2_with (go_at_call 16;refine (hk.out _).mono ?_;rintro e w' ⟨rfl,hb⟩)
  go_ret
  exact ⟨rfl,HW3.out.trans (hb.mono HW3.out.size)⟩
 have ht:=heavyV_tot hheavy
 obtain ⟨p0,p1,p2,p3,p4,p5,p6⟩:=HB0.out.2.of HB3.out (by omega)
 go_wp2_with (fail)
 refine (HR.out W3 HW3.out).mono ?_
 rintro e W4 ⟨rfl,hB4⟩
 have HB4:=Lib.hid (HB3.out.trans (hB4.mono HB3.out.size))
 have HW4:=Lib.hid (HW3.out.trans (hB4.mono HW3.out.size))
 clear hB4 p0 p1 p2 p3 p4 p5 p6
 cases hright:rightV V
 case false =>
  go_wp2_with (go_at_call 16;refine (hk.out _).mono ?_;rintro e w' ⟨rfl,hb⟩)
  go_ret
  exact ⟨rfl,HW4.out.trans (hb.mono HW4.out.size)⟩
 obtain ⟨q0,q1,q2,q3,q4,q5,q6⟩:=HB0.out.1.of HB4.out (by omega)
 go_wp2_with (fail)
 refine (HWD.out W4).mono ?_
 rintro e W5 ⟨rfl,hB5⟩
 have HB5:=Lib.hid (HB4.out.trans (hB5.mono HB4.out.size))
 have HW5:=Lib.hid (HW4.out.trans (hB5.mono HW4.out.size))
 clear hB5 q0 q1 q2 q3 q4 q5 q6
 by_cases hbw:bw=false
 case pos =>
  subst hbw
  go_wp2_with (go_at_call 16;refine (hk.out _).mono ?_;rintro e w' ⟨rfl,hb⟩)
  go_ret
  exact ⟨rfl,HW5.out.trans (hb.mono HW5.out.size)⟩
 obtain rfl:bw=true:=by simpa using hbw
 clear hbw
 obtain ⟨hm,hc⟩:=wideB_of (rb:=rb) (sb:=sb) (fr:=fr) HBW.out |>.symm |> fun h=>And.intro h.2 h.1
 obtain ⟨P,hP⟩:∃ P,bits .and .i64 proto 1=P:=⟨_,rfl⟩
 have hP01:P=0∨P=1:=by rw [← hP];exact and1 proto
 have f0:W5.frozen? ⟨w.heap.size,0,none⟩=false:=by
  rw [HB5.out.frozen (show w.heap.size < W0.heap.size by omega)]
  exact HF0.out
 have hwV:=tot_wf V hV (by omega)
 have hen:=enc_right P (cfgOf plain rb sb ms ct fr) V hright hwV (by omega)
 have HPT:=Lib.hid (fun W hB=>HP.out hwV P W hB (by have:=costs_ops V;omega) (by rw [hen]))
 rw [hen] at HPT
 have hbx:Box7 w.heap.size (.int .i64 P) (.bool plain) (.bool rb) (.bool sb) (.int .i32 ms) (.int .i32 ct) (.int .i32 fr) (W5.setCell ⟨w.heap.size,0,none⟩ (.int .i64 P)):=(HB0.out.1.of HB5.out (by omega)).proto _
 have hby:Box7 (w.heap.size+1) (.int .i64 V.f0) x1 x2 x3 x4 x5 x6 (W5.setCell ⟨w.heap.size,0,none⟩ (.int .i64 P)):=(HB0.out.2.of HB5.out (by omega)).other (by omega) _ _
 obtain ⟨q0,q1,q2,q3,q4,q5,q6⟩:=HB0.out.1.of HB5.out (by omega)
 obtain ⟨p0,p1,p2,p3,p4,p5,p6⟩:=HB0.out.2.of HB5.out (by omega)
 have hs5:=HB5.out.size
 clear HP hen
 go_wp2_with (fail)
 obtain ⟨Wa,hWa⟩:∃ Wa,Wa=W5.setCell ⟨w.heap.size,0,none⟩ (.int .i64 P):=⟨_,rfl⟩
 have HWa:=Lib.hid (show Below w.heap.size w Wa from by rw [hWa];exact HW5.out.setCell (Nat.le_refl _) _)
 have hsa:w.heap.size+1+1≤Wa.heap.size:=by rw [hWa];simp;omega
 rw [← hWa] at hbx hby ⊢
 have HX:=Lib.hid hbx
 have HY:=Lib.hid hby
 clear hWa hbx hby q0 q1 q2 q3 q4 q5 q6 p0 p1 p2 p3 p4 p5 p6 f0
 refine (HPT.out Wa HWa.out).mono ?_
 rintro e W6 ⟨v,k,rfl,hk6,hi6,hB6⟩
 have HW6:=Lib.hid (HWa.out.trans (hB6.mono HWa.out.size))
 have hs6:=hB6.size
 have HX6:=Lib.hid (HX.out.of hB6 (by omega))
 have HY6:=Lib.hid (HY.out.of hB6 (by omega))
 obtain ⟨ao,cb,rfl,hcb,hCb⟩:=hi6.ints
 have HCb:=Lib.hid hCb
 clear hB6 hi6 hk6 hCb
 obtain ⟨p0,p1,p2,p3,p4,p5,p6⟩:=HX6.out
 obtain ⟨q0,q1,q2,q3,q4,q5,q6⟩:=HY6.out
 have hdp:-9223372036854775808≤deep∧deep < 9223372036854775808:=by
  have e1:IntKind.i64.min=-9223372036854775808:=by decide
  have e2:IntKind.i64.max=9223372036854775807:=by decide
  have h1:IntKind.i64.min≤deep∧deep≤IntKind.i64.max:=by simpa [Lit.wf] using HDP0.out
  omega
 have hx:toB (ints (gen (codec P) V))=gen (codec P) V++[]:=by rw [toB_ints,List.append_nil]
 have hlim:(ints (gen (codec P) V)).length≤140737488355328:=by
  have h1:=enc_len P (cfgOf plain rb sb ms ct fr) (ops V)
  have h2:=costs_ops V
  rw [enc_right P (cfgOf plain rb sb ms ct fr) V hright hwV (by omega)] at h1
  dsimp only at h1
  rw [ints_length]
  omega
 have HS:=Lib.hid (fun W (hB:Below W6.heap.size W6 W)=>Skip_right P hP01 plain rb sb ms ct fr hf32 hc hm V hright hwV (by omega) ao cb _ [] W (HE.out.below (HW6.out.trans (hB.mono HW6.out.size)) HE.out.lt) (Kd.C_below HCb.out hB) (ints_ok _) hlim hx deep hdp)
 have HDD:=Lib.hid (fun W hB=>deepness_any hV (by omega) HK.out W hB)
 by_cases hD:deep < (deepV V:Int)
 case pos =>
  have HG:=Lib.hid (Get_deep P hP01 plain rb sb ms ct fr hf32 hc hm V hright hwV (by omega) ao cb _ [] W6 (HE.out.below HW6.out HE.out.lt) HCb.out (ints_ok _) hlim hx deep hD hdp.1)
  go_wp2_with (fail)
  refine HG.out.mono ?_
  rintro e W7 ⟨cs,X,n,rfl,hX7,hB7⟩
  obtain ⟨A2,c2,A5,c5,A6,c6,rfl,-⟩:=kVal_open hX7
  clear hX7 p0 p1 p2 p3 p4 p5 p6 q0 q1 q2 q3 q4 q5 q6
  have hB7a:Below W6.heap.size W6 (W7.alloc (.cells #[.int .i64 X.f0,.int .i64 X.f1,.slice A2 X.f2.length c2,.int .i64 X.f3,.int .i64 X.f4,.slice A5 X.f5.length c5,.slice A6 X.f6.length c6] 28)):=hB7.alloc hB7.size _
  have HB7:=Lib.hid hB7a
  have hs7:=hB7a.size
  obtain ⟨p0,p1,p2,p3,p4,p5,p6⟩:=HX6.out.of hB7a (by omega)
  obtain ⟨q0,q1,q2,q3,q4,q5,q6⟩:=HY6.out.of hB7a (by omega)
  clear hB7 hB7a
  go_wp2_with (fail)
  refine (HS.out (W7.alloc _) HB7.out).mono ?_
  rintro e W8 ⟨m,rfl,-,hB8⟩
  rw [if_pos hD]
  clear p0 p1 p2 p3 p4 p5 p6 q0 q1 q2 q3 q4 q5 q6
  have HB8:=Lib.hid (HB7.out.trans (hB8.mono hs7))
  have HW8:=Lib.hid (HW6.out.trans ((HB7.out.trans (hB8.mono hs7)).mono HW6.out.size))
  obtain ⟨q0,q1,q2,q3,q4,q5,q6⟩:=HY6.out.of HB8.out (by omega)
  clear hB8
  go_wp2_with (fail)
  refine (HDD.out W8 HW8.out).mono ?_
  rintro e W9 ⟨rfl,hB9⟩
  have HW9:=Lib.hid (HW8.out.trans (hB9.mono HW8.out.size))
  clear hB9 q0 q1 q2 q3 q4 q5 q6
  go_wp2_with (go_at_call 16;refine (hk.out _).mono ?_;rintro e w' ⟨rfl,hb⟩)
  go_ret
  exact ⟨rfl,HW9.out.trans (hb.mono HW9.out.size)⟩
 case neg =>
  have hDn:=Lib.hid hD
  have HG:=Lib.hid (Get_right P hP01 plain rb sb ms ct fr hf32 hc hm V hright hwV (by omega) ao cb _ [] W6 (HE.out.below HW6.out HE.out.lt) HCb.out (ints_ok _) hlim hx deep (by omega) hdp.2)
  go_wp2_with (fail)
  refine HG.out.mono ?_
  rintro e W7 ⟨cs,rfl,hX7',hB7⟩
  have hX7:=hX7'.now
  clear hX7'
  obtain ⟨A2,c2,A5,c5,A6,c6,rfl,-⟩:=kVal_open hX7
  clear hX7 p0 p1 p2 p3 p4 p5 p6 q0 q1 q2 q3 q4 q5 q6
  have hB7a:Below W6.heap.size W6 (W7.alloc (.cells #[.int .i64 (plV (decide (P=1)) V).f0,.int .i64 (plV (decide (P=1)) V).f1,.slice A2 (plV (decide (P=1)) V).f2.length c2,.int .i64 (plV (decide (P=1)) V).f3,.int .i64 (plV (decide (P=1)) V).f4,.slice A5 (plV (decide (P=1)) V).f5.length c5,.slice A6 (plV (decide (P=1)) V).f6.length c6] 28)):=hB7.alloc hB7.size _
  have HB7:=Lib.hid hB7a
  have hs7:=hB7a.size
  obtain ⟨p0,p1,p2,p3,p4,p5,p6⟩:=HX6.out.of hB7a (by omega)
  obtain ⟨q0,q1,q2,q3,q4,q5,q6⟩:=HY6.out.of hB7a (by omega)
  clear hB7 hB7a
  go_wp2_with (fail)
  refine (HS.out (W7.alloc _) HB7.out).mono ?_
  rintro e W8 ⟨m,rfl,hm0,hB8⟩
  obtain rfl:=hm0 hDn.out
  rw [if_neg (Int.not_lt.2 hDn.out)]
  clear p0 p1 p2 p3 p4 p5 p6 q0 q1 q2 q3 q4 q5 q6 hm0
  have HB8:=Lib.hid (HB7.out.trans (hB8.mono hs7))
  have HW8:=Lib.hid (HW6.out.trans ((HB7.out.trans (hB8.mono hs7)).mono HW6.out.size))
  obtain ⟨q0,q1,q2,q3,q4,q5,q6⟩:=HY6.out.of HB8.out (by omega)
  clear hB8
  go_wp2_with (fail)
  refine (HDD.out W8 HW8.out).mono ?_
  rintro e W9 ⟨rfl,hB9⟩
  have HW9:=Lib.hid (HW8.out.trans (hB9.mono HW8.out.size))
  clear hB9 q0 q1 q2 q3 q4 q5 q6
  go_wp2_with (go_at_call 16;refine (hk.out _).mono ?_;rintro e w' ⟨rfl,hb⟩)
  go_ret
  exact ⟨rfl,HW9.out.trans (hb.mono HW9.out.size)⟩

end Go.Proofs.YtmjcnomgpikncaaGreatDoor
