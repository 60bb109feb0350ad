/- The walk of FnThereBack. -/
import Derived.Test.YtmjcnomgpikncaaGreatDoorMz1
import Derived.Test.YtmjcnomgpikncaaGreatDoorMz4
import Derived.Test.YtmjcnomgpikncaaGreatDoorMs1
import Derived.Test.YtmjcnomgpikncaaGreatDoorMr
import Derived.Test.YtmjcnomgpikncaaGreatDoorMg1
import Derived.Test.YtmjcnomgpikncaaGreatDoorMn
import Derived.Test.YtmjcnomgpikncaaGreatDoorMy5
import Derived.Test.YtmjcnomgpikncaaGreatDoorMz2
import Derived.Test.YtmjcnomgpikncaaGreatDoorMs2
import Derived.Test.YtmjcnomgpikncaaGreatDoorMb2
import Derived.Test.YtmjcnomgpikncaaGreatDoorMb1
namespace Go.Proofs.YtmjcnomgpikncaaGreatDoor
open Go.RowKit Go.Deep
set_option linter.unusedVariables false
set_option linter.unusedSimpArgs false
open Go.Proofs.YtmjcnomgpikncaaGreatDoorW.PrintWords Go.Proofs.YtmjcnomgpikncaaGreatDoorW.PrintLast

theorem and1 (p:Int):bits .and .i64 p 1=0∨bits .and .i64 p 1=1:=by
  rw [i64_one]
  omega

set_option maxRecDepth 100000 in
set_option maxHeartbeats 2000000 in
theorem fnThereBack_walk (proto:Int) (plain rb sb:Bool) (ms ct fr:Int) (x0 x1 x2 x3 x4 x5 x6:Value) (V:Val) (A:Option Addr) (la ca:Nat) (zs:List Int) (w:World) (hf:(Lit.int .i64 proto).wf=true∧(Lit.int .i32 ms).wf=true∧(Lit.int .i32 ct).wf=true∧(Lit.int .i32 fr).wf=true)
 (hK:kVal.K w V [x0,x1,x2,x3,x4,x5,x6]) (hV:okV V)
 (hr:IsRow .u8 w A la ca zs) (hE:EofAt w) :
 Calls Tryz.prog 5 #[confV proto plain rb sb ms ct fr,.agg #[x0,x1,x2,x3,x4,x5,x6],.slice A la ca] w fun e w'=>e=.returned (.bool true)∧Below w.heap.size w w':=by
 have hf32:(cfgOf plain rb sb ms ct fr).fit:=by
  have e1:IntKind.i32.min=-2147483648:=by decide
  have e2:IntKind.i32.max=2147483647:=by decide
  have h1:IntKind.i32.min≤ms∧ms≤IntKind.i32.max:=by simpa [Lit.wf] using hf.2.1
  have h2:IntKind.i32.min≤ct∧ct≤IntKind.i32.max:=by simpa [Lit.wf] using hf.2.2.1
  refine ⟨⟨?_,?_⟩,⟨?_,?_⟩⟩ <;> simp only [cfgOf] <;> omega
 have hpr:-9223372036854775808≤proto∧proto < 9223372036854775808:=by
  have e1:IntKind.i64.min=-9223372036854775808:=by decide
  have e2:IntKind.i64.max=9223372036854775807:=by decide
  have h1:IntKind.i64.min≤proto∧proto≤IntKind.i64.max:=by simpa [Lit.wf] using hf.1
  omega
 have hx0:x0=.int .i64 V.f0:=by
  obtain ⟨A2,c2,A5,c5,A6,c6,he,-⟩:=kVal_open hK
  simp only [List.cons.injEq,and_true] at he
  exact he.1
 subst hx0
 have hcapA:la≤ca:=hr.cap
 obtain ⟨sv,rfl,hA,h8⟩:=row_bytes hr
 clear hr
 clear hf
 have hk:=Lib.hid known_any
 obtain ⟨bw,hbw⟩:∃ bw,wideB plain ms ct fr=bw:=⟨_,rfl⟩
 have HWD:=Lib.hid (fun W=>hbw ▸ isWide_w proto plain rb sb ms ct fr W)
 have HBW:=Lib.hid hbw
 clear hbw
 have HF:=Lib.hid (fun W hB=>fits_any hK W hB)
 have HH:=Lib.hid (fun W hB A c=>heavy_any hV hK W hB A c)
 have HR:=Lib.hid (fun W hB=>right_any2 hV hK W hB)
 have HP:=Lib.hid (fun hw n W hB hr h0=>Put_C V hw n plain rb sb ms ct fr _ x1 x2 x3 x4 x5 x6 W (kVal.K_below hB hK) hr h0)
 have HK:=Lib.hid hK
 clear hK
 have HE:=Lib.hid hE
 clear hE
 go_enter Tryz.func5,Tryz.ntmps5
 go_wp2_with (fail)
 obtain ⟨W0,hW0⟩:∃ W0,W0=(w.alloc (.cells #[.int .i64 proto,.bool plain,.bool rb,.bool sb,.int .i32 ms,.int .i32 ct,.int .i32 fr] 23)).alloc (.cells #[.int .i64 V.f0,x1,x2,x3,x4,x5,x6] 28):=⟨_,rfl⟩
 have hsz:W0.heap.size=w.heap.size+1+1:=by rw [hW0];simp
 have B0:Box7 w.heap.size (.int .i64 proto) (.bool plain) (.bool rb) (.bool sb) (.int .i32 ms) (.int .i32 ct) (.int .i32 fr) W0:=by
  rw [hW0];exact Box7.at_ (heap_alloc_old (heap_alloc_new w _) _)
 have B1:Box7 (w.heap.size+1) (.int .i64 V.f0) x1 x2 x3 x4 x5 x6 W0:=by
  rw [hW0];exact Box7.at_ (heap_alloc_at (by simp) _)
 have F0:W0.frozen? ⟨w.heap.size,0,none⟩=false:=by
  rw [hW0];exact frozen_heap (heap_alloc_old (heap_alloc_new w _) _) 0
 have HW0:=Lib.hid (show Below w.heap.size w W0 from by rw [hW0];exact ((Below.refl _ w).alloc (Nat.le_refl _) _).alloc (by simp) _)
 rw [← hW0]
 have HB0:=Lib.hid (show Box7 w.heap.size (.int .i64 proto) (.bool plain) (.bool rb) (.bool sb) (.int .i32 ms) (.int .i32 ct) (.int .i32 fr) W0∧Box7 (w.heap.size+1) (.int .i64 V.f0) x1 x2 x3 x4 x5 x6 W0 from ⟨B0,B1⟩)
 have HF0:=Lib.hid F0
 clear hW0 B0 B1 F0
 refine (HF.out _ HW0.out).mono ?_
 rintro e W1 ⟨rfl,hB1⟩
 have HB1:=Lib.hid hB1
 have HW1:=Lib.hid (HW0.out.trans (hB1.mono HW0.out.size))
 clear hB1
 cases hfit:fitsV V
 · go_wp2_with (fail)
   go_ret
   exact ⟨rfl,HW1.out⟩
 by_cases hl1:sv.length≤2147483647
 case neg =>
  have hl1':¬ ((sv.length:Int)≤2147483647):=by omega
  go_wp2_with (fail)
  go_ret
  exact ⟨rfl,HW1.out⟩
 have hl1':(sv.length:Int)≤2147483647:=by omega
 obtain ⟨p0,p1,p2,p3,p4,p5,p6⟩:=HB0.out.2.of HB1.out (by omega)
 go_wp2_with (fail)
 refine (HH.out _ (HW1.out.alloc HW1.out.size _) ⟨W1.heap.size,0,none⟩ 1 (Nat.le_refl _) ?_ ?_ ?_ ?_ ?_ ?_ ?_).mono ?_
 any_goals (rw [Lib.addr_add,cell_heap (heap_alloc_new _ _)];rfl)
 rintro e W3 ⟨rfl,hB3⟩
 have hs1:=HB1.out.size
 have HB3:=Lib.hid ((HB1.out.alloc hs1 (.cells #[.int .i64 V.f0,x1,x2,x3,x4,x5,x6] 28)).trans (hB3.mono (by simp;omega)))
 have HW3:=Lib.hid ((HW1.out.alloc HW1.out.size (.cells #[.int .i64 V.f0,x1,x2,x3,x4,x5,x6] 28)).trans (hB3.mono (by have:=HW1.out.size;simp;omega)))
 clear hB3 p0 p1 p2 p3 p4 p5 p6
 cases hheavy:heavyV V
 case true =>
  go_wp2_with (go_at_call 16;refine (hk.out _).mono ?_;rintro e w' ⟨rfl,hb⟩)
  go_ret
  exact ⟨rfl,HW3.out.trans (hb.mono HW3.out.size)⟩
 have ht:=heavyV_tot hheavy
 by_cases hm2:sv.length≤65536
 case neg =>
  have hm2':¬ ((sv.length:Int)≤65536):=by omega
  go_wp2_with (go_at_call 16;refine (hk.out _).mono ?_;rintro e w' ⟨rfl,hb⟩)
  go_ret
  exact ⟨rfl,HW3.out.trans (hb.mono HW3.out.size)⟩
 have hm2':(sv.length:Int)≤65536:=by omega
 obtain ⟨p0,p1,p2,p3,p4,p5,p6⟩:=HB0.out.2.of HB3.out (by omega)
 go_wp2_with (fail)
 refine (HR.out W3 HW3.out).mono ?_
 rintro e W4 ⟨rfl,hB4⟩
 have HB4:=Lib.hid (HB3.out.trans (hB4.mono HB3.out.size))
 have HW4:=Lib.hid (HW3.out.trans (hB4.mono HW3.out.size))
 clear hB4 p0 p1 p2 p3 p4 p5 p6
 cases hright:rightV V
 case false =>
  go_wp2_with (go_at_call 16;refine (hk.out _).mono ?_;rintro e w' ⟨rfl,hb⟩)
  go_ret
  exact ⟨rfl,HW4.out.trans (hb.mono HW4.out.size)⟩
 obtain ⟨q0,q1,q2,q3,q4,q5,q6⟩:=HB0.out.1.of HB4.out (by omega)
 go_wp2_with (fail)
 refine (HWD.out W4).mono ?_
 rintro e W5 ⟨rfl,hB5⟩
 have HB5:=Lib.hid (HB4.out.trans (hB5.mono HB4.out.size))
 have HW5:=Lib.hid (HW4.out.trans (hB5.mono HW4.out.size))
 clear hB5 q0 q1 q2 q3 q4 q5 q6
 by_cases hbw:bw=false
 case pos =>
  subst hbw
  go_wp2_with (go_at_call 16;refine (hk.out _).mono ?_;rintro e w' ⟨rfl,hb⟩)
  go_ret
  exact ⟨rfl,HW5.out.trans (hb.mono HW5.out.size)⟩
 obtain rfl:bw=true:=by simpa using hbw
 clear hbw
 obtain ⟨hm,hc⟩:=wideB_of (rb:=rb) (sb:=sb) (fr:=fr) HBW.out |>.symm |> fun h=>And.intro h.2 h.1
 obtain ⟨P,hP⟩:∃ P,bits .and .i64 proto 1=P:=⟨_,rfl⟩
 have hP01:P=0∨P=1:=by rw [← hP];exact and1 proto
 have f0:W5.frozen? ⟨w.heap.size,0,none⟩=false:=by
  rw [HB5.out.frozen (show w.heap.size < W0.heap.size by omega)]
  exact HF0.out
 have hwV:=tot_wf V hV (by omega)
 have hen:=enc_right P (cfgOf plain rb sb ms ct fr) V hright hwV (by omega)
 have HPT:=Lib.hid (fun W hB=>HP.out hwV P W hB (by have:=costs_ops V;omega) (by rw [hen]))
 rw [hen] at HPT
 have hbx:Box7 w.heap.size (.int .i64 P) (.bool plain) (.bool rb) (.bool sb) (.int .i32 ms) (.int .i32 ct) (.int .i32 fr) (W5.setCell ⟨w.heap.size,0,none⟩ (.int .i64 P)):=(HB0.out.1.of HB5.out (by omega)).proto _
 have hby:Box7 (w.heap.size+1) (.int .i64 V.f0) x1 x2 x3 x4 x5 x6 (W5.setCell ⟨w.heap.size,0,none⟩ (.int .i64 P)):=(HB0.out.2.of HB5.out (by omega)).other (by omega) _ _
 obtain ⟨q0,q1,q2,q3,q4,q5,q6⟩:=HB0.out.1.of HB5.out (by omega)
 obtain ⟨p0,p1,p2,p3,p4,p5,p6⟩:=HB0.out.2.of HB5.out (by omega)
 have hs5:=HB5.out.size
 clear HP hen
 go_wp2_with (fail)
 obtain ⟨Wa,hWa⟩:∃ Wa,Wa=W5.setCell ⟨w.heap.size,0,none⟩ (.int .i64 P):=⟨_,rfl⟩
 have HWa:=Lib.hid (show Below w.heap.size w Wa from by rw [hWa];exact HW5.out.setCell (Nat.le_refl _) _)
 have hsa:w.heap.size+1+1≤Wa.heap.size:=by rw [hWa];simp;omega
 rw [← hWa] at hbx hby ⊢
 have HX:=Lib.hid hbx
 have HY:=Lib.hid hby
 clear hWa hbx hby q0 q1 q2 q3 q4 q5 q6 p0 p1 p2 p3 p4 p5 p6 f0
 refine (HPT.out Wa HWa.out).mono ?_
 rintro e W6 ⟨v,k,rfl,hk6,hi6,hB6⟩
 have HW6:=Lib.hid (HWa.out.trans (hB6.mono HWa.out.size))
 have hs6:=hB6.size
 have HX6:=Lib.hid (HX.out.of hB6 (by omega))
 have HY6:=Lib.hid (HY.out.of hB6 (by omega))
 obtain ⟨ao,cb,rfl,hcb,hCb⟩:=hi6.ints
 have HCb:=Lib.hid hCb
 clear hB6 hi6 hk6 hCb
 obtain ⟨p0,p1,p2,p3,p4,p5,p6⟩:=HX6.out
 obtain ⟨q0,q1,q2,q3,q4,q5,q6⟩:=HY6.out
 have hlt6a:w.heap.size < W6.heap.size:=by omega
 have hlt6b:w.heap.size+1 < W6.heap.size:=by omega
 have hgl:(gen (codec P) V).length≤7000000:=by
  have h1:=enc_len P (cfgOf plain rb sb ms ct fr) (ops V)
  have h2:=costs_ops V
  rw [enc_right P (cfgOf plain rb sb ms ct fr) V hright hwV (by omega)] at h1
  dsimp only at h1
  omega
 have HJ:=Lib.hid (fun W blk (hB:Below W6.heap.size W6 W) (h0:W.cell? ⟨blk,0,none⟩=some (.slice ao (ints (gen (codec P) V)).length cb)) (h1:W.cell? ⟨blk,1,none⟩=some (.slice A sv.length ca))=>joined_any (W:=W) blk 2 [ints (gen (codec P) V),sv] (by simp) (by simp) (by simp) (by simp [ints_length];omega) (fun j p hj=>by
  match j,hj with
  | 0,hj=>simp only [List.getElem?_cons_zero,Option.some.injEq] at hj;subst hj;exact ⟨_,_,h0,hcb,Kd.C_below HCb.out hB⟩
  | 1,hj=>simp only [List.getElem?_cons_succ,List.getElem?_cons_zero,Option.some.injEq] at hj;subst hj;exact ⟨_,_,h1,hcapA,Kd.C_below hA (HW6.out.trans (hB.mono HW6.out.size))⟩
  | j+2,hj=>simp at hj))
 have HPS:=Lib.hid (fun W (hB:Below W6.heap.size W6 W)=>show W.cell? ⟨w.heap.size,0,none⟩=some (.int .i64 P)∧W.cell? ⟨w.heap.size,1,none⟩=some (.bool plain)∧W.cell? ⟨w.heap.size,2,none⟩=some (.bool rb)∧W.cell? ⟨w.heap.size,3,none⟩=some (.bool sb)∧W.cell? ⟨w.heap.size,4,none⟩=some (.int .i32 ms)∧W.cell? ⟨w.heap.size,5,none⟩=some (.int .i32 ct)∧W.cell? ⟨w.heap.size,6,none⟩=some (.int .i32 fr)∧W.cell? ⟨w.heap.size+1,0,none⟩=some (.int .i64 V.f0)∧W.cell? ⟨w.heap.size+1,1,none⟩=some (x1)∧W.cell? ⟨w.heap.size+1,2,none⟩=some (x2)∧W.cell? ⟨w.heap.size+1,3,none⟩=some (x3)∧W.cell? ⟨w.heap.size+1,4,none⟩=some (x4)∧W.cell? ⟨w.heap.size+1,5,none⟩=some (x5)∧W.cell? ⟨w.heap.size+1,6,none⟩=some (x6) from by
  obtain ⟨p0,p1,p2,p3,p4,p5,p6⟩:=HX6.out.of hB (by omega)
  obtain ⟨q0,q1,q2,q3,q4,q5,q6⟩:=HY6.out.of hB (by omega)
  exact ⟨p0,p1,p2,p3,p4,p5,p6,q0,q1,q2,q3,q4,q5,q6⟩)
 obtain ⟨ys,hys⟩:∃ ys:List Int,[ints (gen (codec P) V),sv].flatten=ys:=⟨_,rfl⟩
 have hysB:toB ys=gen (codec P) V++toB sv:=by
  rw [← hys]
  have:=toB_ints (gen (codec P) V)
  unfold toB at this ⊢
  simp [this]
 have hys8:∀ x∈ys,0≤x∧x < 256:=by
  rw [← hys]
  intro x hx
  simp only [List.flatten_cons,List.flatten_nil,List.append_nil,List.mem_append] at hx
  rcases hx with hx | hx
  · exact ints_ok _ x hx
  · exact h8 x hx
 have hysl:ys.length≤140737488355328:=by
  rw [← hys]
  simp [ints_length]
  omega
 rw [hys] at HJ
 have HEO:=Lib.hid (fun W (hB:Below W6.heap.size W6 W)=>HE.out.below (HW6.out.trans (hB.mono HW6.out.size)) HE.out.lt)
 have hdt:=deep_tot V
 have HGT:=Lib.hid (fun W D cd (hEW:EofAt W) (hD:(Kd.int .u8).C W D ys.length ys)=>Get_right P hP01 plain rb sb ms ct fr hf32 hc hm V hright hwV (by omega) D cd ys (toB sv) W hEW hD hys8 hysl hysB (deepV V:Nat) (by omega) (by omega))
 have HDD:=Lib.hid (fun W hB=>deepness_any hV (by omega) HK.out W hB)
 clear hys hys8 hysB h8
 go_wp2_with (fail)
 clear p0 p1 p2 p3 p4 p5 p6 q0 q1 q2 q3 q4 q5 q6
 refine start_ (n:=18) (S:=(fun W'=>W'.cell? ⟨w.heap.size,0,none⟩=some (.int .i64 P)∧W'.cell? ⟨w.heap.size,1,none⟩=some (.bool plain)∧W'.cell? ⟨w.heap.size,2,none⟩=some (.bool rb)∧W'.cell? ⟨w.heap.size,3,none⟩=some (.bool sb)∧W'.cell? ⟨w.heap.size,4,none⟩=some (.int .i32 ms)∧W'.cell? ⟨w.heap.size,5,none⟩=some (.int .i32 ct)∧W'.cell? ⟨w.heap.size,6,none⟩=some (.int .i32 fr)∧W'.cell? ⟨w.heap.size+1,0,none⟩=some (.int .i64 V.f0)∧W'.cell? ⟨w.heap.size+1,1,none⟩=some (x1)∧W'.cell? ⟨w.heap.size+1,2,none⟩=some (x2)∧W'.cell? ⟨w.heap.size+1,3,none⟩=some (x3)∧W'.cell? ⟨w.heap.size+1,4,none⟩=some (x4)∧W'.cell? ⟨w.heap.size+1,5,none⟩=some (x5)∧W'.cell? ⟨w.heap.size+1,6,none⟩=some (x6))) (ds:=[15]) #[false,false,false,false,false,false,false,false,false,false,false,false,false,false,false,false,false,false] (by kernel_rfl) rfl rfl (HPS.out _ (Below.drew (Below.refl _ _))) (fun hHeld=>?_)
 refine pure_ (i:=1) (N:=(some 51)) (v:=?_) (a':=?_) #[false,true,false,false,false,false,false,false,false,false,false,false,false,false,false,false,false,false] rfl rfl (by kernel_rfl) (fun _ _ _ h=>h) (Or.inl ⟨by rfl,?_⟩) ?_ ?_
 rotate_left
 · intro w'
   go_simp
   with_reducible rfl
 rotate_left
 · simp only [Act.put,List.setIfInBounds_toArray,List.set_cons_zero,List.set_cons_succ]
   rfl
 refine pure_ (i:=3) (N:=(some 53)) (v:=?_) (a':=?_) #[false,true,false,true,false,false,false,false,false,false,false,false,false,false,false,false,false,false] rfl rfl (by kernel_rfl) (fun _ _ _ h=>h) (Or.inl ⟨by rfl,?_⟩) ?_ ?_
 rotate_left
 · intro w'
   go_simp
   with_reducible rfl
 rotate_left
 · simp only [Act.put,List.setIfInBounds_toArray,List.set_cons_zero,List.set_cons_succ]
   rfl
 refine pure_ (i:=4) (N:=(some 54)) (v:=?_) (a':=?_) #[false,true,false,true,true,false,false,false,false,false,false,false,false,false,false,false,false,false] rfl rfl (by kernel_rfl) (fun _ _ _ h=>h) (Or.inl ⟨by rfl,?_⟩) ?_ ?_
 rotate_left
 · intro w'
   go_simp
   with_reducible rfl
 rotate_left
 · simp only [Act.put,List.setIfInBounds_toArray,List.set_cons_zero,List.set_cons_succ]
   rfl
 refine take_ (i:=0) (N:=(some 50)) (v:=?_) (a':=?_) #[true,true,false,true,true,false,false,false,false,false,false,false,false,false,false,false,false,false] rfl rfl (by kernel_rfl) (fun _ _ _ h=>h) (Or.inl ⟨by rfl,?_⟩) hHeld ?_ ?_
 rotate_left
 · rintro w' ⟨s0,s1,s2,s3,s4,s5,s6,s7,s8,s9,s10,s11,s12,s13⟩
   go_simp
   with_reducible rfl
 rotate_left
 · simp only [Act.put,List.setIfInBounds_toArray,List.set_cons_zero,List.set_cons_succ]
   rfl
 refine take_ (i:=2) (N:=(some 52)) (v:=?_) (a':=?_) #[true,true,true,true,true,false,false,false,false,false,false,false,false,false,false,false,false,false] rfl rfl (by kernel_rfl) (fun _ _ _ h=>h) (Or.inl ⟨by rfl,?_⟩) hHeld ?_ ?_
 rotate_left
 · rintro w' ⟨s0,s1,s2,s3,s4,s5,s6,s7,s8,s9,s10,s11,s12,s13⟩
   go_simp
   with_reducible rfl
 rotate_left
 · simp only [Act.put,List.setIfInBounds_toArray,List.set_cons_zero,List.set_cons_succ]
   rfl
 refine take_ (i:=7) (N:=(some 57)) (v:=?_) (a':=?_) #[true,true,true,true,true,false,false,true,false,false,false,false,false,false,false,false,false,false] rfl rfl (by kernel_rfl) (fun _ _ _ h=>h) (Or.inl ⟨by rfl,?_⟩) hHeld ?_ ?_
 rotate_left
 · rintro w' ⟨s0,s1,s2,s3,s4,s5,s6,s7,s8,s9,s10,s11,s12,s13⟩
   go_simp
   with_reducible rfl
 rotate_left
 · simp only [Act.put,List.setIfInBounds_toArray,List.set_cons_zero,List.set_cons_succ]
   rfl
 refine join_ (σ:=Nat × Nat × Option Addr × Nat × Option Addr × Nat × Option Addr × Nat × Option Addr × Nat) 3 #[true,true,true,true,true,true,true,true,true,true,true,true,true,true,true,false,false,false] (fun s=>[(55,.slice (some ⟨s.2.1,0,none⟩) 2 2),(56,.slice s.2.2.1 ys.length s.2.2.2.1),(58,.int .i64 (deepV V:Nat)),(59,.tuple #[.agg #[.int .i64 (plV (decide (P=1)) V).f0,.int .i64 (plV (decide (P=1)) V).f1,.slice s.2.2.2.2.1 (plV (decide (P=1)) V).f2.length s.2.2.2.2.2.1,.int .i64 (plV (decide (P=1)) V).f3,.int .i64 (plV (decide (P=1)) V).f4,.slice s.2.2.2.2.2.2.1 (plV (decide (P=1)) V).f5.length s.2.2.2.2.2.2.2.1,.slice s.2.2.2.2.2.2.2.2.1 (plV (decide (P=1)) V).f6.length s.2.2.2.2.2.2.2.2.2],.int .i64 0,.int .i64 (toB sv).length]),(49,.tuple #[.agg #[.int .i64 (plV (decide (P=1)) V).f0,.int .i64 (plV (decide (P=1)) V).f1,.slice s.2.2.2.2.1 (plV (decide (P=1)) V).f2.length s.2.2.2.2.2.1,.int .i64 (plV (decide (P=1)) V).f3,.int .i64 (plV (decide (P=1)) V).f4,.slice s.2.2.2.2.2.2.1 (plV (decide (P=1)) V).f5.length s.2.2.2.2.2.2.2.1,.slice s.2.2.2.2.2.2.2.2.1 (plV (decide (P=1)) V).f6.length s.2.2.2.2.2.2.2.2.2],.int .i64 0,.int .i64 (toB sv).length]),(60,.agg #[.int .i64 (plV (decide (P=1)) V).f0,.int .i64 (plV (decide (P=1)) V).f1,.slice s.2.2.2.2.1 (plV (decide (P=1)) V).f2.length s.2.2.2.2.2.1,.int .i64 (plV (decide (P=1)) V).f3,.int .i64 (plV (decide (P=1)) V).f4,.slice s.2.2.2.2.2.2.1 (plV (decide (P=1)) V).f5.length s.2.2.2.2.2.2.2.1,.slice s.2.2.2.2.2.2.2.2.1 (plV (decide (P=1)) V).f6.length s.2.2.2.2.2.2.2.2.2]),(61,.int .i64 0),(62,.int .i64 (toB sv).length),(9,.pointer (some ⟨s.1,0,none⟩))]) (fun s w9=>w9.heap[s.1]?=some (.cells #[.int .i64 0,.int .i64 0,.slice none 0 0,.int .i64 0,.int .i64 0,.slice none 0 0,.slice none 0 0] 28 (0,0))∧HasO (fun b=>b≠s.1) w9 (plV (decide (P=1)) V) [.int .i64 (plV (decide (P=1)) V).f0,.int .i64 (plV (decide (P=1)) V).f1,.slice s.2.2.2.2.1 (plV (decide (P=1)) V).f2.length s.2.2.2.2.2.1,.int .i64 (plV (decide (P=1)) V).f3,.int .i64 (plV (decide (P=1)) V).f4,.slice s.2.2.2.2.2.2.1 (plV (decide (P=1)) V).f5.length s.2.2.2.2.2.2.2.1,.slice s.2.2.2.2.2.2.2.2.1 (plV (decide (P=1)) V).f6.length s.2.2.2.2.2.2.2.2.2]∧Below W6.heap.size W6 w9∧W6.heap.size≤s.1) ?cont (fun HCONT=>?_)
 case cont =>
  rintro ⟨bw,q,D,cd,A2,c2,A5,c5,A6,c6⟩ w9 ⟨hz9,hk9,hb9,hbw⟩
  dsimp only at hz9 hk9 hbw ⊢
  have fz9:=frozen_heap hz9
  obtain ⟨z0,z1,z2,z3,z4,z5,z6⟩:=cells7 hz9
  have lt9:=lt_heap hz9
  simp only [putAll,Act.put,List.setIfInBounds_toArray,List.set_cons_zero,List.set_cons_succ]
  refine last_ (i:=15) (N:=none) #[true,true,true,true,true,true,true,true,true,true,true,true,true,true,true,true,false,false] rfl rfl (by kernel_rfl) (by decide) (fun K hK=>?_)
  refine skip_ (w1:=(((((((w9.setCell ⟨bw,0,none⟩ (.int .i64 (plV (decide (P=1)) V).f0)).setCell ⟨bw,1,none⟩ (.int .i64 (plV (decide (P=1)) V).f1)).setCell ⟨bw,2,none⟩ (.slice A2 (plV (decide (P=1)) V).f2.length c2)).setCell ⟨bw,3,none⟩ (.int .i64 (plV (decide (P=1)) V).f3)).setCell ⟨bw,4,none⟩ (.int .i64 (plV (decide (P=1)) V).f4)).setCell ⟨bw,5,none⟩ (.slice A5 (plV (decide (P=1)) V).f5.length c5)).setCell ⟨bw,6,none⟩ (.slice A6 (plV (decide (P=1)) V).f6.length c6))) (by rfl) rfl (by go_simp) ?_
  refine hK.out _ _ ?_
  clear hK K
  obtain ⟨wx,e2,hx9,hs9⟩:=set7 hz9 (.int .i64 (plV (decide (P=1)) V).f0) (.int .i64 (plV (decide (P=1)) V).f1) (.slice A2 (plV (decide (P=1)) V).f2.length c2) (.int .i64 (plV (decide (P=1)) V).f3) (.int .i64 (plV (decide (P=1)) V).f4) (.slice A5 (plV (decide (P=1)) V).f5.length c5) (.slice A6 (plV (decide (P=1)) V).f6.length c6)
  rw [e2]
  refine pure_ (i:=16) (N:=(some 10)) (v:=?_) (a':=?_) #[true,true,true,true,true,true,true,true,true,true,true,true,true,true,true,true,true,false] rfl rfl (by kernel_rfl) (fun _ _ _ h=>h) (Or.inl ⟨by rfl,?_⟩) ?_ ?_
  rotate_left
  · intro w'
    go_simp
    with_reducible rfl
  rotate_left
  · simp only [Act.put,List.setIfInBounds_toArray,List.set_cons_zero,List.set_cons_succ]
    rfl
  refine pure_ (i:=17) (N:=(some 11)) (v:=?_) (a':=?_) #[true,true,true,true,true,true,true,true,true,true,true,true,true,true,true,true,true,true] rfl rfl (by kernel_rfl) (fun _ _ _ h=>h) (Or.inl ⟨by rfl,?_⟩) ?_ ?_
  rotate_left
  · intro w'
    go_simp
    with_reducible rfl
  rotate_left
  · simp only [Act.put,List.setIfInBounds_toArray,List.set_cons_zero,List.set_cons_succ]
    rfl
  refine done_ (by kernel_rfl) ?_
  have hBX:=hb9.trans (hs9.below W6.heap.size hb9.size (fun b hb=>by simp only [List.mem_cons,List.not_mem_nil,or_false] at hb;omega))
  have hHB9:=Lib.hid hBX
  have HWB:=Lib.hid hx9
  have HX9:=Lib.hid (show kVal.K wx (plV (decide (P=1)) V) [.int .i64 (plV (decide (P=1)) V).f0,.int .i64 (plV (decide (P=1)) V).f1,.slice A2 (plV (decide (P=1)) V).f2.length c2,.int .i64 (plV (decide (P=1)) V).f3,.int .i64 (plV (decide (P=1)) V).f4,.slice A5 (plV (decide (P=1)) V).f5.length c5,.slice A6 (plV (decide (P=1)) V).f6.length c6] from (hk9.move (w1:=wx) (fun b hb hlt=>hs9.block b hlt (by simpa using hb)) hs9.size).now)
  clear z0 z1 z2 z3 z4 z5 z6 fz9 lt9 e2 hz9 hk9 hs9 hBX
  have hs9:=hHB9.out.size
  have HW9:=Lib.hid (HW6.out.trans (hHB9.out.mono HW6.out.size))
  obtain ⟨r0,r1,r2,r3,r4,r5,r6⟩:=cells7 HWB.out
  have hwl:=lt_heap HWB.out
  obtain ⟨p0,p1,p2,p3,p4,p5,p6⟩:=HX6.out.of hHB9.out (by omega)
  obtain ⟨q0,q1,q2,q3,q4,q5,q6⟩:=HY6.out.of hHB9.out (by omega)
  have hsl:((toB sv).length:Int)=sv.length:=by simp [toB]
  have HPL:=Lib.hid (fun W (hB:Below wx.heap.size wx W)=>plain_any P (tot V+1) V (by omega) hright hwV (by omega) W [.int .i64 V.f0,x1,x2,x3,x4,x5,x6] (kVal.K_below (HW9.out.trans (hB.mono HW9.out.size)) HK.out))
  have HSS:=Lib.hid (fun W (hB:Below wx.heap.size wx W)=>show W.cell? ⟨w.heap.size,0,none⟩=some (.int .i64 P)∧W.cell? ⟨w.heap.size+1,0,none⟩=some (.int .i64 V.f0)∧W.cell? ⟨w.heap.size+1,1,none⟩=some (x1)∧W.cell? ⟨w.heap.size+1,2,none⟩=some (x2)∧W.cell? ⟨w.heap.size+1,3,none⟩=some (x3)∧W.cell? ⟨w.heap.size+1,4,none⟩=some (x4)∧W.cell? ⟨w.heap.size+1,5,none⟩=some (x5)∧W.cell? ⟨w.heap.size+1,6,none⟩=some (x6)∧W.cell? ⟨bw,0,none⟩=some (.int .i64 (plV (decide (P=1)) V).f0)∧W.cell? ⟨bw,1,none⟩=some (.int .i64 (plV (decide (P=1)) V).f1)∧W.cell? ⟨bw,2,none⟩=some (.slice A2 (plV (decide (P=1)) V).f2.length c2)∧W.cell? ⟨bw,3,none⟩=some (.int .i64 (plV (decide (P=1)) V).f3)∧W.cell? ⟨bw,4,none⟩=some (.int .i64 (plV (decide (P=1)) V).f4)∧W.cell? ⟨bw,5,none⟩=some (.slice A5 (plV (decide (P=1)) V).f5.length c5)∧W.cell? ⟨bw,6,none⟩=some (.slice A6 (plV (decide (P=1)) V).f6.length c6) from by
   obtain ⟨p0,p1,p2,p3,p4,p5,p6⟩:=HX6.out.of (hHB9.out.trans (hB.mono hHB9.out.size)) (by omega)
   obtain ⟨q0,q1,q2,q3,q4,q5,q6⟩:=HY6.out.of (hHB9.out.trans (hB.mono hHB9.out.size)) (by omega)
   obtain ⟨r0,r1,r2,r3,r4,r5,r6⟩:=cells7 ((hB.block _ hwl).trans HWB.out)
   exact ⟨p0,q0,q1,q2,q3,q4,q5,q6,r0,r1,r2,r3,r4,r5,r6⟩)
  go_wp2_with (fail)
  go_region_held3 (fun W'=>W'.cell? ⟨w.heap.size,0,none⟩=some (.int .i64 P)∧W'.cell? ⟨w.heap.size+1,0,none⟩=some (.int .i64 V.f0)∧W'.cell? ⟨w.heap.size+1,1,none⟩=some (x1)∧W'.cell? ⟨w.heap.size+1,2,none⟩=some (x2)∧W'.cell? ⟨w.heap.size+1,3,none⟩=some (x3)∧W'.cell? ⟨w.heap.size+1,4,none⟩=some (x4)∧W'.cell? ⟨w.heap.size+1,5,none⟩=some (x5)∧W'.cell? ⟨w.heap.size+1,6,none⟩=some (x6)∧W'.cell? ⟨bw,0,none⟩=some (.int .i64 (plV (decide (P=1)) V).f0)∧W'.cell? ⟨bw,1,none⟩=some (.int .i64 (plV (decide (P=1)) V).f1)∧W'.cell? ⟨bw,2,none⟩=some (.slice A2 (plV (decide (P=1)) V).f2.length c2)∧W'.cell? ⟨bw,3,none⟩=some (.int .i64 (plV (decide (P=1)) V).f3)∧W'.cell? ⟨bw,4,none⟩=some (.int .i64 (plV (decide (P=1)) V).f4)∧W'.cell? ⟨bw,5,none⟩=some (.slice A5 (plV (decide (P=1)) V).f5.length c5)∧W'.cell? ⟨bw,6,none⟩=some (.slice A6 (plV (decide (P=1)) V).f6.length c6)) (first | exact ⟨p0,q0,q1,q2,q3,q4,q5,q6,r0,r1,r2,r3,r4,r5,r6⟩ | exact HSS.out _ (Below.drew (Below.refl _ _)) | exact HSS.out _ HB12.out | exact HSS.out _ HB11.out | exact HSS.out _ HB10.out)
   (first
    | (go_at_call 24;refine (HPL.out _ (Below.drew (Below.refl _ _))).mono ?_;rintro e W10 ⟨ds,rfl,hO,hB10⟩;have HSM:=Lib.hid (same_any2 (pl_ok (decide (P=1)) V hV) (kVal.K_below ((Below.drew (Below.refl _ _)).trans hB10) HX9.out) hO.now);obtain ⟨E2,e2,E5,e5,E6,e6,rfl,-⟩:=kVal_open hO.now;have HB10:=Lib.hid (show Below wx.heap.size wx W10 from (Below.drew (Below.refl _ _)).trans hB10);clear hO hB10)
    | (go_at_call 23;refine HSM.out.mono ?_;rintro e W11 ⟨rfl,hB11⟩;have HB11:=Lib.hid (HB10.out.trans (hB11.mono HB10.out.size));clear hB11)
    | (go_at_call 16;refine (hk.out _).mono ?_;rintro e W12 ⟨rfl,hb⟩;have HB12:=Lib.hid (HB11.out.trans (hb.mono HB11.out.size));clear hb))
  go_wp2_with (fail)
  go_ret
  exact ⟨rfl,HW9.out.trans (HB12.out.mono HW9.out.size)⟩
 refine two_ (i:=5) (j:=14) (Ni:=(some 55)) (Nj:=(some 9)) #[true,true,true,true,true,true,false,true,false,false,false,false,false,false,false,false,false,false] #[true,true,true,true,true,false,false,true,false,false,false,false,false,false,true,false,false,false] rfl rfl rfl rfl (by kernel_rfl) (by decide) (by decide) (fun K hK=>?_) (fun K hK=>?_)
 · have hdum:=()
   refine value_ (w1:=(W6.alloc (.cells #[.slice ao (ints (gen (codec P) V)).length cb,.slice A sv.length ca] 24)).drew) (v:=.slice (some ⟨W6.heap.size,0,none⟩) 2 2) (by rfl) rfl (by go_simp) ?_
   refine hK.out _ _ (HPS.out _ (by repeat (first | (with_reducible exact HB9.out) | (with_reducible exact HB8.out) | (with_reducible exact HB7.out) | (with_reducible exact Below.refl _ _) | (with_reducible refine Below.drew ?_) | (with_reducible refine Below.alloc ?_ (by first | omega | (simp <;> omega)) _)))) (fun hHeld=>?_)
   clear hK K
   refine norm_ (a':=?_) ?_ ?_
   rotate_left
   · show Act.put _ (some 55) _=_
     simp only [Act.put,List.setIfInBounds_toArray,List.set_cons_zero,List.set_cons_succ]
     rfl
   refine two_ (i:=6) (j:=14) (Ni:=(some 56)) (Nj:=(some 9)) #[true,true,true,true,true,true,true,true,false,false,false,false,false,false,false,false,false,false] #[true,true,true,true,true,true,false,true,false,false,false,false,false,false,true,false,false,false] rfl rfl rfl rfl (by kernel_rfl) (by decide) (by decide) (fun K hK=>?_) (fun K hK=>?_)
   · have hdum:=()
     refine goes_ Tryz.func22 (by kernel_rfl) rfl #[.slice (some ⟨W6.heap.size,0,none⟩) 2 2] (by rfl) rfl rfl (by simp only [Act.eval,List.map_toArray,List.map_cons,List.map_nil];rfl) ?_
     refine (HJ.out ((W6.alloc (.cells #[.slice ao (ints (gen (codec P) V)).length cb,.slice A sv.length ca] 24)).drew) (W6.heap.size) (by repeat (first | (with_reducible exact HB9.out) | (with_reducible exact HB8.out) | (with_reducible exact HB7.out) | (with_reducible exact Below.refl _ _) | (with_reducible refine Below.drew ?_) | (with_reducible refine Below.alloc ?_ (by first | omega | (simp <;> omega)) _))) (by simp [go_sem]) (by simp [go_sem])).mono ?_
     rintro e1 W7 ⟨v7,rfl,hR7,hB7⟩
     obtain ⟨D,cd,rfl,hcd,hCd⟩:=Kd.R_reads hR7
     refine ⟨_,rfl,?_⟩
     have HB7:=Lib.hid ((show Below W6.heap.size W6 ((W6.alloc (.cells #[.slice ao (ints (gen (codec P) V)).length cb,.slice A sv.length ca] 24)).drew) from (by repeat (first | (with_reducible exact HB9.out) | (with_reducible exact HB8.out) | (with_reducible exact HB7.out) | (with_reducible exact Below.refl _ _) | (with_reducible refine Below.drew ?_) | (with_reducible refine Below.alloc ?_ (by first | omega | (simp <;> omega)) _)))).trans (hB7.mono (by first | omega | (simp <;> omega))))
     have hsz7:=HB7.out.size
     have HCD:=Lib.hid hCd
     refine hK.out _ _ (HPS.out _ HB7.out) (fun hHeld=>?_)
     clear hK K
     refine norm_ (a':=?_) ?_ ?_
     rotate_left
     · show Act.put _ (some 56) _=_
       simp only [Act.put,List.setIfInBounds_toArray,List.set_cons_zero,List.set_cons_succ]
       rfl
     refine two_ (i:=8) (j:=14) (Ni:=(some 58)) (Nj:=(some 9)) #[true,true,true,true,true,true,true,true,true,false,false,false,false,false,false,false,false,false] #[true,true,true,true,true,true,true,true,false,false,false,false,false,false,true,false,false,false] rfl rfl rfl rfl (by kernel_rfl) (by decide) (by decide) (fun K hK=>?_) (fun K hK=>?_)
     · have hdum:=()
       refine goes_ Tryz.func20 (by kernel_rfl) rfl #[.agg #[.int .i64 V.f0,x1,x2,x3,x4,x5,x6]] (by rfl) rfl rfl (by simp only [Act.eval,List.map_toArray,List.map_cons,List.map_nil];rfl) ?_
       refine (HDD.out (W7) (HW6.out.trans ((show Below W6.heap.size W6 (W7) from (by repeat (first | (with_reducible exact HB9.out) | (with_reducible exact HB8.out) | (with_reducible exact HB7.out) | (with_reducible exact Below.refl _ _) | (with_reducible refine Below.drew ?_) | (with_reducible refine Below.alloc ?_ (by first | omega | (simp <;> omega)) _)))).mono HW6.out.size))).mono ?_
       rintro e1 W8 ⟨rfl,hB8⟩
       refine ⟨_,rfl,?_⟩
       have HB8:=Lib.hid ((show Below W6.heap.size W6 (W7) from (by repeat (first | (with_reducible exact HB9.out) | (with_reducible exact HB8.out) | (with_reducible exact HB7.out) | (with_reducible exact Below.refl _ _) | (with_reducible refine Below.drew ?_) | (with_reducible refine Below.alloc ?_ (by first | omega | (simp <;> omega)) _)))).trans (hB8.mono (by first | omega | (simp <;> omega))))
       have hsz8:=HB8.out.size
       have HCD:=Lib.hid (Kd.C_below HCD.out hB8)
       refine hK.out _ _ (HPS.out _ HB8.out) (fun hHeld=>?_)
       clear hK K
       refine norm_ (a':=?_) ?_ ?_
       rotate_left
       · show Act.put _ (some 58) _=_
         simp only [Act.put,List.setIfInBounds_toArray,List.set_cons_zero,List.set_cons_succ]
         rfl
       refine two_ (i:=9) (j:=14) (Ni:=(some 59)) (Nj:=(some 9)) #[true,true,true,true,true,true,true,true,true,true,false,false,false,false,false,false,false,false] #[true,true,true,true,true,true,true,true,true,false,false,false,false,false,true,false,false,false] rfl rfl rfl rfl (by kernel_rfl) (by decide) (by decide) (fun K hK=>?_) (fun K hK=>?_)
       · have hdum:=()
         refine goes_ Tryz.func18 (by kernel_rfl) rfl #[.agg #[.int .i64 P,.bool plain,.bool rb,.bool sb,.int .i32 ms,.int .i32 ct,.int .i32 fr],.int .i64 V.f0,.slice D ys.length cd,.int .i64 (deepV V:Nat)] (by rfl) rfl rfl (by simp only [Act.eval,List.map_toArray,List.map_cons,List.map_nil];rfl) ?_
         refine (HGT.out (W8) D cd (HEO.out _ (by repeat (first | (with_reducible exact HB9.out) | (with_reducible exact HB8.out) | (with_reducible exact HB7.out) | (with_reducible exact Below.refl _ _) | (with_reducible refine Below.drew ?_) | (with_reducible refine Below.alloc ?_ (by first | omega | (simp <;> omega)) _)))) HCD.out).mono ?_
         rintro e1 W9 ⟨cs9,rfl,hX9,hB9⟩
         obtain ⟨A2,c2,A5,c5,A6,c6,rfl,-⟩:=kVal_open hX9.now
         refine ⟨_,rfl,?_⟩
         have HB9:=Lib.hid ((show Below W6.heap.size W6 (W8) from (by repeat (first | (with_reducible exact HB9.out) | (with_reducible exact HB8.out) | (with_reducible exact HB7.out) | (with_reducible exact Below.refl _ _) | (with_reducible refine Below.drew ?_) | (with_reducible refine Below.alloc ?_ (by first | omega | (simp <;> omega)) _)))).trans (hB9.mono (by first | omega | (simp <;> omega))))
         have hsz9:=HB9.out.size
         refine hK.out _ _ (HPS.out _ HB9.out) (fun hHeld=>?_)
         clear hK K
         refine norm_ (a':=?_) ?_ ?_
         rotate_left
         · show Act.put _ (some 59) _=_
           simp only [Act.put,List.setIfInBounds_toArray,List.set_cons_zero,List.set_cons_succ]
           rfl
         refine pure_ (i:=10) (N:=(some 49)) (v:=?_) (a':=?_) #[true,true,true,true,true,true,true,true,true,true,true,false,false,false,false,false,false,false] rfl rfl (by kernel_rfl) (fun _ _ _ h=>h) (Or.inl ⟨by rfl,?_⟩) ?_ ?_
         rotate_left
         · intro w'
           go_simp
           with_reducible rfl
         rotate_left
         · simp only [Act.put,List.setIfInBounds_toArray,List.set_cons_zero,List.set_cons_succ]
           rfl
         refine pure_ (i:=11) (N:=(some 60)) (v:=?_) (a':=?_) #[true,true,true,true,true,true,true,true,true,true,true,true,false,false,false,false,false,false] rfl rfl (by kernel_rfl) (fun _ _ _ h=>h) (Or.inl ⟨by rfl,?_⟩) ?_ ?_
         rotate_left
         · intro w'
           go_simp
           with_reducible rfl
         rotate_left
         · simp only [Act.put,List.setIfInBounds_toArray,List.set_cons_zero,List.set_cons_succ]
           rfl
         refine pure_ (i:=12) (N:=(some 61)) (v:=?_) (a':=?_) #[true,true,true,true,true,true,true,true,true,true,true,true,true,false,false,false,false,false] rfl rfl (by kernel_rfl) (fun _ _ _ h=>h) (Or.inl ⟨by rfl,?_⟩) ?_ ?_
         rotate_left
         · intro w'
           go_simp
           with_reducible rfl
         rotate_left
         · simp only [Act.put,List.setIfInBounds_toArray,List.set_cons_zero,List.set_cons_succ]
           rfl
         refine pure_ (i:=13) (N:=(some 62)) (v:=?_) (a':=?_) #[true,true,true,true,true,true,true,true,true,true,true,true,true,true,false,false,false,false] rfl rfl (by kernel_rfl) (fun _ _ _ h=>h) (Or.inl ⟨by rfl,?_⟩) ?_ ?_
         rotate_left
         · intro w'
           go_simp
           with_reducible rfl
         rotate_left
         · simp only [Act.put,List.setIfInBounds_toArray,List.set_cons_zero,List.set_cons_succ]
           rfl
         refine one_ (i:=14) (N:=(some 9)) #[true,true,true,true,true,true,true,true,true,true,true,true,true,true,true,false,false,false] rfl rfl (by kernel_rfl) (by decide) (fun K hK=>?_)
         refine value_ (w1:=(W9.alloc (.cells #[.int .i64 0,.int .i64 0,.slice none 0 0,.int .i64 0,.int .i64 0,.slice none 0 0,.slice none 0 0] 28))) (v:=.pointer (some ⟨W9.heap.size,0,none⟩)) (by rfl) rfl (by go_simp) ?_
         refine hK.out _ _ (HPS.out _ (by repeat (first | (with_reducible exact HB9.out) | (with_reducible exact HB8.out) | (with_reducible exact HB7.out) | (with_reducible exact Below.refl _ _) | (with_reducible refine Below.drew ?_) | (with_reducible refine Below.alloc ?_ (by first | omega | (simp <;> omega)) _)))) (fun hHeld=>?_)
         clear hK K
         refine norm_ (a':=?_) ?_ ?_
         rotate_left
         · show Act.put _ (some 9) _=_
           simp only [Act.put,List.setIfInBounds_toArray,List.set_cons_zero,List.set_cons_succ]
           rfl
         have hh:=HCONT (W9.heap.size,W6.heap.size,D,cd,A2,c2,A5,c5,A6,c6) ((W9.alloc (.cells #[.int .i64 0,.int .i64 0,.slice none 0 0,.int .i64 0,.int .i64 0,.slice none 0 0,.slice none 0 0] 28))) ⟨(heap_alloc_new W9 _),((hX9.mono (ok':=fun b=>b≠W9.heap.size) (fun b hb hlt=>by omega)).move (w1:=(W9.alloc (.cells #[.int .i64 0,.int .i64 0,.slice none 0 0,.int .i64 0,.int .i64 0,.slice none 0 0,.slice none 0 0] 28))) (fun b _ hlt=>Below.heap_alloc _ _ _ hlt) (by simp)),(by repeat (first | (with_reducible exact HB9.out) | (with_reducible exact HB8.out) | (with_reducible exact HB7.out) | (with_reducible exact Below.refl _ _) | (with_reducible refine Below.drew ?_) | (with_reducible refine Below.alloc ?_ (by first | omega | (simp <;> omega)) _))),by first | omega | (simp <;> omega)⟩
         simp only [putAll,Act.put,List.setIfInBounds_toArray,List.set_cons_zero,List.set_cons_succ] at hh
         exact hh
       · have hdum:=()
         refine value_ (w1:=(W8.alloc (.cells #[.int .i64 0,.int .i64 0,.slice none 0 0,.int .i64 0,.int .i64 0,.slice none 0 0,.slice none 0 0] 28))) (v:=.pointer (some ⟨W8.heap.size,0,none⟩)) (by rfl) rfl (by go_simp) ?_
         refine hK.out _ _ (HPS.out _ (by repeat (first | (with_reducible exact HB9.out) | (with_reducible exact HB8.out) | (with_reducible exact HB7.out) | (with_reducible exact Below.refl _ _) | (with_reducible refine Below.drew ?_) | (with_reducible refine Below.alloc ?_ (by first | omega | (simp <;> omega)) _)))) (fun hHeld=>?_)
         clear hK K
         refine norm_ (a':=?_) ?_ ?_
         rotate_left
         · show Act.put _ (some 9) _=_
           simp only [Act.put,List.setIfInBounds_toArray,List.set_cons_zero,List.set_cons_succ]
           rfl
         refine one_ (i:=9) (N:=(some 59)) #[true,true,true,true,true,true,true,true,true,true,false,false,false,false,true,false,false,false] rfl rfl (by kernel_rfl) (by decide) (fun K hK=>?_)
         refine goes_ Tryz.func18 (by kernel_rfl) rfl #[.agg #[.int .i64 P,.bool plain,.bool rb,.bool sb,.int .i32 ms,.int .i32 ct,.int .i32 fr],.int .i64 V.f0,.slice D ys.length cd,.int .i64 (deepV V:Nat)] (by rfl) rfl rfl (by simp only [Act.eval,List.map_toArray,List.map_cons,List.map_nil];rfl) ?_
         refine (HGT.out ((W8.alloc (.cells #[.int .i64 0,.int .i64 0,.slice none 0 0,.int .i64 0,.int .i64 0,.slice none 0 0,.slice none 0 0] 28))) D cd (HEO.out _ (by repeat (first | (with_reducible exact HB9.out) | (with_reducible exact HB8.out) | (with_reducible exact HB7.out) | (with_reducible exact Below.refl _ _) | (with_reducible refine Below.drew ?_) | (with_reducible refine Below.alloc ?_ (by first | omega | (simp <;> omega)) _)))) (Kd.C_below HCD.out (show Below W8.heap.size W8 ((W8.alloc (.cells #[.int .i64 0,.int .i64 0,.slice none 0 0,.int .i64 0,.int .i64 0,.slice none 0 0,.slice none 0 0] 28))) from (Below.refl _ W8).alloc (Nat.le_refl _) _))).mono ?_
         rintro e1 W9 ⟨cs9,rfl,hX9,hB9⟩
         obtain ⟨A2,c2,A5,c5,A6,c6,rfl,-⟩:=kVal_open hX9.now
         refine ⟨_,rfl,?_⟩
         have hz9:=(hB9.block (W8.heap.size) (lt_heap (show ((W8.alloc (.cells #[.int .i64 0,.int .i64 0,.slice none 0 0,.int .i64 0,.int .i64 0,.slice none 0 0,.slice none 0 0] 28))).heap[W8.heap.size]?=some (.cells #[.int .i64 0,.int .i64 0,.slice none 0 0,.int .i64 0,.int .i64 0,.slice none 0 0,.slice none 0 0] 28 (0,0)) from (heap_alloc_new W8 _)))).trans (show ((W8.alloc (.cells #[.int .i64 0,.int .i64 0,.slice none 0 0,.int .i64 0,.int .i64 0,.slice none 0 0,.slice none 0 0] 28))).heap[W8.heap.size]?=some (.cells #[.int .i64 0,.int .i64 0,.slice none 0 0,.int .i64 0,.int .i64 0,.slice none 0 0,.slice none 0 0] 28 (0,0)) from (heap_alloc_new W8 _))
         have HB9:=Lib.hid ((show Below W6.heap.size W6 ((W8.alloc (.cells #[.int .i64 0,.int .i64 0,.slice none 0 0,.int .i64 0,.int .i64 0,.slice none 0 0,.slice none 0 0] 28))) from (by repeat (first | (with_reducible exact HB9.out) | (with_reducible exact HB8.out) | (with_reducible exact HB7.out) | (with_reducible exact Below.refl _ _) | (with_reducible refine Below.drew ?_) | (with_reducible refine Below.alloc ?_ (by first | omega | (simp <;> omega)) _)))).trans (hB9.mono (by first | omega | (simp <;> omega))))
         have hsz9:=HB9.out.size
         refine hK.out _ _ (HPS.out _ HB9.out) (fun hHeld=>?_)
         clear hK K
         refine norm_ (a':=?_) ?_ ?_
         rotate_left
         · show Act.put _ (some 59) _=_
           simp only [Act.put,List.setIfInBounds_toArray,List.set_cons_zero,List.set_cons_succ]
           rfl
         refine pure_ (i:=10) (N:=(some 49)) (v:=?_) (a':=?_) #[true,true,true,true,true,true,true,true,true,true,true,false,false,false,true,false,false,false] rfl rfl (by kernel_rfl) (fun _ _ _ h=>h) (Or.inl ⟨by rfl,?_⟩) ?_ ?_
         rotate_left
         · intro w'
           go_simp
           with_reducible rfl
         rotate_left
         · simp only [Act.put,List.setIfInBounds_toArray,List.set_cons_zero,List.set_cons_succ]
           rfl
         refine pure_ (i:=11) (N:=(some 60)) (v:=?_) (a':=?_) #[true,true,true,true,true,true,true,true,true,true,true,true,false,false,true,false,false,false] rfl rfl (by kernel_rfl) (fun _ _ _ h=>h) (Or.inl ⟨by rfl,?_⟩) ?_ ?_
         rotate_left
         · intro w'
           go_simp
           with_reducible rfl
         rotate_left
         · simp only [Act.put,List.setIfInBounds_toArray,List.set_cons_zero,List.set_cons_succ]
           rfl
         refine pure_ (i:=12) (N:=(some 61)) (v:=?_) (a':=?_) #[true,true,true,true,true,true,true,true,true,true,true,true,true,false,true,false,false,false] rfl rfl (by kernel_rfl) (fun _ _ _ h=>h) (Or.inl ⟨by rfl,?_⟩) ?_ ?_
         rotate_left
         · intro w'
           go_simp
           with_reducible rfl
         rotate_left
         · simp only [Act.put,List.setIfInBounds_toArray,List.set_cons_zero,List.set_cons_succ]
           rfl
         refine pure_ (i:=13) (N:=(some 62)) (v:=?_) (a':=?_) #[true,true,true,true,true,true,true,true,true,true,true,true,true,true,true,false,false,false] rfl rfl (by kernel_rfl) (fun _ _ _ h=>h) (Or.inl ⟨by rfl,?_⟩) ?_ ?_
         rotate_left
         · intro w'
           go_simp
           with_reducible rfl
         rotate_left
         · simp only [Act.put,List.setIfInBounds_toArray,List.set_cons_zero,List.set_cons_succ]
           rfl
         have hh:=HCONT (W8.heap.size,W6.heap.size,D,cd,A2,c2,A5,c5,A6,c6) (W9) ⟨hz9,(hX9.mono (ok':=fun b=>b≠W8.heap.size) (fun b hb hlt=>by (have h8:W8.heap.size+1≤b:=(by first | exact hb | (simpa using hb)));(show b≠W8.heap.size);omega)),(by repeat (first | (with_reducible exact HB9.out) | (with_reducible exact HB8.out) | (with_reducible exact HB7.out) | (with_reducible exact Below.refl _ _) | (with_reducible refine Below.drew ?_) | (with_reducible refine Below.alloc ?_ (by first | omega | (simp <;> omega)) _))),by first | omega | (simp <;> omega)⟩
         simp only [putAll,Act.put,List.setIfInBounds_toArray,List.set_cons_zero,List.set_cons_succ] at hh
         exact hh
     · have hdum:=()
       refine value_ (w1:=(W7.alloc (.cells #[.int .i64 0,.int .i64 0,.slice none 0 0,.int .i64 0,.int .i64 0,.slice none 0 0,.slice none 0 0] 28))) (v:=.pointer (some ⟨W7.heap.size,0,none⟩)) (by rfl) rfl (by go_simp) ?_
       refine hK.out _ _ (HPS.out _ (by repeat (first | (with_reducible exact HB9.out) | (with_reducible exact HB8.out) | (with_reducible exact HB7.out) | (with_reducible exact Below.refl _ _) | (with_reducible refine Below.drew ?_) | (with_reducible refine Below.alloc ?_ (by first | omega | (simp <;> omega)) _)))) (fun hHeld=>?_)
       clear hK K
       refine norm_ (a':=?_) ?_ ?_
       rotate_left
       · show Act.put _ (some 9) _=_
         simp only [Act.put,List.setIfInBounds_toArray,List.set_cons_zero,List.set_cons_succ]
         rfl
       refine one_ (i:=8) (N:=(some 58)) #[true,true,true,true,true,true,true,true,true,false,false,false,false,false,true,false,false,false] rfl rfl (by kernel_rfl) (by decide) (fun K hK=>?_)
       refine goes_ Tryz.func20 (by kernel_rfl) rfl #[.agg #[.int .i64 V.f0,x1,x2,x3,x4,x5,x6]] (by rfl) rfl rfl (by simp only [Act.eval,List.map_toArray,List.map_cons,List.map_nil];rfl) ?_
       refine (HDD.out ((W7.alloc (.cells #[.int .i64 0,.int .i64 0,.slice none 0 0,.int .i64 0,.int .i64 0,.slice none 0 0,.slice none 0 0] 28))) (HW6.out.trans ((show Below W6.heap.size W6 ((W7.alloc (.cells #[.int .i64 0,.int .i64 0,.slice none 0 0,.int .i64 0,.int .i64 0,.slice none 0 0,.slice none 0 0] 28))) from (by repeat (first | (with_reducible exact HB9.out) | (with_reducible exact HB8.out) | (with_reducible exact HB7.out) | (with_reducible exact Below.refl _ _) | (with_reducible refine Below.drew ?_) | (with_reducible refine Below.alloc ?_ (by first | omega | (simp <;> omega)) _)))).mono HW6.out.size))).mono ?_
       rintro e1 W8 ⟨rfl,hB8⟩
       refine ⟨_,rfl,?_⟩
       have hz8:=(hB8.block (W7.heap.size) (lt_heap (show ((W7.alloc (.cells #[.int .i64 0,.int .i64 0,.slice none 0 0,.int .i64 0,.int .i64 0,.slice none 0 0,.slice none 0 0] 28))).heap[W7.heap.size]?=some (.cells #[.int .i64 0,.int .i64 0,.slice none 0 0,.int .i64 0,.int .i64 0,.slice none 0 0,.slice none 0 0] 28 (0,0)) from (heap_alloc_new W7 _)))).trans (show ((W7.alloc (.cells #[.int .i64 0,.int .i64 0,.slice none 0 0,.int .i64 0,.int .i64 0,.slice none 0 0,.slice none 0 0] 28))).heap[W7.heap.size]?=some (.cells #[.int .i64 0,.int .i64 0,.slice none 0 0,.int .i64 0,.int .i64 0,.slice none 0 0,.slice none 0 0] 28 (0,0)) from (heap_alloc_new W7 _))
       have HB8:=Lib.hid ((show Below W6.heap.size W6 ((W7.alloc (.cells #[.int .i64 0,.int .i64 0,.slice none 0 0,.int .i64 0,.int .i64 0,.slice none 0 0,.slice none 0 0] 28))) from (by repeat (first | (with_reducible exact HB9.out) | (with_reducible exact HB8.out) | (with_reducible exact HB7.out) | (with_reducible exact Below.refl _ _) | (with_reducible refine Below.drew ?_) | (with_reducible refine Below.alloc ?_ (by first | omega | (simp <;> omega)) _)))).trans (hB8.mono (by first | omega | (simp <;> omega))))
       have hsz8:=HB8.out.size
       have HCD:=Lib.hid (Kd.C_below (Kd.C_below HCD.out (show Below W7.heap.size W7 ((W7.alloc (.cells #[.int .i64 0,.int .i64 0,.slice none 0 0,.int .i64 0,.int .i64 0,.slice none 0 0,.slice none 0 0] 28))) from (Below.refl _ W7).alloc (Nat.le_refl _) _)) hB8)
       refine hK.out _ _ (HPS.out _ HB8.out) (fun hHeld=>?_)
       clear hK K
       refine norm_ (a':=?_) ?_ ?_
       rotate_left
       · show Act.put _ (some 58) _=_
         simp only [Act.put,List.setIfInBounds_toArray,List.set_cons_zero,List.set_cons_succ]
         rfl
       refine one_ (i:=9) (N:=(some 59)) #[true,true,true,true,true,true,true,true,true,true,false,false,false,false,true,false,false,false] rfl rfl (by kernel_rfl) (by decide) (fun K hK=>?_)
       refine goes_ Tryz.func18 (by kernel_rfl) rfl #[.agg #[.int .i64 P,.bool plain,.bool rb,.bool sb,.int .i32 ms,.int .i32 ct,.int .i32 fr],.int .i64 V.f0,.slice D ys.length cd,.int .i64 (deepV V:Nat)] (by rfl) rfl rfl (by simp only [Act.eval,List.map_toArray,List.map_cons,List.map_nil];rfl) ?_
       refine (HGT.out (W8) D cd (HEO.out _ (by repeat (first | (with_reducible exact HB9.out) | (with_reducible exact HB8.out) | (with_reducible exact HB7.out) | (with_reducible exact Below.refl _ _) | (with_reducible refine Below.drew ?_) | (with_reducible refine Below.alloc ?_ (by first | omega | (simp <;> omega)) _)))) HCD.out).mono ?_
       rintro e1 W9 ⟨cs9,rfl,hX9,hB9⟩
       obtain ⟨A2,c2,A5,c5,A6,c6,rfl,-⟩:=kVal_open hX9.now
       refine ⟨_,rfl,?_⟩
       have hz9:=(hB9.block (W7.heap.size) (lt_heap (show (W8).heap[W7.heap.size]?=some (.cells #[.int .i64 0,.int .i64 0,.slice none 0 0,.int .i64 0,.int .i64 0,.slice none 0 0,.slice none 0 0] 28 (0,0)) from hz8))).trans (show (W8).heap[W7.heap.size]?=some (.cells #[.int .i64 0,.int .i64 0,.slice none 0 0,.int .i64 0,.int .i64 0,.slice none 0 0,.slice none 0 0] 28 (0,0)) from hz8)
       have HB9:=Lib.hid ((show Below W6.heap.size W6 (W8) from (by repeat (first | (with_reducible exact HB9.out) | (with_reducible exact HB8.out) | (with_reducible exact HB7.out) | (with_reducible exact Below.refl _ _) | (with_reducible refine Below.drew ?_) | (with_reducible refine Below.alloc ?_ (by first | omega | (simp <;> omega)) _)))).trans (hB9.mono (by first | omega | (simp <;> omega))))
       have hsz9:=HB9.out.size
       refine hK.out _ _ (HPS.out _ HB9.out) (fun hHeld=>?_)
       clear hK K
       refine norm_ (a':=?_) ?_ ?_
       rotate_left
       · show Act.put _ (some 59) _=_
         simp only [Act.put,List.setIfInBounds_toArray,List.set_cons_zero,List.set_cons_succ]
         rfl
       refine pure_ (i:=10) (N:=(some 49)) (v:=?_) (a':=?_) #[true,true,true,true,true,true,true,true,true,true,true,false,false,false,true,false,false,false] rfl rfl (by kernel_rfl) (fun _ _ _ h=>h) (Or.inl ⟨by rfl,?_⟩) ?_ ?_
       rotate_left
       · intro w'
         go_simp
         with_reducible rfl
       rotate_left
       · simp only [Act.put,List.setIfInBounds_toArray,List.set_cons_zero,List.set_cons_succ]
         rfl
       refine pure_ (i:=11) (N:=(some 60)) (v:=?_) (a':=?_) #[true,true,true,true,true,true,true,true,true,true,true,true,false,false,true,false,false,false] rfl rfl (by kernel_rfl) (fun _ _ _ h=>h) (Or.inl ⟨by rfl,?_⟩) ?_ ?_
       rotate_left
       · intro w'
         go_simp
         with_reducible rfl
       rotate_left
       · simp only [Act.put,List.setIfInBounds_toArray,List.set_cons_zero,List.set_cons_succ]
         rfl
       refine pure_ (i:=12) (N:=(some 61)) (v:=?_) (a':=?_) #[true,true,true,true,true,true,true,true,true,true,true,true,true,false,true,false,false,false] rfl rfl (by kernel_rfl) (fun _ _ _ h=>h) (Or.inl ⟨by rfl,?_⟩) ?_ ?_
       rotate_left
       · intro w'
         go_simp
         with_reducible rfl
       rotate_left
       · simp only [Act.put,List.setIfInBounds_toArray,List.set_cons_zero,List.set_cons_succ]
         rfl
       refine pure_ (i:=13) (N:=(some 62)) (v:=?_) (a':=?_) #[true,true,true,true,true,true,true,true,true,true,true,true,true,true,true,false,false,false] rfl rfl (by kernel_rfl) (fun _ _ _ h=>h) (Or.inl ⟨by rfl,?_⟩) ?_ ?_
       rotate_left
       · intro w'
         go_simp
         with_reducible rfl
       rotate_left
       · simp only [Act.put,List.setIfInBounds_toArray,List.set_cons_zero,List.set_cons_succ]
         rfl
       have hh:=HCONT (W7.heap.size,W6.heap.size,D,cd,A2,c2,A5,c5,A6,c6) (W9) ⟨hz9,(hX9.mono (ok':=fun b=>b≠W7.heap.size) (fun b hb hlt=>by (have h8:W8.heap.size≤b:=(by first | exact hb | (simpa using hb)));(have h9:=lt_heap hz8);(show b≠W7.heap.size);omega)),(by repeat (first | (with_reducible exact HB9.out) | (with_reducible exact HB8.out) | (with_reducible exact HB7.out) | (with_reducible exact Below.refl _ _) | (with_reducible refine Below.drew ?_) | (with_reducible refine Below.alloc ?_ (by first | omega | (simp <;> omega)) _))),by first | omega | (simp <;> omega)⟩
       simp only [putAll,Act.put,List.setIfInBounds_toArray,List.set_cons_zero,List.set_cons_succ] at hh
       exact hh
   · have hdum:=()
     refine value_ (w1:=((W6.alloc (.cells #[.slice ao (ints (gen (codec P) V)).length cb,.slice A sv.length ca] 24)).alloc (.cells #[.int .i64 0,.int .i64 0,.slice none 0 0,.int .i64 0,.int .i64 0,.slice none 0 0,.slice none 0 0] 28)).drew) (v:=.pointer (some ⟨W6.heap.size+1,0,none⟩)) (by rfl) rfl (by go_simp) ?_
     refine hK.out _ _ (HPS.out _ (by repeat (first | (with_reducible exact HB9.out) | (with_reducible exact HB8.out) | (with_reducible exact HB7.out) | (with_reducible exact Below.refl _ _) | (with_reducible refine Below.drew ?_) | (with_reducible refine Below.alloc ?_ (by first | omega | (simp <;> omega)) _)))) (fun hHeld=>?_)
     clear hK K
     refine norm_ (a':=?_) ?_ ?_
     rotate_left
     · show Act.put _ (some 9) _=_
       simp only [Act.put,List.setIfInBounds_toArray,List.set_cons_zero,List.set_cons_succ]
       rfl
     refine one_ (i:=6) (N:=(some 56)) #[true,true,true,true,true,true,true,true,false,false,false,false,false,false,true,false,false,false] rfl rfl (by kernel_rfl) (by decide) (fun K hK=>?_)
     refine goes_ Tryz.func22 (by kernel_rfl) rfl #[.slice (some ⟨W6.heap.size,0,none⟩) 2 2] (by rfl) rfl rfl (by simp only [Act.eval,List.map_toArray,List.map_cons,List.map_nil];rfl) ?_
     refine (HJ.out (((W6.alloc (.cells #[.slice ao (ints (gen (codec P) V)).length cb,.slice A sv.length ca] 24)).alloc (.cells #[.int .i64 0,.int .i64 0,.slice none 0 0,.int .i64 0,.int .i64 0,.slice none 0 0,.slice none 0 0] 28)).drew) (W6.heap.size) (by repeat (first | (with_reducible exact HB9.out) | (with_reducible exact HB8.out) | (with_reducible exact HB7.out) | (with_reducible exact Below.refl _ _) | (with_reducible refine Below.drew ?_) | (with_reducible refine Below.alloc ?_ (by first | omega | (simp <;> omega)) _))) (by simp [go_sem]) (by simp [go_sem])).mono ?_
     rintro e1 W7 ⟨v7,rfl,hR7,hB7⟩
     obtain ⟨D,cd,rfl,hcd,hCd⟩:=Kd.R_reads hR7
     refine ⟨_,rfl,?_⟩
     have hz7:=(hB7.block (W6.heap.size+1) (lt_heap (show (((W6.alloc (.cells #[.slice ao (ints (gen (codec P) V)).length cb,.slice A sv.length ca] 24)).alloc (.cells #[.int .i64 0,.int .i64 0,.slice none 0 0,.int .i64 0,.int .i64 0,.slice none 0 0,.slice none 0 0] 28)).drew).heap[W6.heap.size+1]?=some (.cells #[.int .i64 0,.int .i64 0,.slice none 0 0,.int .i64 0,.int .i64 0,.slice none 0 0,.slice none 0 0] 28 (0,0)) from (heap_alloc_at (by simp) _)))).trans (show (((W6.alloc (.cells #[.slice ao (ints (gen (codec P) V)).length cb,.slice A sv.length ca] 24)).alloc (.cells #[.int .i64 0,.int .i64 0,.slice none 0 0,.int .i64 0,.int .i64 0,.slice none 0 0,.slice none 0 0] 28)).drew).heap[W6.heap.size+1]?=some (.cells #[.int .i64 0,.int .i64 0,.slice none 0 0,.int .i64 0,.int .i64 0,.slice none 0 0,.slice none 0 0] 28 (0,0)) from (heap_alloc_at (by simp) _))
     have HB7:=Lib.hid ((show Below W6.heap.size W6 (((W6.alloc (.cells #[.slice ao (ints (gen (codec P) V)).length cb,.slice A sv.length ca] 24)).alloc (.cells #[.int .i64 0,.int .i64 0,.slice none 0 0,.int .i64 0,.int .i64 0,.slice none 0 0,.slice none 0 0] 28)).drew) from (by repeat (first | (with_reducible exact HB9.out) | (with_reducible exact HB8.out) | (with_reducible exact HB7.out) | (with_reducible exact Below.refl _ _) | (with_reducible refine Below.drew ?_) | (with_reducible refine Below.alloc ?_ (by first | omega | (simp <;> omega)) _)))).trans (hB7.mono (by first | omega | (simp <;> omega))))
     have hsz7:=HB7.out.size
     have HCD:=Lib.hid hCd
     refine hK.out _ _ (HPS.out _ HB7.out) (fun hHeld=>?_)
     clear hK K
     refine norm_ (a':=?_) ?_ ?_
     rotate_left
     · show Act.put _ (some 56) _=_
       simp only [Act.put,List.setIfInBounds_toArray,List.set_cons_zero,List.set_cons_succ]
       rfl
     refine one_ (i:=8) (N:=(some 58)) #[true,true,true,true,true,true,true,true,true,false,false,false,false,false,true,false,false,false] rfl rfl (by kernel_rfl) (by decide) (fun K hK=>?_)
     refine goes_ Tryz.func20 (by kernel_rfl) rfl #[.agg #[.int .i64 V.f0,x1,x2,x3,x4,x5,x6]] (by rfl) rfl rfl (by simp only [Act.eval,List.map_toArray,List.map_cons,List.map_nil];rfl) ?_
     refine (HDD.out (W7) (HW6.out.trans ((show Below W6.heap.size W6 (W7) from (by repeat (first | (with_reducible exact HB9.out) | (with_reducible exact HB8.out) | (with_reducible exact HB7.out) | (with_reducible exact Below.refl _ _) | (with_reducible refine Below.drew ?_) | (with_reducible refine Below.alloc ?_ (by first | omega | (simp <;> omega)) _)))).mono HW6.out.size))).mono ?_
     rintro e1 W8 ⟨rfl,hB8⟩
     refine ⟨_,rfl,?_⟩
     have hz8:=(hB8.block (W6.heap.size+1) (lt_heap (show (W7).heap[W6.heap.size+1]?=some (.cells #[.int .i64 0,.int .i64 0,.slice none 0 0,.int .i64 0,.int .i64 0,.slice none 0 0,.slice none 0 0] 28 (0,0)) from hz7))).trans (show (W7).heap[W6.heap.size+1]?=some (.cells #[.int .i64 0,.int .i64 0,.slice none 0 0,.int .i64 0,.int .i64 0,.slice none 0 0,.slice none 0 0] 28 (0,0)) from hz7)
     have HB8:=Lib.hid ((show Below W6.heap.size W6 (W7) from (by repeat (first | (with_reducible exact HB9.out) | (with_reducible exact HB8.out) | (with_reducible exact HB7.out) | (with_reducible exact Below.refl _ _) | (with_reducible refine Below.drew ?_) | (with_reducible refine Below.alloc ?_ (by first | omega | (simp <;> omega)) _)))).trans (hB8.mono (by first | omega | (simp <;> omega))))
     have hsz8:=HB8.out.size
     have HCD:=Lib.hid (Kd.C_below HCD.out hB8)
     refine hK.out _ _ (HPS.out _ HB8.out) (fun hHeld=>?_)
     clear hK K
     refine norm_ (a':=?_) ?_ ?_
     rotate_left
     · show Act.put _ (some 58) _=_
       simp only [Act.put,List.setIfInBounds_toArray,List.set_cons_zero,List.set_cons_succ]
       rfl
     refine one_ (i:=9) (N:=(some 59)) #[true,true,true,true,true,true,true,true,true,true,false,false,false,false,true,false,false,false] rfl rfl (by kernel_rfl) (by decide) (fun K hK=>?_)
     refine goes_ Tryz.func18 (by kernel_rfl) rfl #[.agg #[.int .i64 P,.bool plain,.bool rb,.bool sb,.int .i32 ms,.int .i32 ct,.int .i32 fr],.int .i64 V.f0,.slice D ys.length cd,.int .i64 (deepV V:Nat)] (by rfl) rfl rfl (by simp only [Act.eval,List.map_toArray,List.map_cons,List.map_nil];rfl) ?_
     refine (HGT.out (W8) D cd (HEO.out _ (by repeat (first | (with_reducible exact HB9.out) | (with_reducible exact HB8.out) | (with_reducible exact HB7.out) | (with_reducible exact Below.refl _ _) | (with_reducible refine Below.drew ?_) | (with_reducible refine Below.alloc ?_ (by first | omega | (simp <;> omega)) _)))) HCD.out).mono ?_
     rintro e1 W9 ⟨cs9,rfl,hX9,hB9⟩
     obtain ⟨A2,c2,A5,c5,A6,c6,rfl,-⟩:=kVal_open hX9.now
     refine ⟨_,rfl,?_⟩
     have hz9:=(hB9.block (W6.heap.size+1) (lt_heap (show (W8).heap[W6.heap.size+1]?=some (.cells #[.int .i64 0,.int .i64 0,.slice none 0 0,.int .i64 0,.int .i64 0,.slice none 0 0,.slice none 0 0] 28 (0,0)) from hz8))).trans (show (W8).heap[W6.heap.size+1]?=some (.cells #[.int .i64 0,.int .i64 0,.slice none 0 0,.int .i64 0,.int .i64 0,.slice none 0 0,.slice none 0 0] 28 (0,0)) from hz8)
     have HB9:=Lib.hid ((show Below W6.heap.size W6 (W8) from (by repeat (first | (with_reducible exact HB9.out) | (with_reducible exact HB8.out) | (with_reducible exact HB7.out) | (with_reducible exact Below.refl _ _) | (with_reducible refine Below.drew ?_) | (with_reducible refine Below.alloc ?_ (by first | omega | (simp <;> omega)) _)))).trans (hB9.mono (by first | omega | (simp <;> omega))))
     have hsz9:=HB9.out.size
     refine hK.out _ _ (HPS.out _ HB9.out) (fun hHeld=>?_)
     clear hK K
     refine norm_ (a':=?_) ?_ ?_
     rotate_left
     · show Act.put _ (some 59) _=_
       simp only [Act.put,List.setIfInBounds_toArray,List.set_cons_zero,List.set_cons_succ]
       rfl
     refine pure_ (i:=10) (N:=(some 49)) (v:=?_) (a':=?_) #[true,true,true,true,true,true,true,true,true,true,true,false,false,false,true,false,false,false] rfl rfl (by kernel_rfl) (fun _ _ _ h=>h) (Or.inl ⟨by rfl,?_⟩) ?_ ?_
     rotate_left
     · intro w'
       go_simp
       with_reducible rfl
     rotate_left
     · simp only [Act.put,List.setIfInBounds_toArray,List.set_cons_zero,List.set_cons_succ]
       rfl
     refine pure_ (i:=11) (N:=(some 60)) (v:=?_) (a':=?_) #[true,true,true,true,true,true,true,true,true,true,true,true,false,false,true,false,false,false] rfl rfl (by kernel_rfl) (fun _ _ _ h=>h) (Or.inl ⟨by rfl,?_⟩) ?_ ?_
     rotate_left
     · intro w'
       go_simp
       with_reducible rfl
     rotate_left
     · simp only [Act.put,List.setIfInBounds_toArray,List.set_cons_zero,List.set_cons_succ]
       rfl
     refine pure_ (i:=12) (N:=(some 61)) (v:=?_) (a':=?_) #[true,true,true,true,true,true,true,true,true,true,true,true,true,false,true,false,false,false] rfl rfl (by kernel_rfl) (fun _ _ _ h=>h) (Or.inl ⟨by rfl,?_⟩) ?_ ?_
     rotate_left
     · intro w'
       go_simp
       with_reducible rfl
     rotate_left
     · simp only [Act.put,List.setIfInBounds_toArray,List.set_cons_zero,List.set_cons_succ]
       rfl
     refine pure_ (i:=13) (N:=(some 62)) (v:=?_) (a':=?_) #[true,true,true,true,true,true,true,true,true,true,true,true,true,true,true,false,false,false] rfl rfl (by kernel_rfl) (fun _ _ _ h=>h) (Or.inl ⟨by rfl,?_⟩) ?_ ?_
     rotate_left
     · intro w'
       go_simp
       with_reducible rfl
     rotate_left
     · simp only [Act.put,List.setIfInBounds_toArray,List.set_cons_zero,List.set_cons_succ]
       rfl
     have hh:=HCONT (W6.heap.size+1,W6.heap.size,D,cd,A2,c2,A5,c5,A6,c6) (W9) ⟨hz9,(hX9.mono (ok':=fun b=>b≠W6.heap.size+1) (fun b hb hlt=>by (have h8:W8.heap.size≤b:=(by first | exact hb | (simpa using hb)));(have h9:=lt_heap hz8);(show b≠W6.heap.size+1);omega)),(by repeat (first | (with_reducible exact HB9.out) | (with_reducible exact HB8.out) | (with_reducible exact HB7.out) | (with_reducible exact Below.refl _ _) | (with_reducible refine Below.drew ?_) | (with_reducible refine Below.alloc ?_ (by first | omega | (simp <;> omega)) _))),by first | omega | (simp <;> omega)⟩
     simp only [putAll,Act.put,List.setIfInBounds_toArray,List.set_cons_zero,List.set_cons_succ] at hh
     exact hh
 · have hdum:=()
   refine value_ (w1:=(W6.alloc (.cells #[.int .i64 0,.int .i64 0,.slice none 0 0,.int .i64 0,.int .i64 0,.slice none 0 0,.slice none 0 0] 28)).drew) (v:=.pointer (some ⟨W6.heap.size,0,none⟩)) (by rfl) rfl (by go_simp) ?_
   refine hK.out _ _ (HPS.out _ (by repeat (first | (with_reducible exact HB9.out) | (with_reducible exact HB8.out) | (with_reducible exact HB7.out) | (with_reducible exact Below.refl _ _) | (with_reducible refine Below.drew ?_) | (with_reducible refine Below.alloc ?_ (by first | omega | (simp <;> omega)) _)))) (fun hHeld=>?_)
   clear hK K
   refine norm_ (a':=?_) ?_ ?_
   rotate_left
   · show Act.put _ (some 9) _=_
     simp only [Act.put,List.setIfInBounds_toArray,List.set_cons_zero,List.set_cons_succ]
     rfl
   refine one_ (i:=5) (N:=(some 55)) #[true,true,true,true,true,true,false,true,false,false,false,false,false,false,true,false,false,false] rfl rfl (by kernel_rfl) (by decide) (fun K hK=>?_)
   refine value_ (w1:=((W6.alloc (.cells #[.int .i64 0,.int .i64 0,.slice none 0 0,.int .i64 0,.int .i64 0,.slice none 0 0,.slice none 0 0] 28)).alloc (.cells #[.slice ao (ints (gen (codec P) V)).length cb,.slice A sv.length ca] 24)).drew) (v:=.slice (some ⟨W6.heap.size+1,0,none⟩) 2 2) (by rfl) rfl (by go_simp) ?_
   refine hK.out _ _ (HPS.out _ (by repeat (first | (with_reducible exact HB9.out) | (with_reducible exact HB8.out) | (with_reducible exact HB7.out) | (with_reducible exact Below.refl _ _) | (with_reducible refine Below.drew ?_) | (with_reducible refine Below.alloc ?_ (by first | omega | (simp <;> omega)) _)))) (fun hHeld=>?_)
   clear hK K
   refine norm_ (a':=?_) ?_ ?_
   rotate_left
   · show Act.put _ (some 55) _=_
     simp only [Act.put,List.setIfInBounds_toArray,List.set_cons_zero,List.set_cons_succ]
     rfl
   refine one_ (i:=6) (N:=(some 56)) #[true,true,true,true,true,true,true,true,false,false,false,false,false,false,true,false,false,false] rfl rfl (by kernel_rfl) (by decide) (fun K hK=>?_)
   refine goes_ Tryz.func22 (by kernel_rfl) rfl #[.slice (some ⟨W6.heap.size+1,0,none⟩) 2 2] (by rfl) rfl rfl (by simp only [Act.eval,List.map_toArray,List.map_cons,List.map_nil];rfl) ?_
   refine (HJ.out (((W6.alloc (.cells #[.int .i64 0,.int .i64 0,.slice none 0 0,.int .i64 0,.int .i64 0,.slice none 0 0,.slice none 0 0] 28)).alloc (.cells #[.slice ao (ints (gen (codec P) V)).length cb,.slice A sv.length ca] 24)).drew) (W6.heap.size+1) (by repeat (first | (with_reducible exact HB9.out) | (with_reducible exact HB8.out) | (with_reducible exact HB7.out) | (with_reducible exact Below.refl _ _) | (with_reducible refine Below.drew ?_) | (with_reducible refine Below.alloc ?_ (by first | omega | (simp <;> omega)) _))) (by simp [go_sem]) (by simp [go_sem])).mono ?_
   rintro e1 W7 ⟨v7,rfl,hR7,hB7⟩
   obtain ⟨D,cd,rfl,hcd,hCd⟩:=Kd.R_reads hR7
   refine ⟨_,rfl,?_⟩
   have hz7:=(hB7.block (W6.heap.size) (lt_heap (show (((W6.alloc (.cells #[.int .i64 0,.int .i64 0,.slice none 0 0,.int .i64 0,.int .i64 0,.slice none 0 0,.slice none 0 0] 28)).alloc (.cells #[.slice ao (ints (gen (codec P) V)).length cb,.slice A sv.length ca] 24)).drew).heap[W6.heap.size]?=some (.cells #[.int .i64 0,.int .i64 0,.slice none 0 0,.int .i64 0,.int .i64 0,.slice none 0 0,.slice none 0 0] 28 (0,0)) from (heap_alloc_old (heap_alloc_new W6 _) _)))).trans (show (((W6.alloc (.cells #[.int .i64 0,.int .i64 0,.slice none 0 0,.int .i64 0,.int .i64 0,.slice none 0 0,.slice none 0 0] 28)).alloc (.cells #[.slice ao (ints (gen (codec P) V)).length cb,.slice A sv.length ca] 24)).drew).heap[W6.heap.size]?=some (.cells #[.int .i64 0,.int .i64 0,.slice none 0 0,.int .i64 0,.int .i64 0,.slice none 0 0,.slice none 0 0] 28 (0,0)) from (heap_alloc_old (heap_alloc_new W6 _) _))
   have HB7:=Lib.hid ((show Below W6.heap.size W6 (((W6.alloc (.cells #[.int .i64 0,.int .i64 0,.slice none 0 0,.int .i64 0,.int .i64 0,.slice none 0 0,.slice none 0 0] 28)).alloc (.cells #[.slice ao (ints (gen (codec P) V)).length cb,.slice A sv.length ca] 24)).drew) from (by repeat (first | (with_reducible exact HB9.out) | (with_reducible exact HB8.out) | (with_reducible exact HB7.out) | (with_reducible exact Below.refl _ _) | (with_reducible refine Below.drew ?_) | (with_reducible refine Below.alloc ?_ (by first | omega | (simp <;> omega)) _)))).trans (hB7.mono (by first | omega | (simp <;> omega))))
   have hsz7:=HB7.out.size
   have HCD:=Lib.hid hCd
   refine hK.out _ _ (HPS.out _ HB7.out) (fun hHeld=>?_)
   clear hK K
   refine norm_ (a':=?_) ?_ ?_
   rotate_left
   · show Act.put _ (some 56) _=_
     simp only [Act.put,List.setIfInBounds_toArray,List.set_cons_zero,List.set_cons_succ]
     rfl
   refine one_ (i:=8) (N:=(some 58)) #[true,true,true,true,true,true,true,true,true,false,false,false,false,false,true,false,false,false] rfl rfl (by kernel_rfl) (by decide) (fun K hK=>?_)
   refine goes_ Tryz.func20 (by kernel_rfl) rfl #[.agg #[.int .i64 V.f0,x1,x2,x3,x4,x5,x6]] (by rfl) rfl rfl (by simp only [Act.eval,List.map_toArray,List.map_cons,List.map_nil];rfl) ?_
   refine (HDD.out (W7) (HW6.out.trans ((show Below W6.heap.size W6 (W7) from (by repeat (first | (with_reducible exact HB9.out) | (with_reducible exact HB8.out) | (with_reducible exact HB7.out) | (with_reducible exact Below.refl _ _) | (with_reducible refine Below.drew ?_) | (with_reducible refine Below.alloc ?_ (by first | omega | (simp <;> omega)) _)))).mono HW6.out.size))).mono ?_
   rintro e1 W8 ⟨rfl,hB8⟩
   refine ⟨_,rfl,?_⟩
   have hz8:=(hB8.block (W6.heap.size) (lt_heap (show (W7).heap[W6.heap.size]?=some (.cells #[.int .i64 0,.int .i64 0,.slice none 0 0,.int .i64 0,.int .i64 0,.slice none 0 0,.slice none 0 0] 28 (0,0)) from hz7))).trans (show (W7).heap[W6.heap.size]?=some (.cells #[.int .i64 0,.int .i64 0,.slice none 0 0,.int .i64 0,.int .i64 0,.slice none 0 0,.slice none 0 0] 28 (0,0)) from hz7)
   have HB8:=Lib.hid ((show Below W6.heap.size W6 (W7) from (by repeat (first | (with_reducible exact HB9.out) | (with_reducible exact HB8.out) | (with_reducible exact HB7.out) | (with_reducible exact Below.refl _ _) | (with_reducible refine Below.drew ?_) | (with_reducible refine Below.alloc ?_ (by first | omega | (simp <;> omega)) _)))).trans (hB8.mono (by first | omega | (simp <;> omega))))
   have hsz8:=HB8.out.size
   have HCD:=Lib.hid (Kd.C_below HCD.out hB8)
   refine hK.out _ _ (HPS.out _ HB8.out) (fun hHeld=>?_)
   clear hK K
   refine norm_ (a':=?_) ?_ ?_
   rotate_left
   · show Act.put _ (some 58) _=_
     simp only [Act.put,List.setIfInBounds_toArray,List.set_cons_zero,List.set_cons_succ]
     rfl
   refine one_ (i:=9) (N:=(some 59)) #[true,true,true,true,true,true,true,true,true,true,false,false,false,false,true,false,false,false] rfl rfl (by kernel_rfl) (by decide) (fun K hK=>?_)
   refine goes_ Tryz.func18 (by kernel_rfl) rfl #[.agg #[.int .i64 P,.bool plain,.bool rb,.bool sb,.int .i32 ms,.int .i32 ct,.int .i32 fr],.int .i64 V.f0,.slice D ys.length cd,.int .i64 (deepV V:Nat)] (by rfl) rfl rfl (by simp only [Act.eval,List.map_toArray,List.map_cons,List.map_nil];rfl) ?_
   refine (HGT.out (W8) D cd (HEO.out _ (by repeat (first | (with_reducible exact HB9.out) | (with_reducible exact HB8.out) | (with_reducible exact HB7.out) | (with_reducible exact Below.refl _ _) | (with_reducible refine Below.drew ?_) | (with_reducible refine Below.alloc ?_ (by first | omega | (simp <;> omega)) _)))) HCD.out).mono ?_
   rintro e1 W9 ⟨cs9,rfl,hX9,hB9⟩
   obtain ⟨A2,c2,A5,c5,A6,c6,rfl,-⟩:=kVal_open hX9.now
   refine ⟨_,rfl,?_⟩
   have hz9:=(hB9.block (W6.heap.size) (lt_heap (show (W8).heap[W6.heap.size]?=some (.cells #[.int .i64 0,.int .i64 0,.slice none 0 0,.int .i64 0,.int .i64 0,.slice none 0 0,.slice none 0 0] 28 (0,0)) from hz8))).trans (show (W8).heap[W6.heap.size]?=some (.cells #[.int .i64 0,.int .i64 0,.slice none 0 0,.int .i64 0,.int .i64 0,.slice none 0 0,.slice none 0 0] 28 (0,0)) from hz8)
   have HB9:=Lib.hid ((show Below W6.heap.size W6 (W8) from (by repeat (first | (with_reducible exact HB9.out) | (with_reducible exact HB8.out) | (with_reducible exact HB7.out) | (with_reducible exact Below.refl _ _) | (with_reducible refine Below.drew ?_) | (with_reducible refine Below.alloc ?_ (by first | omega | (simp <;> omega)) _)))).trans (hB9.mono (by first | omega | (simp <;> omega))))
   have hsz9:=HB9.out.size
   refine hK.out _ _ (HPS.out _ HB9.out) (fun hHeld=>?_)
   clear hK K
   refine norm_ (a':=?_) ?_ ?_
   rotate_left
   · show Act.put _ (some 59) _=_
     simp only [Act.put,List.setIfInBounds_toArray,List.set_cons_zero,List.set_cons_succ]
     rfl
   refine pure_ (i:=10) (N:=(some 49)) (v:=?_) (a':=?_) #[true,true,true,true,true,true,true,true,true,true,true,false,false,false,true,false,false,false] rfl rfl (by kernel_rfl) (fun _ _ _ h=>h) (Or.inl ⟨by rfl,?_⟩) ?_ ?_
   rotate_left
   · intro w'
     go_simp
     with_reducible rfl
   rotate_left
   · simp only [Act.put,List.setIfInBounds_toArray,List.set_cons_zero,List.set_cons_succ]
     rfl
   refine pure_ (i:=11) (N:=(some 60)) (v:=?_) (a':=?_) #[true,true,true,true,true,true,true,true,true,true,true,true,false,false,true,false,false,false] rfl rfl (by kernel_rfl) (fun _ _ _ h=>h) (Or.inl ⟨by rfl,?_⟩) ?_ ?_
   rotate_left
   · intro w'
     go_simp
     with_reducible rfl
   rotate_left
   · simp only [Act.put,List.setIfInBounds_toArray,List.set_cons_zero,List.set_cons_succ]
     rfl
   refine pure_ (i:=12) (N:=(some 61)) (v:=?_) (a':=?_) #[true,true,true,true,true,true,true,true,true,true,true,true,true,false,true,false,false,false] rfl rfl (by kernel_rfl) (fun _ _ _ h=>h) (Or.inl ⟨by rfl,?_⟩) ?_ ?_
   rotate_left
   · intro w'
     go_simp
     with_reducible rfl
   rotate_left
   · simp only [Act.put,List.setIfInBounds_toArray,List.set_cons_zero,List.set_cons_succ]
     rfl
   refine pure_ (i:=13) (N:=(some 62)) (v:=?_) (a':=?_) #[true,true,true,true,true,true,true,true,true,true,true,true,true,true,true,false,false,false] rfl rfl (by kernel_rfl) (fun _ _ _ h=>h) (Or.inl ⟨by rfl,?_⟩) ?_ ?_
   rotate_left
   · intro w'
     go_simp
     with_reducible rfl
   rotate_left
   · simp only [Act.put,List.setIfInBounds_toArray,List.set_cons_zero,List.set_cons_succ]
     rfl
   have hh:=HCONT (W6.heap.size,W6.heap.size+1,D,cd,A2,c2,A5,c5,A6,c6) (W9) ⟨hz9,(hX9.mono (ok':=fun b=>b≠W6.heap.size) (fun b hb hlt=>by (have h8:W8.heap.size≤b:=(by first | exact hb | (simpa using hb)));(have h9:=lt_heap hz8);(show b≠W6.heap.size);omega)),(by repeat (first | (with_reducible exact HB9.out) | (with_reducible exact HB8.out) | (with_reducible exact HB7.out) | (with_reducible exact Below.refl _ _) | (with_reducible refine Below.drew ?_) | (with_reducible refine Below.alloc ?_ (by first | omega | (simp <;> omega)) _))),by first | omega | (simp <;> omega)⟩
   simp only [putAll,Act.put,List.setIfInBounds_toArray,List.set_cons_zero,List.set_cons_succ] at hh
   exact hh

end Go.Proofs.YtmjcnomgpikncaaGreatDoor
