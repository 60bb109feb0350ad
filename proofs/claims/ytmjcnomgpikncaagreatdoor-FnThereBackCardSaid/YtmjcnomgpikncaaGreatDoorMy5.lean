/- Values are got, whatever the configuration. No condition. -/
import Derived.Test.YtmjcnomgpikncaaGreatDoorMy2
import Derived.Test.YtmjcnomgpikncaaGreatDoorMv4
import Derived.Test.YtmjcnomgpikncaaGreatDoorMv2
import Derived.Test.YtmjcnomgpikncaaGreatDoorMe
import Derived.Test.YtmjcnomgpikncaaGreatDoorMz1
import Derived.Test.YtmjcnomgpikncaaGreatDoorMs2
set_option linter.unusedVariables false
set_option linter.unusedSimpArgs false
namespace Go.Proofs.YtmjcnomgpikncaaGreatDoor

open Go.RowKit Go.Deep



open Go.Proofs.YtmjcnomgpikncaaGreatDoorW.PrintWords

theorem own_own (k:Int) (w:World):(Instr.typeAssert (.iface 157 (.int .i64 k)) 83 157 true).run Tryz.prog w=.ok (.tuple #[.int .i64 k,.bool true]) w:=by kernel_rfl

set_option maxRecDepth 100000 in
set_option maxHeartbeats 2000000 in
theorem kind_own (k:Nat) (hk:50≤k∧k≤54) (w:World):Calls Tryz.prog 47 #[.iface 157 (.int .i64 (k:Nat))] w fun e w'=>e=.returned (.int .i64 (k:Nat))∧Below w.heap.size w w':=by
  have h1:=own_own
  go_enter Tryz.func47,Tryz.ntmps47
  go_wp2_with (fail)
  go_ret
  exact ⟨rfl,by first | exact Below.refl _ _ | exact (Below.refl _ _).alloc (Nat.le_refl _) _⟩

theorem kind_anyG {k:Nat} {ev:Value} {w:World} (h:IsErrG k ev w) (hE:EofAt w):Calls Tryz.prog 47 #[ev] w fun e w'=>e=.returned (.int .i64 (k:Nat))∧Below w.heap.size w w':=by
  rcases h with h | ⟨h1,h2,rfl⟩
  · exact kind_any h hE
  · exact kind_own k ⟨h1,h2⟩ w

set_option maxRecDepth 100000 in
set_option maxHeartbeats 2000000 in
theorem Get_G (proto:Int) (plain rb sb:Bool) (ms ct fr:Int) (hf:(cfgOf plain rb sb ms ct fr).fit) (t D:Int)
    (B:Option Addr) (cB:Nat) (xs:List Int) (w:World) (hE:EofAt w) (hB:(Kd.int .u8).C w B xs.length xs) (h8:∀ x∈xs,0≤x∧x < 256) (hn1:1≤xs.length) (hlim:xs.length≤140737488355328)
    {V:Val} {k:Nat} {st':CSt} {rest:List UInt8}
    (hg:∀ (m:Nat) (R:RP proto (cfgOf plain rb sb ms ct fr) m) (S:List Nat) (W:World),R.P.Is S (R.st (CR0,toB xs)) W→Calls Tryz.prog 49 #[.iface R.P.ty R.P.ptr,.int .u8 (t % 256),.int .i64 D] W (GotV R.P (V,k,R.st (st',rest)) S W)) :
    Calls Tryz.prog 18 #[confV proto plain rb sb ms ct fr,.int .i64 t,.slice B xs.length cB,.int .i64 D] w fun e w'=>∃ cs,e=.returned (.tuple #[.agg cs.toArray,.int .i64 (k:Nat),.int .i64 rest.length])∧HasO (fun b=>w.heap.size≤b) w' V cs∧Below w.heap.size w w':=by
  obtain ⟨ad,rfl,hal,hsrc⟩:=C_cells hB h8 hn1
  have HPR:=Lib.hid (fun m b g W=>rprotocol_C proto plain rb sb ms ct fr hf m b g (toB xs) W)
  have HG:=Lib.hid hg
  have HE:=Lib.hid hE
  obtain ⟨W0,hW0⟩:∃ W0,W0=(w.alloc (.cells #[.int .i64 proto,.bool plain,.bool rb,.bool sb,.int .i32 ms,.int .i32 ct,.int .i32 fr] 23)).alloc (.cells #[.int .i64 0,.int .i64 0,.slice none 0 0,.int .i64 0,.int .i64 0,.slice none 0 0,.slice none 0 0] 28):=⟨_,rfl⟩
  have hB0:Below w.heap.size w W0:=by rw [hW0];exact ((Below.refl _ w).alloc (Nat.le_refl _) _).alloc (by simp) _
  have hc0:W0.heap[w.heap.size]?=some (.cells #[.int .i64 proto,.bool plain,.bool rb,.bool sb,.int .i32 ms,.int .i32 ct,.int .i32 fr] 23 (0,0)):=by rw [hW0];exact heap_alloc_old (heap_alloc_new w _) _
  have hr0:W0.heap[w.heap.size+1]?=some (.cells #[.int .i64 0,.int .i64 0,.slice none 0 0,.int .i64 0,.int .i64 0,.slice none 0 0,.slice none 0 0] 28 (0,0)):=by rw [hW0];exact heap_alloc_at (by simp) _
  have hs0:W0.heap.size=w.heap.size+1+1:=by rw [hW0];simp
  have HH:=Lib.hid (holding_any xs.length cB (Lib.byteCells (toB xs)) ad W0 (by rw [Lib.byteCells_length];simp [toB]) (by omega) (fun j v hj=>by
    rw [hB0.cell (by rw [Lib.block_add];exact hal)]
    exact hsrc j v hj) (Lib.byteCells_one _) hn1 hlim)
  have HB0:=Lib.hid hB0
  have HPS:=Lib.hid (fun W (hB:Below W0.heap.size W0 W)=>(Box7.at_ hc0).of hB (lt_heap hc0))
  have HRB0:=Lib.hid hr0
  clear hg hE hB h8 hsrc hB0 hc0 hr0
  go_enter Tryz.func18,Tryz.ntmps18
  go_wp2_with (fail)
  rw [← hW0]
  clear hW0
  refine HH.out.mono ?_
  rintro e W1 ⟨m,bb,gg,rfl,hm,hbb,hgg,hM,hB1⟩
  have HM:=Lib.hid hM
  have HB1:=Lib.hid hB1
  have hs1:=hB1.size
  clear hM hB1
  obtain ⟨p0,p1,p2,p3,p4,p5,p6⟩:=HPS.out W1 HB1.out
  go_wp2_with (fail)
  refine (HPR.out m bb gg W1 HM.out).mono ?_
  rintro e W2 ⟨R,S2,rfl,hI2,hS2,hB2⟩
  clear p0 p1 p2 p3 p4 p5 p6
  have HB2:=Lib.hid (HB1.out.trans (hB2.mono hs1))
  have hown:∀ j,j∈S2→w.heap.size+1+1≤j:=fun j hj=>by rcases hS2 j hj with h | h | h | h <;> omega
  have HOWN:=Lib.hid hown
  have HI2:=Lib.hid hI2
  clear hB2 hI2 hS2 hown
  go_wp2_with (fail)
  refine (typ_of _ _).mono ?_
  rintro e w' ⟨rfl,rfl⟩
  go_wp2_with (fail)
  refine (HG.out m R S2 W2 HI2.out).mono ?_
  rintro e W3 ⟨ev,cs,S3,rfl,hO3,hE3,hI3,hs3⟩
  dsimp only at hO3 hE3 hI3
  obtain ⟨A2,a2,A5,a5,A6,a6,rfl,-⟩:=kVal_open hO3.now
  obtain ⟨b3,g3,off3,hM3⟩:=R.mem hI3
  have hB3:Below W0.heap.size W0 W3:=HB2.out.trans (hs3.below W0.heap.size HB2.out.size (fun j hj=>by have:=HOWN.out j hj;omega))
  have hr3:=(hB3.block _ (lt_heap HRB0.out)).trans HRB0.out
  have he3:IsErrG k ev W3:=hE3
  have cm3:=hM3.cell
  have HM3:=Lib.hid hM3
  have HO3:=Lib.hid hO3
  have HB3:=Lib.hid hB3
  have HR3:=Lib.hid hr3
  have HK3:=Lib.hid (fun W (hB:Below W3.heap.size W3 W)=>(kind_anyG (w:=W) (he3.step_at (Step.ofBelow (S:=[]) hB) (fun b hb=>by simp at hb)) (HE.out.below (HB0.out.trans ((HB3.out.trans (hB.mono HB3.out.size)).mono HB0.out.size)) HE.out.lt)).mono fun e w' h=>show e=.returned (.int .i64 (k:Nat))∧Below W3.heap.size W3 w'∧Below W.heap.size W w' from ⟨h.1,hB.trans (h.2.mono hB.size),h.2⟩)
  have HMB:=Lib.hid (fun W (hB:Below W3.heap.size W3 W)=>Mem.step HM3.out (Step.ofBelow (S:=[]) hB) (by simp) (by simp) (by simp))
  have HL3:=Lib.hid (fun W (hB:Below W3.heap.size W3 W)=>(buf_left b3 g3 off3 _ W (HMB.out W hB).2.2.2).mono fun e w' h=>(by
    obtain ⟨h1,n,rfl⟩:=h
    refine ⟨?_,below_drewN hB n,below_drewN (Below.refl _ W) n⟩
    rw [h1,Lib.byteCells_length]:e=Ending.returned (.int .i64 rest.length)∧Below W3.heap.size W3 w'∧Below W.heap.size W w'))
  obtain ⟨d0,d1,d2,d3,d4,d5,d6⟩:=cells7 hr3
  have hfr:=frozen_heap hr3
  have hlr:=lt_heap hr3
  clear hO3 hE3 hI3 hs3 hM3 hB3 hr3 he3
  go_wp2_with (fail)
  obtain ⟨WV,hWV⟩:∃ WV,WV=W3.alloc (.cells #[.int .i64 V.f0,.int .i64 V.f1,.slice A2 V.f2.length a2,.int .i64 V.f3,.int .i64 V.f4,.slice A5 V.f5.length a5,.slice A6 V.f6.length a6] 28):=⟨_,rfl⟩
  have hbv:WV.heap[W3.heap.size]?=some (.cells #[.int .i64 V.f0,.int .i64 V.f1,.slice A2 V.f2.length a2,.int .i64 V.f3,.int .i64 V.f4,.slice A5 V.f5.length a5,.slice A6 V.f6.length a6] 28 (0,0)):=by rw [hWV];exact heap_alloc_new W3 _
  have hBV:Below W3.heap.size W3 WV:=by rw [hWV];exact (Below.refl _ W3).alloc (Nat.le_refl _) _
  rw [← hWV]
  clear hWV
  have HX:=Lib.hid hBV
  have HVS:=Lib.hid (fun W (hB:Below W3.heap.size W3 W) (h:W.heap[W3.heap.size]?=some (.cells #[.int .i64 V.f0,.int .i64 V.f1,.slice A2 V.f2.length a2,.int .i64 V.f3,.int .i64 V.f4,.slice A5 V.f5.length a5,.slice A6 V.f6.length a6] 28 (0,0)))=>show W.cell? ⟨m,0,none⟩=some (.pointer (some ⟨b3,0,none⟩))∧W.cell? ⟨W3.heap.size,0,none⟩=some (.int .i64 V.f0)∧W.cell? ⟨W3.heap.size,1,none⟩=some (.int .i64 V.f1)∧W.cell? ⟨W3.heap.size,2,none⟩=some (.slice A2 V.f2.length a2)∧W.cell? ⟨W3.heap.size,3,none⟩=some (.int .i64 V.f3)∧W.cell? ⟨W3.heap.size,4,none⟩=some (.int .i64 V.f4)∧W.cell? ⟨W3.heap.size,5,none⟩=some (.slice A5 V.f5.length a5)∧W.cell? ⟨W3.heap.size,6,none⟩=some (.slice A6 V.f6.length a6) from ⟨(HMB.out W hB).cell,(cell_heap h 0).trans rfl,(cell_heap h 1).trans rfl,(cell_heap h 2).trans rfl,(cell_heap h 3).trans rfl,(cell_heap h 4).trans rfl,(cell_heap h 5).trans rfl,(cell_heap h 6).trans rfl⟩)
  have HBVB:=Lib.hid hbv
  have hmne:¬ m=w.heap.size+1:=by omega
  have hmne2:¬ W3.heap.size=w.heap.size+1:=by omega
  have hss:=HVS.out WV hBV hbv
  clear hbv hBV
  go_region_held3 (fun W'=>W'.cell? ⟨m,0,none⟩=some (.pointer (some ⟨b3,0,none⟩))∧W'.cell? ⟨W3.heap.size,0,none⟩=some (.int .i64 V.f0)∧W'.cell? ⟨W3.heap.size,1,none⟩=some (.int .i64 V.f1)∧W'.cell? ⟨W3.heap.size,2,none⟩=some (.slice A2 V.f2.length a2)∧W'.cell? ⟨W3.heap.size,3,none⟩=some (.int .i64 V.f3)∧W'.cell? ⟨W3.heap.size,4,none⟩=some (.int .i64 V.f4)∧W'.cell? ⟨W3.heap.size,5,none⟩=some (.slice A5 V.f5.length a5)∧W'.cell? ⟨W3.heap.size,6,none⟩=some (.slice A6 V.f6.length a6)) (first | with_reducible exact hss | with_reducible exact hss4 | (simp [go_sem, *];done) | fail)
    (first
      | (go_at_call 47;(with_reducible refine (HK3.out _ ?_).mono ?_);(· (repeat (first | (with_reducible exact HX.out) | (with_reducible exact Below.refl _ _) | (with_reducible refine Below.drew ?_) | (with_reducible refine Below.alloc ?_ (by have:=HX.out.size;simp <;> omega) _))));rintro e W4 ⟨rfl,hB4,hB5⟩;have HX:=Lib.hid hB4;have HBVB:=Lib.hid ((hB5.block _ (by first | exact lt_heap HBVB.out | exact lt_heap (show _ from HBVB.out))).trans HBVB.out);have hss4:=HVS.out W4 hB4 HBVB.out;have hr4:=(hB4.block _ (lt_heap HR3.out)).trans HR3.out;obtain ⟨f0,f1,f2,f3,f4,f5,f6⟩:=cells7 hr4;have hfr4:=frozen_heap hr4;have hlr4:=lt_heap hr4;have HR4:=Lib.hid hr4;clear hB4 hB5 hr4)
      | (go_at_call 51;(with_reducible refine (HL3.out _ ?_).mono ?_);(· (repeat (first | (with_reducible exact HX.out) | (with_reducible exact Below.refl _ _) | (with_reducible refine Below.drew ?_) | (with_reducible refine Below.alloc ?_ (by have:=HX.out.size;simp <;> omega) _))));rintro e W4 ⟨rfl,hB4,hB5⟩;have HX:=Lib.hid hB4;have HBVB:=Lib.hid ((hB5.block _ (by first | exact lt_heap HBVB.out | exact lt_heap (show _ from HBVB.out))).trans HBVB.out);have hss4:=HVS.out W4 hB4 HBVB.out;have hr4:=(hB4.block _ (lt_heap HR3.out)).trans HR3.out;obtain ⟨f0,f1,f2,f3,f4,f5,f6⟩:=cells7 hr4;have hfr4:=frozen_heap hr4;have hlr4:=lt_heap hr4;have HR4:=Lib.hid hr4;clear hB4 hB5 hr4))
  all_goals go_wp2_with (fail)
  all_goals (
    obtain ⟨W6,e2,h6,hs6⟩:=set7 HR4.out (.int .i64 V.f0) (.int .i64 V.f1) (.slice A2 V.f2.length a2) (.int .i64 V.f3) (.int .i64 V.f4) (.slice A5 V.f5.length a5) (.slice A6 V.f6.length a6)
    rw [e2]
    obtain ⟨r0,r1,r2,r3,r4,r5,r6⟩:=cells7 h6
    refine bodyPost_ret (v:=.tuple #[.agg #[.int .i64 V.f0,.int .i64 V.f1,.slice A2 V.f2.length a2,.int .i64 V.f3,.int .i64 V.f4,.slice A5 V.f5.length a5,.slice A6 V.f6.length a6],.int .i64 (k:Nat),.int .i64 rest.length]) (by simp [results,Tryz.results18,go_sem, *]) rfl ?_
    have hw4:Below w.heap.size w W4:=HB0.out.trans ((HB3.out.trans (HX.out.mono HB3.out.size)).mono HB0.out.size)
    have hw2:=HB2.out.size
    have hO6:=HO3.out.move (w1:=W6) (fun b hb hlt=>(hs6.block b (Nat.lt_of_lt_of_le hlt HX.out.size) (by simp only [List.mem_cons,List.not_mem_nil,or_false];omega)).trans (HX.out.block b hlt)) (Nat.le_trans HX.out.size hs6.size)
    exact ⟨[.int .i64 V.f0,.int .i64 V.f1,.slice A2 V.f2.length a2,.int .i64 V.f3,.int .i64 V.f4,.slice A5 V.f5.length a5,.slice A6 V.f6.length a6],rfl,hO6.mono (fun b hb _=>by have h1:=hb.1;have h2:=HB0.out.size;have h3:=HB2.out.size;show w.heap.size≤b;omega),hw4.trans (hs6.below w.heap.size hw4.size (fun j hj=>by simp only [List.mem_cons,List.not_mem_nil,or_false] at hj;omega))⟩)

end Go.Proofs.YtmjcnomgpikncaaGreatDoor

namespace Go.Proofs.YtmjcnomgpikncaaGreatDoor

open Go.RowKit Go.Deep



open Go.Proofs.YtmjcnomgpikncaaGreatDoorW.PrintWords

section

variable (proto:Int) (hp:proto=0∨proto=1) (plain rb sb:Bool) (ms ct fr:Int) (hf:(cfgOf plain rb sb ms ct fr).fit) (hc:65536≤(cfgOf plain rb sb ms ct fr).container) (hm:1048576≤(cfgOf plain rb sb ms ct fr).message)

  (V:Val) (hV:rightV V=true) (hw:wfV V) (ht:tot V≤65536) (B:Option Addr) (cB:Nat) (xs:List Int) (r:List UInt8) (w:World) (hE:EofAt w) (hB:(Kd.int .u8).C w B xs.length xs) (h8:∀ x∈xs,0≤x∧x < 256) (hlim:xs.length≤140737488355328) (hx:toB xs=gen (codec proto) V++r)

include hp hf hc hm hV hw ht hE hB h8 hlim hx in
theorem Get_right (D:Int) (hD:(deepV V:Int)≤D) (hD2:D < 9223372036854775808) :
    Calls Tryz.prog 18 #[confV proto plain rb sb ms ct fr,.int .i64 V.f0,.slice B xs.length cB,.int .i64 D] w fun e w'=>∃ cs,e=.returned (.tuple #[.agg cs.toArray,.int .i64 0,.int .i64 r.length])∧HasO (fun b=>w.heap.size≤b) w' (plV (decide (proto=1)) V) cs∧Below w.heap.size w w':=by
  obtain ⟨st',hst⟩:=back_rd proto hp (cfgOf plain rb sb ms ct fr) hc hm V hV hw ht (tot V+1) D (by omega) hD r
  rw [← hx] at hst
  have hT:=isT_lt (right_type hV)
  refine Get_G proto plain rb sb ms ct fr hf V.f0 D B cB xs w hE hB h8 (xs_pos hV hx) hlim (V:=plV (decide (proto=1)) V) (k:=0) (st':=st') (rest:=r) ?_
  intro m R S W hI
  have h1:=getV_sim R.st R.run_eq (tot V+1) D V.f0 (CR0,toB xs)
  rw [hst] at h1
  rw [show V.f0 % 256=V.f0 by omega]
  exact get_any R.P (tot V+1) D (by omega) (by omega) hD2 S _ W V.f0 hI hT.1 hT.2 _ h1

end

end Go.Proofs.YtmjcnomgpikncaaGreatDoor
