/- Bytes held against bytes, joined bytes. No condition. -/
import Derived.Test.YtmjcnomgpikncaaGreatDoorMc
import Derived.Below
import Derived.Deep.Draws
import Derived.Deep.AppendLies
import Derived.Maps.AppendAt
import Derived.OwnWalk
import Derived.Laws.BytesArg
import Derived.Laws.MakeOwn
import Derived.Laws.OwnMore
import Derived.Deep.OwnRows
import Derived.Tactics
import Derived.Lib.ConvBytes
import Derived.Laws.Slices
import Derived.WalkKit
import Derived.KernelRfl
import Derived.RowKit3
import Derived.Deep.LoopGhost
import Derived.Deep.QuietTactic
import Derived.BigQuiet
import Derived.WideLaws
import Derived.Deep.DeepCutAuto
import Derived.Deep.CutBlock
import Derived.Deep.RegionHeld3
import Derived.Laws.Rows
import Derived.Lib.AppendStr
import Derived.ArgAppend
import Derived.Laws.IdiomCopy
import Derived.OrdersHeld
import Derived.Laws.BitsLemmas
import Derived.RowKit
import Derived.Test.YtmjcnomgpikncaaGreatDoorMw1
import Derived.Test.YtmjcnomgpikncaaGreatDoorMw2
import Derived.Test.YtmjcnomgpikncaaGreatDoorMb2
set_option linter.unusedVariables false
set_option linter.unusedSimpArgs false
namespace Go.Proofs.YtmjcnomgpikncaaGreatDoor

open Go.RowKit Go.Proofs.YtmjcnomgpikncaaGreatDoorW.PrintWords Go.Proofs.YtmjcnomgpikncaaGreatDoorW.PrintLast Go.Proofs.YtmjcnomgpikncaaGreatDoorW.PrintMore

attribute [local go_sem] max2_int min2_int max_two min_two max_three min_three max_four min_four



def laws_equal.l0:Nat→List Int→List Int→Int→Option (Bool)
  | 0,_,_,_=>none
  | k+1,x0,x1,x5=>if x5 < (x0.length:Int) then (if 0≤x5 then (if x5 < (x1.length:Int) then (if (rd x0 x5)=(rd x1 x5) then (laws_equal.l0 k x0 x1 (wrap64 (x5+1))) else (some false)) else (none)) else (none)) else (some true)

def laws_equal.f (k:Nat) (l0:List Int) (l1:List Int):Option (Bool):=if (l0.length:Int)=(l1.length:Int) then (laws_equal.l0 k l0 l1 0) else (some false)

set_option maxHeartbeats 8000000 in
set_option maxRecDepth 100000 in
theorem laws_equal.calls (k:Nat) (A0:Option Addr) (c0:Nat) (l0:List Int) (A1:Option Addr) (c1:Nat) (l1:List Int) (r:Bool) (w:World) (hr0:Kd.C (Kd.int .u8) w A0 l0.length l0) (hc0:l0.length≤c0) (hr1:Kd.C (Kd.int .u8) w A1 l1.length l1) (hc1:l1.length≤c1) (h:laws_equal.f k l0 l1=some r) :
 Calls Tryz.prog 27 #[.slice A0 l0.length c0,.slice A1 l1.length c1] w fun e w'=>e=.returned (.bool r)∧Drawn0 w w':=by
 have HR0:=Aside0.mk hr0
 have HC0:=Aside0.mk hc0
 clear hr0 hc0
 have HR1:=Aside0.mk hr1
 have HC1:=Aside0.mk hc1
 clear hr1 hc1
 have H:(if (l0.length:Int)=(l1.length:Int) then (laws_equal.l0 k l0 l1 0) else (some false))=some r:=h
 clear h
 by_cases c3:(l0.length:Int)=(l1.length:Int)
 · rw [if_pos c3] at H
   have c3b0:((l0.length:Int) == (l1.length:Int))=true:=beq_iff_eq.mpr c3
   have c3b1:((l0.length:Int) != (l1.length:Int))=false:=bne_eq_false_iff_eq.mpr c3
   have c3b2:(l0.length == l1.length)=true:=by first | simpa using c3 | (simp at c3 ⊢;omega)
   clear c3
   have H':=Aside0.mk H
   clear H
   go_enter Tryz.func27,Tryz.ntmps27
   go_wp2
   repeat (go_quiet (fail);try go_wp2)
   go_loopg [5] k (fun kq v5 w'=>∃ (x5_1:Int),v5=.int .i64 x5_1∧Aside0 (laws_equal.l0 kq l0 l1 x5_1=some r)∧Aside0 (kq≤k)∧Drawn0 w w')
   case atStart=>exact ⟨(0),(by first | rfl | (simp;done) | (simp [*];done)),H',⟨Nat.le_refl _⟩,by repeat (first | exact Drawn0.refl _ | apply Drawn0.step)⟩
   case round =>
    clear H'
    try clear c1
    try clear c2
    try clear p2
    try clear c3
    try clear c3b0
    try clear c3b1
    try clear c3b2
    obtain ⟨x5_1,rfl,HA,HK1,⟨m1,rfl⟩⟩:=hrel
    cases gk with
    | zero=>exact absurd HA.out (by simp [laws_equal.l0])
    | succ k1 =>
     have H:=HA.out
     clear HA
     simp only [laws_equal.l0] at H
     by_cases c4:x5_1 < (l0.length:Int)
     · rw [if_pos c4] at H
       have c4b0:decide (x5_1 < (l0.length:Int))=true:=decide_eq_true c4
       clear c4
       by_cases c5:0≤x5_1
       · rw [if_pos c5] at H
         have c5b0:decide (0≤x5_1)=true:=decide_eq_true c5
         clear c5
         by_cases c6:x5_1 < (l1.length:Int)
         · rw [if_pos c6] at H
           have c6b0:decide (x5_1 < (l1.length:Int))=true:=decide_eq_true c6
           clear c6
           by_cases c7:(rd l0 x5_1)=(rd l1 x5_1)
           · rw [if_pos c7] at H
             have c7b0:((rd l0 x5_1) == (rd l1 x5_1))=true:=beq_iff_eq.mpr c7
             have c7b1:((rd l0 x5_1) != (rd l1 x5_1))=false:=bne_eq_false_iff_eq.mpr c7
             clear c7
             have H':=Aside0.mk H
             clear H
             have p106:0≤(x5_1:Int):=of_decide_eq_true (by first | (with_reducible assumption) | assumption)
             have q106:x5_1 < (l0.length:Int):=of_decide_eq_true (by first | (with_reducible assumption) | assumption)
             obtain ⟨ad106,e106,hx106_0⟩:=Kd.at_int HR0.out x5_1 p106 q106
             cases e106
             replace p106:=eq_true p106
             replace q106:=eq_true q106
             have p107:0≤(x5_1:Int):=of_decide_eq_true (by first | (with_reducible assumption) | assumption)
             have q107:x5_1 < (l1.length:Int):=of_decide_eq_true (by first | (with_reducible assumption) | assumption)
             obtain ⟨ad107,e107,hx107_0⟩:=Kd.at_int HR1.out x5_1 p107 q107
             cases e107
             replace p107:=eq_true p107
             replace q107:=eq_true q107
             go_wp2
             repeat (go_quiet (fail);try go_wp2)
             go_roundg k1
             case measure=>have:=HK1.out;omega
             case rel=>exact ⟨(wrap64 (x5_1+1)),(by first | rfl | (simp;done) | (simp [*];done)),H',⟨by have:=HK1.out;omega⟩,by repeat (first | exact Drawn0.refl _ | apply Drawn0.step)⟩
           · rw [if_neg c7] at H
             have c7b0:((rd l0 x5_1) == (rd l1 x5_1))=false:=beq_eq_false_iff_ne.mpr c7
             have c7b1:((rd l0 x5_1) != (rd l1 x5_1))=true:=bne_iff_ne.mpr c7
             obtain rfl:=Option.some.inj H
             have p106:0≤(x5_1:Int):=of_decide_eq_true (by first | (with_reducible assumption) | assumption)
             have q106:x5_1 < (l0.length:Int):=of_decide_eq_true (by first | (with_reducible assumption) | assumption)
             obtain ⟨ad106,e106,hx106_0⟩:=Kd.at_int HR0.out x5_1 p106 q106
             cases e106
             replace p106:=eq_true p106
             replace q106:=eq_true q106
             have p107:0≤(x5_1:Int):=of_decide_eq_true (by first | (with_reducible assumption) | assumption)
             have q107:x5_1 < (l1.length:Int):=of_decide_eq_true (by first | (with_reducible assumption) | assumption)
             obtain ⟨ad107,e107,hx107_0⟩:=Kd.at_int HR1.out x5_1 p107 q107
             cases e107
             replace p107:=eq_true p107
             replace q107:=eq_true q107
             go_wp2
             repeat (go_quiet (fail);try go_wp2)
             go_ret
             exact ⟨by first | rfl | (simp;done) | (simp [*];done),by repeat (first | exact Drawn0.refl _ | apply Drawn0.step)⟩
         · rw [if_neg c6] at H
           exact absurd H (by simp)
       · rw [if_neg c5] at H
         exact absurd H (by simp)
     · rw [if_neg c4] at H
       have c4b0:decide (x5_1 < (l0.length:Int))=false:=decide_eq_false c4
       clear c4
       obtain rfl:=Option.some.inj H
       go_wp2
       repeat (go_quiet (fail);try go_wp2)
       go_ret
       exact ⟨by first | rfl | (simp;done) | (simp [*];done),by repeat (first | exact Drawn0.refl _ | apply Drawn0.step)⟩
 · rw [if_neg c3] at H
   have c3b0:((l0.length:Int) == (l1.length:Int))=false:=beq_eq_false_iff_ne.mpr c3
   have c3b1:((l0.length:Int) != (l1.length:Int))=true:=bne_iff_ne.mpr c3
   have c3b2:(l0.length == l1.length)=false:=by first | simpa using c3 | (simp at c3 ⊢;omega)
   obtain rfl:=Option.some.inj H
   go_enter Tryz.func27,Tryz.ntmps27
   go_wp2
   repeat (go_quiet (fail);try go_wp2)
   go_ret
   exact ⟨by first | rfl | (simp;done) | (simp [*];done),by repeat (first | exact Drawn0.refl _ | apply Drawn0.step)⟩

end Go.Proofs.YtmjcnomgpikncaaGreatDoor

namespace Go.Proofs.YtmjcnomgpikncaaGreatDoor

open Go.RowKit Go.Deep Go.Proofs.YtmjcnomgpikncaaGreatDoorW.PrintWords



theorem equal_l:∀ (m i:Nat) (x y:List Int),x.length=y.length→i+m=x.length→x.length≤9223372036854775807→∃ k,laws_equal.l0 k x y (i:Int)=some (decide (x.drop i=y.drop i))
  | 0,i,x,y,hl,hi,hm=>⟨1,by
    simp only [laws_equal.l0]
    rw [if_neg (by omega),List.drop_eq_nil_of_le (by omega),List.drop_eq_nil_of_le (by omega)]
    simp⟩
  | m+1,i,x,y,hl,hi,hm=>by
    have hx:i < x.length:=by omega
    have hy:i < y.length:=by omega
    have rx:rd x (i:Int)=x[i]:=by simp [rd,List.getD,hx]
    have ry:rd y (i:Int)=y[i]:=by simp [rd,List.getD,hy]
    obtain ⟨k,e⟩:=equal_l m (i+1) x y hl (by omega) hm
    rw [List.drop_eq_getElem_cons hx,List.drop_eq_getElem_cons hy]
    by_cases h:x[i]=y[i]
    · refine ⟨k+1,?_⟩
      simp only [laws_equal.l0]
      rw [if_pos (by omega),if_pos (by omega),if_pos (by omega),rx,ry,if_pos h,w64i _ (by omega) (by omega),show ((i:Int)+1)=((i+1:Nat):Int) by omega,e]
      simp only [h,List.cons.injEq,true_and]
    · refine ⟨1,?_⟩
      simp only [laws_equal.l0]
      rw [if_pos (by omega),if_pos (by omega),if_pos (by omega),rx,ry,if_neg h]
      simp only [h,List.cons.injEq,false_and,decide_false]

theorem equal_f (x y:List Int) (hm:x.length≤9223372036854775807):∃ k,laws_equal.f k x y=some (decide (x=y)):=by
  unfold laws_equal.f
  by_cases hl:x.length=y.length
  · obtain ⟨k,e⟩:=equal_l x.length 0 x y hl (by omega) hm
    refine ⟨k,?_⟩
    rw [if_pos (by omega)]
    simpa using e
  · refine ⟨0,?_⟩
    rw [if_neg (by omega)]
    have:¬ x=y:=fun h=>hl (by rw [h])
    simp [this]

end Go.Proofs.YtmjcnomgpikncaaGreatDoor

namespace Go.Proofs.YtmjcnomgpikncaaGreatDoor

open Go.RowKit Go.Deep Go.Proofs.YtmjcnomgpikncaaGreatDoorW.PrintWords



theorem row_bytes {w:World} {a:Option Addr} {len cap:Nat} {zs:List Int} (h:IsRow .u8 w a len cap zs):∃ nm:List Int,nm.length=len∧(Kd.int .u8).C w a nm.length nm∧∀ x∈nm,0≤x∧x < 256:=by
  rcases h with ⟨rfl,rfl,_,_⟩ | ⟨x,rfl,hl,hm,hz,hc,hw⟩
  · exact ⟨[],rfl,Kd.C_nil _ _,by simp⟩
  · refine ⟨zs.take len,by simp;omega,⟨rfl,by simp;unfold maxLen at hm;omega,fun h0=>⟨x,rfl,fun j p hj=>⟨[.int .u8 p],rfl,rfl,fun i u hu=>?_⟩⟩⟩,fun y hy=>?_⟩
    · cases i with
      | succ i=>simp at hu
      | zero =>
        simp only [List.getElem?_cons_zero,Option.some.injEq] at hu
        subst hu
        rw [List.getElem?_take] at hj
        by_cases hjl:j < len
        · rw [if_pos hjl] at hj
          have hlt:j < zs.length:=by omega
          have hcj:=hc j hlt
          rw [List.getD_eq_getElem?_getD,hj] at hcj
          simpa [Kd.int,Kd.scalar] using hcj
        · rw [if_neg hjl] at hj
          cases hj
    · have hwf:=hw y (List.mem_of_mem_take hy)
      have h1:IntKind.u8.min≤y∧y≤IntKind.u8.max:=by simpa [Lit.wf] using hwf
      have e1:IntKind.u8.min=0:=by decide
      have e2:IntKind.u8.max=255:=by decide
      omega

end Go.Proofs.YtmjcnomgpikncaaGreatDoor

namespace Go.Proofs.YtmjcnomgpikncaaGreatDoor

open Go.RowKit Go.Proofs.YtmjcnomgpikncaaGreatDoorW.PrintWords Go.Proofs.YtmjcnomgpikncaaGreatDoorW.PrintLast Go.Proofs.YtmjcnomgpikncaaGreatDoorW.PrintMore

attribute [local go_sem] max2_int min2_int max_two min_two max_three min_three max_four min_four



theorem infoU8:(Tryz.prog.info? 5).map (fun i=>(i.zero,i.size,i.bytes))=some (some (.int .u8 0),1,1):=by kernel_rfl

def rd_L2 (xs:List (List Int)) (i:Int):(List Int):=xs.getD i.toNat ([]:List Int)

theorem at_L2 {w:World} {A:Option Addr} {n:Nat} {xs:List (List Int)} (h:Kd.C (Kd.slice 5 (Kd.int .u8)) w A n xs) (i:Int) (h0:0≤i) (h1:i < n):∃ ad A0 c0,A=some ad∧w.cell? (ad.add i.toNat)=some (.slice A0 (rd_L2 xs i).length c0)∧(rd_L2 xs i).length≤c0∧(Kd.int .u8).C w A0 (rd_L2 xs i).length (rd_L2 xs i):=by
  obtain ⟨ad,c,e,_,hK,hc0⟩:=Kd.C_get h ([]:List Int) i h0 h1
  have hc:∀ j u,c[j]?=some u→w.cell? (ad.add (i.toNat * 1+j))=some u:=hc0
  obtain ⟨A0,c0,rfl,l0,g0⟩:=hK
  exact ⟨ad,A0,c0,e,by have hq:=hc 0 _ rfl;rwa [Nat.mul_one,Nat.add_zero] at hq,l0,g0⟩

def laws_joined.l0:Nat→List (List Int)→List Int→Int→Option (List Int)
  | 0,_,_,_=>none
  | k+1,x0,x3,x4=>if x4 < (x0.length:Int) then (if 0≤x4 then (if x3.length+(rd_L2 x0 x4).length < 140737488355328 then (laws_joined.l0 k x0 (x3++(rd_L2 x0 x4)) (wrap64 (x4+1))) else (none)) else (none)) else (some x3)

def laws_joined.f (k:Nat) (l0:List (List Int)):Option (List Int):=laws_joined.l0 k l0 ([]:List Int) 0

set_option maxHeartbeats 8000000 in
set_option maxRecDepth 100000 in
theorem laws_joined.calls (k:Nat) (A0:Option Addr) (c0:Nat) (l0:List (List Int)) (r:List Int) (w:World) (hr0:Kd.C (Kd.slice 5 (Kd.int .u8)) w A0 l0.length l0) (hc0:l0.length≤c0) (h:laws_joined.f k l0=some r) :
 Calls Tryz.prog 22 #[.slice A0 l0.length c0] w fun e w'=>∃ v0_:Value,e=.returned (v0_)∧Kd.R (Kd.int .u8) 5 w' w.heap.size (fun _=>True) v0_ r∧Below w.heap.size w w':=by
 have HR0:=Aside0.mk hr0
 have HC0:=Aside0.mk hc0
 clear hr0 hc0
 have HB:=Aside0.mk (Below.refl w.heap.size w)
 have H:(laws_joined.l0 k l0 ([]:List Int) 0)=some r:=h
 clear h
 have H':=Aside0.mk H
 clear H
 go_enter Tryz.func22,Tryz.ntmps22
 go_wp2
 go_loopg [3,4] k (fun kq v3 v4 w'=>∃ (x3_1:List Int) (x4_1:Int),v4=.int .i64 x4_1∧Aside0 (laws_joined.l0 kq l0 x3_1 x4_1=some r)∧Aside0 (kq≤k)∧Aside0 (Kd.R (Kd.int .u8) 5 w' w.heap.size (fun _=>True) v3 x3_1)∧Aside0 (Below w.heap.size w w'))
 case atStart=>exact ⟨(([]:List Int)),(0),(by first | rfl | (simp;done) | (simp [*];done)),H',⟨Nat.le_refl _⟩,⟨by first | exact Kd.R_nil _ _ _ _ _ | exact Kd.N_nil _ _ _ _ _ | exact Kd.V_nil _ _ _ _ _ | exact Kd.Q_nil _ _ _ _ _ | exact Kd.S_nil _ _ _ _ _⟩,⟨by repeat (first | (with_reducible first | exact HB.out | apply below_alloc | apply pw_below_drewN | apply below_drew1) | exact HB.out)⟩⟩
 case round =>
  clear H'
  obtain ⟨x3_1,x4_1,rfl,HA,HK1,HO_3,HB⟩:=hrel
  cases gk with
  | zero=>exact absurd HA.out (by simp [laws_joined.l0])
  | succ k1 =>
   have H:=HA.out
   clear HA
   simp only [laws_joined.l0] at H
   by_cases c2:x4_1 < (l0.length:Int)
   · rw [if_pos c2] at H
     have c2b0:decide (x4_1 < (l0.length:Int))=true:=decide_eq_true c2
     clear c2
     by_cases c3:0≤x4_1
     · rw [if_pos c3] at H
       have c3b0:decide (0≤x4_1)=true:=decide_eq_true c3
       clear c3
       by_cases c4:x3_1.length+(rd_L2 l0 x4_1).length < 140737488355328
       · rw [if_pos c4] at H
         have LMc4:=Aside0.mk c4
         clear c4
         obtain ⟨y110,hy110⟩:∃ y_:List Int,y_=(x3_1++(rd_L2 l0 x4_1)):=⟨_,rfl⟩
         replace H:(laws_joined.l0 k1 l0 y110 (wrap64 (x4_1+1)))=some r:=by first | (rw [hy110];with_reducible exact H) | (have H2_:=(Option.bind_some _ _).symm.trans H;rw [hy110];with_reducible exact H2_) | (have H2_:=(Option.bind_some _ _).symm.trans H;with_reducible exact H2_) | with_reducible exact H | (rw [hy110];exact H) | exact H
         have Ny110:=Aside0.mk hy110
         clear hy110
         have H':=Aside0.mk H
         clear H
         have p109:0≤(x4_1:Int):=of_decide_eq_true (by first | (with_reducible assumption) | assumption)
         have q109:x4_1 < (l0.length:Int):=of_decide_eq_true (by first | (with_reducible assumption) | assumption)
         obtain ⟨ad109,A109_0,c109_0,e109,hx109_0,hl109_0,hi109_0⟩:=at_L2 HR0.out x4_1 p109 q109
         cases e109
         replace hx109_0:=(HB.out.cell (World.block_lt_of_cell? w _ hx109_0)).trans hx109_0
         have HR109_0:=Aside0.mk hi109_0
         have HC109_0:=Aside0.mk hl109_0
         clear hi109_0 hl109_0
         replace p109:=eq_true p109
         replace q109:=eq_true q109
         go_wp2_with (first | ((with_reducible refine gate_builtin (b:=.append) (xs:=#[.tmp 11,.tmp 15]) rfl ?_);at_builtin;refine Kd.R_append_rows (Kd.int .u8) (w0:=w) w.heap.size rfl (.tmp 11) (.tmp 15) 24 5 (.int .u8 0) 1 rfl Tryz.underlying24 infoU8 rfl (by decide) (by omega) u3 x3_1 (rd_L2 l0 x4_1) _ _ _ (fun _=>True) (fun _=>False) rfl rfl ?aO ?aR (fun _ _ h=>h) (fun _ h=>h.elim) ?aF ?aB ?aS ?aL ?_;(case aR=>repeat (first | exact (Kd.C_below HR109_0.out HB.out) | (with_reducible refine Kd.C_alloc ?_ _) | (with_reducible refine Kd.C_drewN ?_ _) | (with_reducible refine Kd.C_drew ?_)));(case aB=>exact (by repeat (first | (with_reducible first | exact HB.out | apply below_alloc | apply pw_below_drewN | apply below_drew1) | exact HB.out)));(case aF=>exact (fun _ _=>trivial));(case aO=>exact (by (with_reducible repeat (first | apply Kd.R_alloc | apply Kd.R_drewN | apply Kd.R_drew));exact HO_3.out));(case aS=>exact (below_size (by repeat (first | (with_reducible first | exact HB.out | apply below_alloc | apply pw_below_drewN | apply below_drew1) | exact HB.out))));(case aL=>have:=LMc4.out;omega);intro v111 w5 ho hb hg hat;rw [← Ny110.out] at ho;have n0_:=Aside0.mk (hb);have n1_:=Aside0.mk (ho);clear HB;clear HO_3;have HB:=n0_;have HO112:=n1_;clear n0_ n1_;clear ho hb hg hat))
         go_roundg k1
         case measure=>have:=HK1.out;omega
         case rel=>exact ⟨(y110),(wrap64 (x4_1+1)),(by first | rfl | (simp;done) | (simp [*];done)),H',⟨by have:=HK1.out;omega⟩,⟨by (with_reducible repeat (first | apply Kd.R_alloc | apply Kd.R_drewN | apply Kd.R_drew));exact HO112.out⟩,⟨by repeat (first | (with_reducible first | exact HB.out | apply below_alloc | apply pw_below_drewN | apply below_drew1) | exact HB.out)⟩⟩
       · rw [if_neg c4] at H
         exact absurd H (by simp)
     · rw [if_neg c3] at H
       exact absurd H (by simp)
   · rw [if_neg c2] at H
     have c2b0:decide (x4_1 < (l0.length:Int))=false:=decide_eq_false c2
     clear c2
     obtain rfl:=Option.some.inj H
     go_wp2
     go_ret
     exact ⟨_,by first | rfl | (simp [Nat.add_zero] <;> rfl) | (simp [*,Nat.add_zero] <;> rfl),by (with_reducible repeat (first | apply Kd.R_alloc | apply Kd.R_drewN | apply Kd.R_drew));exact HO_3.out,by repeat (first | (with_reducible first | exact HB.out | apply below_alloc | apply pw_below_drewN | apply below_drew1) | exact HB.out)⟩

end Go.Proofs.YtmjcnomgpikncaaGreatDoor

namespace Go.Proofs.YtmjcnomgpikncaaGreatDoor

open Go.RowKit Go.Deep Go.Proofs.YtmjcnomgpikncaaGreatDoorW.PrintWords



end Go.Proofs.YtmjcnomgpikncaaGreatDoor

namespace Go.Proofs.YtmjcnomgpikncaaGreatDoor

open Go.RowKit Go.Deep



open Go.Proofs.YtmjcnomgpikncaaGreatDoorW.PrintWords

theorem sum_drop (L:List (List Int)) (i:Nat) (h:i < L.length):((L.drop i).map List.length).sum=(L.getD i []).length+((L.drop (i+1)).map List.length).sum:=by
  rw [List.drop_eq_getElem_cons h,List.map_cons,List.sum_cons]
  simp [List.getD_eq_getElem?_getD,List.getElem?_eq_getElem h]

theorem joined_l0 (L:List (List Int)) (hl:L.length < 9223372036854775807):∀ (n i:Nat) (acc:List Int),i+n=L.length→acc.length+((L.drop i).map List.length).sum < 140737488355328→laws_joined.l0 (n+1) L acc (i:Int)=some (acc++(L.drop i).flatten)
  | 0,i,acc,h,_=>by
    rw [laws_joined.l0,if_neg (by omega),List.drop_of_length_le (by omega)]
    simp
  | n+1,i,acc,h,hs=>by
    have hi:i < L.length:=by omega
    have e:=sum_drop L i hi
    have e2:rd_L2 L (i:Int)=L.getD i []:=by simp [rd_L2]
    rw [laws_joined.l0,if_pos (by omega),if_pos (by omega),e2,if_pos (by omega),w64i _ (by omega) (by omega)]
    have e3:((i:Int)+1)=((i+1:Nat):Int):=by omega
    rw [e3,joined_l0 L hl n (i+1) _ (by omega) (by rw [List.length_append];omega),List.append_assoc]
    rw [List.drop_eq_getElem_cons hi,List.flatten_cons]
    simp only [List.getD_eq_getElem?_getD,List.getElem?_eq_getElem hi,Option.getD_some]

theorem joined_f (L:List (List Int)) (hl:L.length < 9223372036854775807) (hs:(L.map List.length).sum < 140737488355328):laws_joined.f (L.length+1) L=some L.flatten:=by
  have h:=joined_l0 L hl L.length 0 [] (by omega) (by simpa using hs)
  simpa [laws_joined.f] using h

theorem joined_any {W:World} (g cap:Nat) (L:List (List Int)) (hl0:0 < L.length) (hl:L.length < 1000) (hcap:L.length≤cap) (hs:(L.map List.length).sum < 140737488355328)
    (hC:∀ j p,L[j]?=some p→∃ A c,W.cell? ⟨g,j,none⟩=some (.slice A p.length c)∧p.length≤c∧(Kd.int .u8).C W A p.length p) :
    Calls Tryz.prog 22 #[.slice (some ⟨g,0,none⟩) L.length cap] W fun e w'=>∃ v:Value,e=.returned v∧Kd.R (Kd.int .u8) 5 w' W.heap.size (fun _=>True) v L.flatten∧Below W.heap.size W w':=by
  have hD:(Kd.slice 5 (Kd.int .u8)).C W (some ⟨g,0,none⟩) L.length L:=by
    refine ⟨rfl,by omega,fun _=>⟨_,rfl,fun j p hj=>?_⟩⟩
    obtain ⟨A,c,h1,h2,h3⟩:=hC j p hj
    refine ⟨[.slice A p.length c],rfl,⟨A,c,rfl,h2,h3⟩,fun i u hu=>?_⟩
    cases i with
    | succ i=>simp at hu
    | zero =>
      simp only [List.getElem?_cons_zero,Option.some.injEq] at hu
      subst hu
      have hs1:(Kd.slice 5 (Kd.int .u8)).sz=1:=rfl
      rw [Lib.addr_add,hs1]
      simpa using h1
  exact laws_joined.calls (L.length+1) (some ⟨g,0,none⟩) cap L _ W hD hcap (joined_f L (by omega) hs)

theorem toB_ints (l:List UInt8):toB (ints l)=l:=by
  unfold toB ints
  rw [List.map_map]
  have:((fun x:Int=>x.toNat.toUInt8)∘fun x:UInt8=>(x.toNat:Int))=id:=by
    funext x
    simp
  rw [this,List.map_id]

theorem ints_toB {l:List Int} (h:∀ x∈l,0≤x∧x < 256):ints (toB l)=l:=by
  unfold toB ints
  rw [List.map_map]
  conv=>rhs;rw [← List.map_id l]
  apply List.map_congr_left
  intro x hx
  have h2:=h x hx
  show ((x.toNat % 256:Nat):Int)=x
  omega

theorem IsRow.cap {k:IntKind} {w:World} {a:Option Addr} {len cap:Nat} {zs:List Int} (h:IsRow k w a len cap zs):len≤cap:=by
  rcases h with ⟨_,h1,h2,_⟩ | ⟨x,_,h1,_⟩
  · omega
  · exact h1

end Go.Proofs.YtmjcnomgpikncaaGreatDoor
