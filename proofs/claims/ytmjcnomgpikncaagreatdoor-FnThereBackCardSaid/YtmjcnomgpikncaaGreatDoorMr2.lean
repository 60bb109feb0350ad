/- The laws' helpers on numbers, types and configurations. No condition. -/
import Derived.Test.YtmjcnomgpikncaaGreatDoorMc
import Derived.Below
import Derived.Deep.Draws
import Derived.Deep.AppendLies
import Derived.Maps.AppendAt
import Derived.OwnWalk
import Derived.Laws.BytesArg
import Derived.Laws.MakeOwn
import Derived.Laws.OwnMore
import Derived.Deep.OwnRows
import Derived.Tactics
import Derived.Lib.ConvBytes
import Derived.Laws.Slices
import Derived.WalkKit
import Derived.KernelRfl
import Derived.RowKit3
import Derived.Deep.LoopGhost
import Derived.Deep.QuietTactic
import Derived.BigQuiet
import Derived.WideLaws
import Derived.Deep.DeepCutAuto
import Derived.Deep.CutBlock
import Derived.Deep.RegionHeld3
import Derived.Laws.Rows
import Derived.Lib.AppendStr
import Derived.ArgAppend
import Derived.Laws.IdiomCopy
import Derived.OrdersHeld
import Derived.Laws.BitsLemmas
import Derived.RowKit
import Derived.Test.YtmjcnomgpikncaaGreatDoorMw1
import Derived.Test.YtmjcnomgpikncaaGreatDoorMw2
import Derived.Test.YtmjcnomgpikncaaGreatDoorMr
set_option linter.unusedVariables false
set_option linter.unusedSimpArgs false
namespace Go.Proofs.YtmjcnomgpikncaaGreatDoor

open Go.RowKit Go.Proofs.YtmjcnomgpikncaaGreatDoorW.PrintWords Go.Proofs.YtmjcnomgpikncaaGreatDoorW.PrintLast Go.Proofs.YtmjcnomgpikncaaGreatDoorW.PrintMore

attribute [local go_sem] max2_int min2_int max_two min_two max_three min_three max_four min_four



end Go.Proofs.YtmjcnomgpikncaaGreatDoor

namespace Go.Proofs.YtmjcnomgpikncaaGreatDoor

open Go.RowKit Go.Proofs.YtmjcnomgpikncaaGreatDoorW.PrintWords Go.Proofs.YtmjcnomgpikncaaGreatDoorW.PrintLast Go.Proofs.YtmjcnomgpikncaaGreatDoorW.PrintMore

attribute [local go_sem] max2_int min2_int max_two min_two max_three min_three max_four min_four



def laws_padded.l0:Nat→List Int→List Int→Int→Option (List Int)
  | 0,_,_,_=>none
  | k+1,x0,x3,x4=>if x4 < 16 then (if x4 < (x0.length:Int) then (if 0≤x4 then (if x4 < (x3.length:Int) then (laws_padded.l0 k x0 (x3.set (x4:Int).toNat (rd x0 x4)) (wrap64 (x4+1))) else (none)) else (none)) else (some x3)) else (some x3)

def laws_padded.f (k:Nat) (l0:List Int):Option (List Int):=if 16≤281474976710656 then (laws_padded.l0 k l0 (List.replicate 16 0) 0) else (none)

set_option maxHeartbeats 8000000 in
set_option maxRecDepth 100000 in
theorem laws_padded.calls (k:Nat) (A0:Option Addr) (c0:Nat) (l0:List Int) (r:List Int) (w:World) (hr0:Kd.C (Kd.int .u8) w A0 l0.length l0) (hc0:l0.length≤c0) (h:laws_padded.f k l0=some r) :
 Calls Tryz.prog 56 #[.slice A0 l0.length c0] w fun e w'=>∃ v0_:Value,e=.returned (v0_)∧Kd.R (Kd.int .u8) 5 w' w.heap.size (fun _=>True) v0_ r∧Below w.heap.size w w':=by
 have HR0:=Aside0.mk hr0
 have HC0:=Aside0.mk hc0
 clear hr0 hc0
 have HB:=Aside0.mk (Below.refl w.heap.size w)
 have H:(if 16≤281474976710656 then (laws_padded.l0 k l0 (List.replicate 16 0) 0) else (none))=some r:=h
 clear h
 by_cases c2:16≤281474976710656
 · rw [if_pos c2] at H
   have c2b0:=eq_true c2
   have c2b1:decide (16≤281474976710656)=true:=decide_eq_true c2
   clear c2
   obtain ⟨y142,hy142⟩:∃ y_:List Int,y_=(List.replicate 16 0):=⟨_,rfl⟩
   replace H:(laws_padded.l0 k l0 y142 0)=some r:=by first | (rw [hy142];with_reducible exact H) | (have H2_:=(Option.bind_some _ _).symm.trans H;rw [hy142];with_reducible exact H2_) | (have H2_:=(Option.bind_some _ _).symm.trans H;with_reducible exact H2_) | with_reducible exact H | (rw [hy142];exact H) | exact H
   have Ny142:=Aside0.mk hy142
   clear hy142
   have H':=Aside0.mk H
   clear H
   go_enter Tryz.func56,Tryz.ntmps56
   go_wp2_with (first | ((with_reducible refine gate_dst (N:=5) rfl ?_);(try (refine gate_guard (by rfl) ?_;dsimp only));refine Kd.R_make (Kd.int .u8) _ 5 rfl (N:=5) rfl 24 _ _ rfl 16 rfl rfl Tryz.underlying24 (.int .u8 0) 1 infoU8 rfl (by decide) (by omega) 0 (ok:=fun _=>True) (okp:=fun _=>True) rfl (fun _ hk=>hk) trivial (by omega) (by omega) (Below.refl _ _) (Nat.le_refl _) ?_;intro v143 w3 ho4 hb hg_ hnew_;clear hg_ hnew_;(first | rw [← Ny142.out] at ho4 | (simp only [Int.reduceToNat] at ho4;rw [← Ny142.out] at ho4));have n0_:=Aside0.mk (Kd.R_lower ho4 (below_size (by repeat (first | (with_reducible first | exact HB.out | apply below_alloc | apply pw_below_drewN | apply below_drew1) | exact HB.out))));have n1_:=Aside0.mk (below_step (by repeat (first | (with_reducible first | exact HB.out | apply below_alloc | apply pw_below_drewN | apply below_drew1) | exact HB.out)) hb);clear HB;have HO144:=n0_;have HB:=n1_;clear n0_ n1_;clear hb ho4))
   go_loopg [4] k (fun kq v4 w'=>∃ (x3_1:List Int) (x4_1:Int),v4=.int .i64 x4_1∧Aside0 (laws_padded.l0 kq l0 x3_1 x4_1=some r)∧Aside0 (kq≤k)∧Aside0 (Kd.R (Kd.int .u8) 5 w' w.heap.size (fun _=>True) v143 x3_1)∧Aside0 (Below w.heap.size w w'))
   case atStart=>exact ⟨(y142),(0),(by first | rfl | (simp;done) | (simp [*];done)),H',⟨Nat.le_refl _⟩,⟨by (with_reducible repeat (first | apply Kd.R_alloc | apply Kd.R_drewN | apply Kd.R_drew));exact HO144.out⟩,⟨by repeat (first | (with_reducible first | exact HB.out | apply below_alloc | apply pw_below_drewN | apply below_drew1) | exact HB.out)⟩⟩
   case round =>
    clear H'
    try clear c2
    try clear c2b0
    try clear c2b1
    try clear p2
    obtain ⟨x3_1,x4_1,rfl,HA,HK1,HO_3,HB⟩:=hrel
    cases gk with
    | zero=>exact absurd HA.out (by simp [laws_padded.l0])
    | succ k1 =>
     have H:=HA.out
     clear HA
     simp only [laws_padded.l0] at H
     by_cases c5:x4_1 < 16
     · rw [if_pos c5] at H
       have c5b0:decide (x4_1 < 16)=true:=decide_eq_true c5
       clear c5
       by_cases c6:x4_1 < (l0.length:Int)
       · rw [if_pos c6] at H
         have c6b0:decide (x4_1 < (l0.length:Int))=true:=decide_eq_true c6
         clear c6
         by_cases c7:0≤x4_1
         · rw [if_pos c7] at H
           have c7b0:decide (0≤x4_1)=true:=decide_eq_true c7
           clear c7
           by_cases c8:x4_1 < (x3_1.length:Int)
           · rw [if_pos c8] at H
             have c8b0:decide (x4_1 < (x3_1.length:Int))=true:=decide_eq_true c8
             clear c8
             obtain ⟨y146,hy146⟩:∃ y_:List Int,y_=(x3_1.set (x4_1:Int).toNat (rd l0 x4_1)):=⟨_,rfl⟩
             replace H:(laws_padded.l0 k1 l0 y146 (wrap64 (x4_1+1)))=some r:=by first | (rw [hy146];with_reducible exact H) | (have H2_:=(Option.bind_some _ _).symm.trans H;rw [hy146];with_reducible exact H2_) | (have H2_:=(Option.bind_some _ _).symm.trans H;with_reducible exact H2_) | with_reducible exact H | (rw [hy146];exact H) | exact H
             have Ny146:=Aside0.mk hy146
             clear hy146
             have H':=Aside0.mk H
             clear H
             have p145:0≤(x4_1:Int):=of_decide_eq_true (by first | (with_reducible assumption) | assumption)
             have q145:x4_1 < (l0.length:Int):=of_decide_eq_true (by first | (with_reducible assumption) | assumption)
             obtain ⟨ad145,e145,hx145_0⟩:=Kd.at_int HR0.out x4_1 p145 q145
             cases e145
             replace hx145_0:=(HB.out.cell (World.block_lt_of_cell? w _ hx145_0)).trans hx145_0
             replace p145:=eq_true p145
             replace q145:=eq_true q145
             have p9:0≤(x4_1:Int):=of_decide_eq_true (by first | (with_reducible assumption) | assumption)
             have q9:(x4_1:Int) < ((x3_1.length:Int):Int):=of_decide_eq_true (by first | (with_reducible assumption) | assumption)
             obtain ⟨go9,co9,eo9,gb9,gl9,cl9,HG9⟩:=Kd.R_form HO_3.out (by omega)
             (first | cases eo9 | (injection eo9 with ea_ en_ ec_;(first | subst ea_ | (injection ea_ with ea_;subst ea_));subst ec_;clear en_))
             have GB9:=Aside0.mk gb9
             have GG9:=Aside0.mk HG9
             clear gb9 gl9 HG9
             obtain ⟨hx9_0,hf9_0⟩:=Kd.R_celln 0 HO_3.out (x4_1:Int) p9 q9
             replace p9:=eq_true p9
             replace q9:=eq_true q9
             have HP10:=Kd.R_putg HO_3.out (x4_1:Int) (rd l0 x4_1)
             go_wp2_with (first | ((with_reducible refine gate_store (t:=5) (p:=22) rfl ?_);refine store_event (t:=5) (p:=22) (v:=?vo_w11) (w1:=(wr.setCell ⟨go9,(x4_1:Int).toNat,none⟩ (.int .u8 (rd l0 x4_1)))) ?hg ?ho ?hn ?hr ?_;(case ho=>rfl);(case hg=>rfl);(case hn=>rfl);(case hr=>first | (go_simp;done) | (go_simp;rfl));intro w11 hw;have hg:wr.grownBy w11 (some go9):=(by rw [hw];exact HP10.2);have hp_:Kd.R (Kd.int .u8) 5 w11 w.heap.size (fun _=>True) (.slice (some ⟨go9,0,none⟩) x3_1.length co9) y146:=(by rw [hw,Ny146.out];exact HP10.1);clear HP10;have n0_:=Aside0.mk (hp_);have n1_:=Aside0.mk ((by rw [hw];exact below_set (HB.out) GB9.out:Below w.heap.size w w11));clear HO_3;clear HB;have HO_3:=n0_;have HB:=n1_;clear n0_ n1_;clear hg hw hp_))
             go_roundg k1
             case measure=>have:=HK1.out;omega
             case rel=>exact ⟨(y146),(wrap64 (x4_1+1)),(by first | rfl | (simp;done) | (simp [*];done)),H',⟨by have:=HK1.out;omega⟩,⟨by (with_reducible repeat (first | apply Kd.R_alloc | apply Kd.R_drewN | apply Kd.R_drew));exact HO_3.out⟩,⟨by repeat (first | (with_reducible first | exact HB.out | apply below_alloc | apply pw_below_drewN | apply below_drew1) | exact HB.out)⟩⟩
           · rw [if_neg c8] at H
             exact absurd H (by simp)
         · rw [if_neg c7] at H
           exact absurd H (by simp)
       · rw [if_neg c6] at H
         have c6b0:decide (x4_1 < (l0.length:Int))=false:=decide_eq_false c6
         clear c6
         obtain rfl:=Option.some.inj H
         go_wp2
         go_ret
         exact ⟨_,by first | rfl | (simp [Nat.add_zero] <;> rfl) | (simp [*,Nat.add_zero] <;> rfl),by (with_reducible repeat (first | apply Kd.R_alloc | apply Kd.R_drewN | apply Kd.R_drew));exact HO_3.out,by repeat (first | (with_reducible first | exact HB.out | apply below_alloc | apply pw_below_drewN | apply below_drew1) | exact HB.out)⟩
     · rw [if_neg c5] at H
       have c5b0:decide (x4_1 < 16)=false:=decide_eq_false c5
       clear c5
       obtain rfl:=Option.some.inj H
       go_wp2
       go_ret
       exact ⟨_,by first | rfl | (simp [Nat.add_zero] <;> rfl) | (simp [*,Nat.add_zero] <;> rfl),by (with_reducible repeat (first | apply Kd.R_alloc | apply Kd.R_drewN | apply Kd.R_drew));exact HO_3.out,by repeat (first | (with_reducible first | exact HB.out | apply below_alloc | apply pw_below_drewN | apply below_drew1) | exact HB.out)⟩
 · rw [if_neg c2] at H
   exact absurd H (by simp)

end Go.Proofs.YtmjcnomgpikncaaGreatDoor

namespace Go.Proofs.YtmjcnomgpikncaaGreatDoor

open Go.RowKit Go.Proofs.YtmjcnomgpikncaaGreatDoorW.PrintWords Go.Proofs.YtmjcnomgpikncaaGreatDoorW.PrintLast Go.Proofs.YtmjcnomgpikncaaGreatDoorW.PrintMore

attribute [local go_sem] max2_int min2_int max_two min_two max_three min_three max_four min_four



end Go.Proofs.YtmjcnomgpikncaaGreatDoor

namespace Go.Proofs.YtmjcnomgpikncaaGreatDoor

open Go.RowKit Go.Proofs.YtmjcnomgpikncaaGreatDoorW.PrintWords Go.Proofs.YtmjcnomgpikncaaGreatDoorW.PrintLast Go.Proofs.YtmjcnomgpikncaaGreatDoorW.PrintMore

attribute [local go_sem] max2_int min2_int max_two min_two max_three min_three max_four min_four



end Go.Proofs.YtmjcnomgpikncaaGreatDoor
