/- Any values are skipped by whatever protocol. No condition. -/
import Derived.Test.YtmjcnomgpikncaaGreatDoorMz5
import Derived.Test.YtmjcnomgpikncaaGreatDoorMv2
import Derived.Test.YtmjcnomgpikncaaGreatDoorMt1
import Derived.Test.YtmjcnomgpikncaaGreatDoorMt3
import Derived.Test.YtmjcnomgpikncaaGreatDoorMv4
import Derived.Test.YtmjcnomgpikncaaGreatDoorMe
import Derived.Test.YtmjcnomgpikncaaGreatDoorMs2
set_option linter.unusedVariables false
set_option linter.unusedSimpArgs false
namespace Go.Proofs.YtmjcnomgpikncaaGreatDoor

open Go.RowKit Go.Deep



open Go.Proofs.YtmjcnomgpikncaaGreatDoorW.PrintWords

def SkippedV (P:PR) (r:Nat × P.σ) (S:List Nat) (w:World) (e:Ending) (w':World):Prop :=
  ∃ ev S',e=.returned ev∧IsErr r.1 ev w'∧P.Is S' r.2 w'∧Step S S' w w'

def SkipsV (P:PR) (sv:Int→P.σ→Option (Nat × P.σ)) (D:Int):Prop :=
  ∀ (S:List Nat) (s:P.σ) (w:World) (t:Int),P.Is S s w→0≤t→t < 256→∀ r,sv t s=some r→Calls Tryz.prog 52 #[ctxV,.iface P.ty P.ptr,.int .u8 t,.int .i64 D] w (SkippedV P r S w)

theorem skip_fail (P:PR) {S:List Nat} {s:P.σ} {w:World} (h:P.Is S s w) {t:Nat} {er ms:Value} (o:Obj) (ht:t≤6):SkippedV P (10+t,s) S w (.returned (.iface 235 (.pointer (some ⟨w.heap.size+1,0,none⟩)))) ((w.alloc o).alloc (.cells #[.int .i64 (t:Nat),er,ms] 237 (0,0))) :=
  ⟨_,S,rfl,.inr ⟨w.heap.size+1,t,er,ms,rfl,ht,rfl,heap_alloc_at (by simp) _⟩,P.step h (((Step.refl [] w).alloc _).alloc _) (by simp),(((Step.refl S w).alloc _).alloc _)⟩

set_option maxRecDepth 100000 in
set_option maxHeartbeats 2000000 in
theorem skip_deep (P:PR) (D t:Int) (hD:D≤0) {S:List Nat} {s:P.σ} {w:World} (h:P.Is S s w) :
    Calls Tryz.prog 52 #[ctxV,.iface P.ty P.ptr,.int .u8 t,.int .i64 D] w (SkippedV P (16,s) S w):=by
  have HI:=Lib.hid h
  have hem:=errS_m
  have hen:=errS_n
  clear h
  go_enter Tryz.func52,Tryz.ntmps52
  go_wp2_with (first | (go_at_call 78;go_in) | (go_at_call 77;go_in) | (go_at_call 283;go_in))
  go_ret
  exact skip_fail P HI.out (t:=6) _ (by omega)

set_option maxRecDepth 100000 in
set_option maxHeartbeats 2000000 in
theorem skip_no (P:PR) (D t:Int) (hD:1≤D) (hn:t≠2∧t≠3∧t≠4∧t≠6∧t≠8∧t≠10∧t≠11∧t≠12∧t≠13∧t≠14∧t≠15∧t≠16) {S:List Nat} {s:P.σ} {w:World} (h:P.Is S s w) :
    Calls Tryz.prog 52 #[ctxV,.iface P.ty P.ptr,.int .u8 t,.int .i64 D] w (SkippedV P (11,s) S w):=by
  have HI:=Lib.hid h
  have hem:=errS_m
  have hen:=errS_n
  have hD0:¬ D≤0:=by omega
  obtain ⟨n2,n3,n4,n6,n8,n10,n11,n12,n13,n14,n15,n16⟩:=hn
  clear h
  go_enter Tryz.func52,Tryz.ntmps52
  go_wp2_with (first | (go_at_call 78;go_in) | (go_at_call 77;go_in) | (go_at_call 283;go_in))
  go_ret
  exact skip_fail P HI.out (t:=1) _ (by omega)

set_option maxRecDepth 100000 in
set_option maxHeartbeats 2000000 in
theorem skip_leaf2 (P:PR) (D:Int) (hD:1≤D) {S:List Nat} {s:P.σ} {w:World} (h:P.Is S s w) {g:RGot} {k:Nat} {s1:P.σ} (hr:P.run s .bool=some (g,k,s1)) :
    Calls Tryz.prog 52 #[ctxV,.iface P.ty P.ptr,.int .u8 2,.int .i64 D] w (SkippedV P (k,s1) S w):=by
  obtain ⟨hm,hn,hen⟩:=P.m_bool
  have hD0:¬ D≤0:=by omega
  have HO:=Lib.hid (show Calls Tryz.prog (P.fn "ReadBool") #[P.ptr,ctxV] w (TellsV P.Is (fun ev=>.tuple #[.bool (g.n == 1),ev]) k s1 S w) from P.does h hr)
  clear hr h
  go_enter Tryz.func52,Tryz.ntmps52
  go_wp2_with (fail)
  refine HO.out.mono ?_
  rintro e W1 ⟨ev,S1,rfl,he,hI,hs⟩
  have HE:=Lib.hid he
  have HI:=Lib.hid hI
  have HS:=Lib.hid hs
  clear he hI hs
  go_wp2
  go_ret
  exact ⟨_,S1,rfl,HE.out,HI.out,HS.out⟩

set_option maxRecDepth 100000 in
set_option maxHeartbeats 2000000 in
theorem skip_leaf3 (P:PR) (D:Int) (hD:1≤D) {S:List Nat} {s:P.σ} {w:World} (h:P.Is S s w) {g:RGot} {k:Nat} {s1:P.σ} (hr:P.run s .byte=some (g,k,s1)) :
    Calls Tryz.prog 52 #[ctxV,.iface P.ty P.ptr,.int .u8 3,.int .i64 D] w (SkippedV P (k,s1) S w):=by
  obtain ⟨hm,hn,hen⟩:=P.m_byte
  have hD0:¬ D≤0:=by omega
  have HO:=Lib.hid (show Calls Tryz.prog (P.fn "ReadByte") #[P.ptr,ctxV] w (TellsV P.Is (fun ev=>.tuple #[.int .i8 g.n,ev]) k s1 S w) from P.does h hr)
  clear hr h
  go_enter Tryz.func52,Tryz.ntmps52
  go_wp2_with (fail)
  refine HO.out.mono ?_
  rintro e W1 ⟨ev,S1,rfl,he,hI,hs⟩
  have HE:=Lib.hid he
  have HI:=Lib.hid hI
  have HS:=Lib.hid hs
  clear he hI hs
  go_wp2
  go_ret
  exact ⟨_,S1,rfl,HE.out,HI.out,HS.out⟩

set_option maxRecDepth 100000 in
set_option maxHeartbeats 2000000 in
theorem skip_leaf4 (P:PR) (D:Int) (hD:1≤D) {S:List Nat} {s:P.σ} {w:World} (h:P.Is S s w) {g:RGot} {k:Nat} {s1:P.σ} (hr:P.run s .dbl=some (g,k,s1)) :
    Calls Tryz.prog 52 #[ctxV,.iface P.ty P.ptr,.int .u8 4,.int .i64 D] w (SkippedV P (k,s1) S w):=by
  obtain ⟨hm,hn,hen⟩:=P.m_dbl
  have hD0:¬ D≤0:=by omega
  have HO:=Lib.hid (show Calls Tryz.prog (P.fn "ReadDouble") #[P.ptr,ctxV] w (TellsV P.Is (fun ev=>.tuple #[.float .f64 (IntKind.u64.wrap g.n).toNat,ev]) k s1 S w) from P.does h hr)
  clear hr h
  go_enter Tryz.func52,Tryz.ntmps52
  go_wp2_with (fail)
  refine HO.out.mono ?_
  rintro e W1 ⟨ev,S1,rfl,he,hI,hs⟩
  have HE:=Lib.hid he
  have HI:=Lib.hid hI
  have HS:=Lib.hid hs
  clear he hI hs
  go_wp2
  go_ret
  exact ⟨_,S1,rfl,HE.out,HI.out,HS.out⟩

set_option maxRecDepth 100000 in
set_option maxHeartbeats 2000000 in
theorem skip_leaf6 (P:PR) (D:Int) (hD:1≤D) {S:List Nat} {s:P.σ} {w:World} (h:P.Is S s w) {g:RGot} {k:Nat} {s1:P.σ} (hr:P.run s .i16=some (g,k,s1)) :
    Calls Tryz.prog 52 #[ctxV,.iface P.ty P.ptr,.int .u8 6,.int .i64 D] w (SkippedV P (k,s1) S w):=by
  obtain ⟨hm,hn,hen⟩:=P.m_i16
  have hD0:¬ D≤0:=by omega
  have HO:=Lib.hid (show Calls Tryz.prog (P.fn "ReadI16") #[P.ptr,ctxV] w (TellsV P.Is (fun ev=>.tuple #[.int .i16 g.n,ev]) k s1 S w) from P.does h hr)
  clear hr h
  go_enter Tryz.func52,Tryz.ntmps52
  go_wp2_with (fail)
  refine HO.out.mono ?_
  rintro e W1 ⟨ev,S1,rfl,he,hI,hs⟩
  have HE:=Lib.hid he
  have HI:=Lib.hid hI
  have HS:=Lib.hid hs
  clear he hI hs
  go_wp2
  go_ret
  exact ⟨_,S1,rfl,HE.out,HI.out,HS.out⟩

set_option maxRecDepth 100000 in
set_option maxHeartbeats 2000000 in
theorem skip_leaf8 (P:PR) (D:Int) (hD:1≤D) {S:List Nat} {s:P.σ} {w:World} (h:P.Is S s w) {g:RGot} {k:Nat} {s1:P.σ} (hr:P.run s .i32=some (g,k,s1)) :
    Calls Tryz.prog 52 #[ctxV,.iface P.ty P.ptr,.int .u8 8,.int .i64 D] w (SkippedV P (k,s1) S w):=by
  obtain ⟨hm,hn,hen⟩:=P.m_i32
  have hD0:¬ D≤0:=by omega
  have HO:=Lib.hid (show Calls Tryz.prog (P.fn "ReadI32") #[P.ptr,ctxV] w (TellsV P.Is (fun ev=>.tuple #[.int .i32 g.n,ev]) k s1 S w) from P.does h hr)
  clear hr h
  go_enter Tryz.func52,Tryz.ntmps52
  go_wp2_with (fail)
  refine HO.out.mono ?_
  rintro e W1 ⟨ev,S1,rfl,he,hI,hs⟩
  have HE:=Lib.hid he
  have HI:=Lib.hid hI
  have HS:=Lib.hid hs
  clear he hI hs
  go_wp2
  go_ret
  exact ⟨_,S1,rfl,HE.out,HI.out,HS.out⟩

set_option maxRecDepth 100000 in
set_option maxHeartbeats 2000000 in
theorem skip_leaf10 (P:PR) (D:Int) (hD:1≤D) {S:List Nat} {s:P.σ} {w:World} (h:P.Is S s w) {g:RGot} {k:Nat} {s1:P.σ} (hr:P.run s .i64=some (g,k,s1)) :
    Calls Tryz.prog 52 #[ctxV,.iface P.ty P.ptr,.int .u8 10,.int .i64 D] w (SkippedV P (k,s1) S w):=by
  obtain ⟨hm,hn,hen⟩:=P.m_i64
  have hD0:¬ D≤0:=by omega
  have HO:=Lib.hid (show Calls Tryz.prog (P.fn "ReadI64") #[P.ptr,ctxV] w (TellsV P.Is (fun ev=>.tuple #[.int .i64 g.n,ev]) k s1 S w) from P.does h hr)
  clear hr h
  go_enter Tryz.func52,Tryz.ntmps52
  go_wp2_with (fail)
  refine HO.out.mono ?_
  rintro e W1 ⟨ev,S1,rfl,he,hI,hs⟩
  have HE:=Lib.hid he
  have HI:=Lib.hid hI
  have HS:=Lib.hid hs
  clear he hI hs
  go_wp2
  go_ret
  exact ⟨_,S1,rfl,HE.out,HI.out,HS.out⟩

set_option maxRecDepth 100000 in
set_option maxHeartbeats 2000000 in
theorem skip_leaf11 (P:PR) (D:Int) (hD:1≤D) {S:List Nat} {s:P.σ} {w:World} (h:P.Is S s w) {g:RGot} {k:Nat} {s1:P.σ} (hr:P.run s .str=some (g,k,s1)) :
    Calls Tryz.prog 52 #[ctxV,.iface P.ty P.ptr,.int .u8 11,.int .i64 D] w (SkippedV P (k,s1) S w):=by
  obtain ⟨hm,hn,hen⟩:=P.m_str
  have hD0:¬ D≤0:=by omega
  have HO:=Lib.hid (show Calls Tryz.prog (P.fn "ReadString") #[P.ptr,ctxV] w (TellsV P.Is (fun ev=>.tuple #[strV g.s,ev]) k s1 S w) from P.does h hr)
  clear hr h
  go_enter Tryz.func52,Tryz.ntmps52
  go_wp2_with (fail)
  refine HO.out.mono ?_
  rintro e W1 ⟨ev,S1,rfl,he,hI,hs⟩
  have HE:=Lib.hid he
  have HI:=Lib.hid hI
  have HS:=Lib.hid hs
  clear he hI hs
  go_wp2
  go_ret
  exact ⟨_,S1,rfl,HE.out,HI.out,HS.out⟩

set_option maxRecDepth 100000 in
set_option maxHeartbeats 2000000 in
theorem skip_leaf16 (P:PR) (D:Int) (hD:1≤D) {S:List Nat} {s:P.σ} {w:World} (h:P.Is S s w) {g:RGot} {k:Nat} {s1:P.σ} (hr:P.run s .uuid=some (g,k,s1)) :
    Calls Tryz.prog 52 #[ctxV,.iface P.ty P.ptr,.int .u8 16,.int .i64 D] w (SkippedV P (k,s1) S w):=by
  obtain ⟨hm,hn,hen⟩:=P.m_uuid
  have hD0:¬ D≤0:=by omega
  have HO:=Lib.hid (show Calls Tryz.prog (P.fn "ReadUUID") #[P.ptr,ctxV] w (TellsV P.Is (fun ev=>.tuple #[.agg (Lib.byteCells g.s).toArray,ev]) k s1 S w) from P.does h hr)
  clear hr h
  go_enter Tryz.func52,Tryz.ntmps52
  go_wp2_with (fail)
  refine HO.out.mono ?_
  rintro e W1 ⟨ev,S1,rfl,he,hI,hs⟩
  have HE:=Lib.hid he
  have HI:=Lib.hid hI
  have HS:=Lib.hid hs
  clear he hI hs
  go_wp2
  go_ret
  exact ⟨_,S1,rfl,HE.out,HI.out,HS.out⟩

end Go.Proofs.YtmjcnomgpikncaaGreatDoor

namespace Go.Proofs.YtmjcnomgpikncaaGreatDoor

open Go.RowKit Go.Deep



open Go.Proofs.YtmjcnomgpikncaaGreatDoorW.PrintWords

theorem skipL_succ {σ:Type} (sv:Int→σ→Option (Nat × σ)) (t:Int) (n:Nat) (s:σ):skipL sv (List.replicate (n+1) t) s=(sv t s).bind fun r=>if r.1=0 then skipL sv (List.replicate n t) r.2 else some r:=rfl

theorem SkippedV.back {P:PR} {r:Nat × P.σ} {S S2:List Nat} {w W:World} {e:Ending} {w':World} (h:SkippedV P r S2 W e w') (hs:Step S S2 w W):SkippedV P r S w e w':=by
  obtain ⟨ev,S',h1,h2,h3,h4⟩:=h
  exact ⟨ev,S',h1,h2,h3,hs.trans h4⟩

set_option maxRecDepth 100000 in
set_option maxHeartbeats 2000000 in
theorem skip_set (P:PR) (sv:Int→P.σ→Option (Nat × P.σ)) (D:Int) (hD:1≤D∧D < 9223372036854775808) (hG:SkipsV P sv (D - 1)) {S:List Nat} {s:P.σ} {w:World} (h:P.Is S s w) {r:Nat × P.σ}
 (hr0:((P.run s .setB).bind fun a=>if a.2.1=0 then (skipL sv (List.replicate a.1.size.toNat a.1.t) a.2.2).bind fun r=>if r.1=0 then (P.run r.2 .setE).map fun b=>(b.2.1,b.2.2) else some r else some (a.2.1,a.2.2))=some r) :
 Calls Tryz.prog 52 #[ctxV,.iface P.ty P.ptr,.int .u8 14,.int .i64 D] w (SkippedV P r S w):=by
 rw [Option.bind_eq_some_iff] at hr0
 obtain ⟨⟨g,k,s1⟩,hr,hr0⟩:=hr0
 dsimp only at hr0
 have HR:=Lib.hid hr0
 have HG:=Lib.hid hG
 have hfit:=P.fits hr
 clear hr0 hG
 obtain ⟨hm,hn,hen⟩:=P.m_setB
 obtain ⟨hm2,hn2,hen2⟩:=P.m_setE
 have hD0:¬ D≤0:=by omega
 have HO:=Lib.hid (show Calls Tryz.prog (P.fn "ReadSetBegin") #[P.ptr,ctxV] w (TellsV P.Is (fun ev=>.tuple #[.int .u8 g.t,.int .i64 g.size,ev]) k s1 S w) from P.does h hr)
 clear hr h
 go_enter Tryz.func52,Tryz.ntmps52
 go_wp2_with (fail)
 refine HO.out.mono ?_
 rintro e W1 ⟨ev,S1,rfl,he,hI,hs⟩
 have HI:=Lib.hid hI
 have HS:=Lib.hid hs
 have HE:=Lib.hid he
 clear hI hs
 rcases he with ⟨rfl,rfl⟩ | ⟨bb,tt,er,ms,hk1,hk2,rfl,hbb⟩
 case inr =>
  have hrr:=HR.out
  rw [if_neg (by omega)] at hrr
  injection hrr with hrr
  subst hrr
  clear hk1
  go_wp2
  go_ret
  exact ⟨_,S1,rfl,HE.out,HI.out,HS.out⟩
 case inl =>
 clear HE
 have HR:=Lib.hid ((if_pos rfl).symm.trans HR.out)
 have hgt:=hfit.1 (by decide)
 have hgs:=hfit.2.2.2.2.1 rfl
 obtain ⟨N,hN⟩:∃ N:Nat,g.size=N:=⟨g.size.toNat,by omega⟩
 have hNb:N < 9223372036854775807:=by have:=hfit.2.2.2.1;omega
 have hR0:=HR.out
 rw [hN,Int.toNat_natCast,Option.bind_eq_some_iff] at hR0
 obtain ⟨R,hR1,hR2⟩:=hR0
 have HR1:=Lib.hid hR1
 have HR2:=Lib.hid hR2
 rw [hN]
 clear hR1 hR2 HR hfit hN hgs
 go_wp2_with (fail)
 go_loopw [187] (fun i wr=>∃ (j:Nat) (S2:List Nat) (s2:P.σ),i=.int .i64 (j:Nat)∧j≤N∧Hid (skipL sv (List.replicate (N - j) g.t) s2=some R)∧Hid (P.Is S2 s2 wr)∧Hid (Step S S2 w wr)) (fun i _=>N - (intOf i).toNat)
 case atStart=>exact ⟨0,S1,s1,rfl,by omega,HR1,HI,HS⟩
 case round =>
  obtain ⟨j,S2,s2,rfl,hj,hrun,HI2,HS2⟩:=hrel
  clear HR1 HI HS
  by_cases hlt:j < N
  case pos =>
   have hlt':(j:Int) < (N:Int):=by omega
   have hq:=hrun.out
   rw [show N - j=(N - (j+1))+1 by omega,skipL_succ,Option.bind_eq_some_iff] at hq
   obtain ⟨q,hq1,hq2⟩:=hq
   have HQ2:=Lib.hid hq2
   have HGC:=Lib.hid (HG.out S2 s2 wr g.t HI2.out hgt.1 hgt.2 q hq1)
   clear hq1 hq2 hrun
   go_wp2_with (fail)
   refine HGC.out.mono ?_
   rintro e W3 ⟨ev3,S3,rfl,he3,hI3,hs3⟩
   have HI3:=Lib.hid hI3
   have HS3:=Lib.hid (HS2.out.trans hs3)
   have HE3:=Lib.hid he3
   clear hI3 hs3
   rcases he3 with ⟨h0,rfl⟩ | ⟨bb,tt,er,ms,hk1,hk2,rfl,hbb⟩
   case inl =>
    have hnx:skipL sv (List.replicate (N - (j+1)) g.t) q.2=some R:=by
     have h':=HQ2.out
     rw [if_pos h0] at h'
     exact h'
    clear HE3
    go_wp2_with (fail)
    exact ⟨⟨j+1,S3,q.2,by go_num,by omega,Lib.hid hnx,HI3,HS3⟩,by simp [intOf];omega⟩
   case inr =>
    have hne:q.1≠0:=by omega
    have h':=HQ2.out
    rw [if_neg hne] at h'
    injection h' with h'
    subst h'
    have hrr:=HR2.out
    rw [if_neg hne] at hrr
    injection hrr with hrr
    subst hrr
    clear hk1 hne HQ2 HR2 hbb
    go_wp2
    go_ret
    exact ⟨_,S3,rfl,HE3.out,HI3.out,HS3.out⟩
  case neg =>
   have e0:j=N:=by omega
   subst e0
   have hlt':¬ ((j:Int) < (j:Int)):=by omega
   have hq:=hrun.out
   rw [show j - j=0 by omega] at hq
   have hq:some ((0:Nat),s2)=some R:=hq
   injection hq with hq
   subst hq
   have hrr:=HR2.out
   rw [if_pos rfl,Option.map_eq_some_iff] at hrr
   obtain ⟨b,hb,hrr⟩:=hrr
   subst hrr
   have HO2:=Lib.hid (show Calls Tryz.prog (P.fn "ReadSetEnd") #[P.ptr,ctxV] wr (TellsV P.Is (fun ev=>ev) b.2.1 b.2.2 S2 wr) from P.does HI2.out hb)
   clear hb hrun
   go_wp2_with (fail)
   refine HO2.out.mono ?_
   rintro e W3 ⟨ev3,S3,rfl,he3,hI3,hs3⟩
   have HI3:=Lib.hid hI3
   have HS3:=Lib.hid (HS2.out.trans hs3)
   have HE3:=Lib.hid he3
   clear he3 hI3 hs3
   go_wp2
   go_ret
   exact ⟨_,S3,rfl,HE3.out,HI3.out,HS3.out⟩

set_option maxRecDepth 100000 in
set_option maxHeartbeats 2000000 in
theorem skip_lst (P:PR) (sv:Int→P.σ→Option (Nat × P.σ)) (D:Int) (hD:1≤D∧D < 9223372036854775808) (hG:SkipsV P sv (D - 1)) {S:List Nat} {s:P.σ} {w:World} (h:P.Is S s w) {r:Nat × P.σ}
 (hr0:((P.run s .lstB).bind fun a=>if a.2.1=0 then (skipL sv (List.replicate a.1.size.toNat a.1.t) a.2.2).bind fun r=>if r.1=0 then (P.run r.2 .lstE).map fun b=>(b.2.1,b.2.2) else some r else some (a.2.1,a.2.2))=some r) :
 Calls Tryz.prog 52 #[ctxV,.iface P.ty P.ptr,.int .u8 15,.int .i64 D] w (SkippedV P r S w):=by
 rw [Option.bind_eq_some_iff] at hr0
 obtain ⟨⟨g,k,s1⟩,hr,hr0⟩:=hr0
 dsimp only at hr0
 have HR:=Lib.hid hr0
 have HG:=Lib.hid hG
 have hfit:=P.fits hr
 clear hr0 hG
 obtain ⟨hm,hn,hen⟩:=P.m_lstB
 obtain ⟨hm2,hn2,hen2⟩:=P.m_lstE
 have hD0:¬ D≤0:=by omega
 have HO:=Lib.hid (show Calls Tryz.prog (P.fn "ReadListBegin") #[P.ptr,ctxV] w (TellsV P.Is (fun ev=>.tuple #[.int .u8 g.t,.int .i64 g.size,ev]) k s1 S w) from P.does h hr)
 clear hr h
 go_enter Tryz.func52,Tryz.ntmps52
 go_wp2_with (fail)
 refine HO.out.mono ?_
 rintro e W1 ⟨ev,S1,rfl,he,hI,hs⟩
 have HI:=Lib.hid hI
 have HS:=Lib.hid hs
 have HE:=Lib.hid he
 clear hI hs
 rcases he with ⟨rfl,rfl⟩ | ⟨bb,tt,er,ms,hk1,hk2,rfl,hbb⟩
 case inr =>
  have hrr:=HR.out
  rw [if_neg (by omega)] at hrr
  injection hrr with hrr
  subst hrr
  clear hk1
  go_wp2
  go_ret
  exact ⟨_,S1,rfl,HE.out,HI.out,HS.out⟩
 case inl =>
 clear HE
 have HR:=Lib.hid ((if_pos rfl).symm.trans HR.out)
 have hgt:=hfit.1 (by decide)
 have hgs:=hfit.2.2.2.2.1 rfl
 obtain ⟨N,hN⟩:∃ N:Nat,g.size=N:=⟨g.size.toNat,by omega⟩
 have hNb:N < 9223372036854775807:=by have:=hfit.2.2.2.1;omega
 have hR0:=HR.out
 rw [hN,Int.toNat_natCast,Option.bind_eq_some_iff] at hR0
 obtain ⟨R,hR1,hR2⟩:=hR0
 have HR1:=Lib.hid hR1
 have HR2:=Lib.hid hR2
 rw [hN]
 clear hR1 hR2 HR hfit hN hgs
 go_wp2_with (fail)
 go_loopw [215] (fun i wr=>∃ (j:Nat) (S2:List Nat) (s2:P.σ),i=.int .i64 (j:Nat)∧j≤N∧Hid (skipL sv (List.replicate (N - j) g.t) s2=some R)∧Hid (P.Is S2 s2 wr)∧Hid (Step S S2 w wr)) (fun i _=>N - (intOf i).toNat)
 case atStart=>exact ⟨0,S1,s1,rfl,by omega,HR1,HI,HS⟩
 case round =>
  obtain ⟨j,S2,s2,rfl,hj,hrun,HI2,HS2⟩:=hrel
  clear HR1 HI HS
  by_cases hlt:j < N
  case pos =>
   have hlt':(j:Int) < (N:Int):=by omega
   have hq:=hrun.out
   rw [show N - j=(N - (j+1))+1 by omega,skipL_succ,Option.bind_eq_some_iff] at hq
   obtain ⟨q,hq1,hq2⟩:=hq
   have HQ2:=Lib.hid hq2
   have HGC:=Lib.hid (HG.out S2 s2 wr g.t HI2.out hgt.1 hgt.2 q hq1)
   clear hq1 hq2 hrun
   go_wp2_with (fail)
   refine HGC.out.mono ?_
   rintro e W3 ⟨ev3,S3,rfl,he3,hI3,hs3⟩
   have HI3:=Lib.hid hI3
   have HS3:=Lib.hid (HS2.out.trans hs3)
   have HE3:=Lib.hid he3
   clear hI3 hs3
   rcases he3 with ⟨h0,rfl⟩ | ⟨bb,tt,er,ms,hk1,hk2,rfl,hbb⟩
   case inl =>
    have hnx:skipL sv (List.replicate (N - (j+1)) g.t) q.2=some R:=by
     have h':=HQ2.out
     rw [if_pos h0] at h'
     exact h'
    clear HE3
    go_wp2_with (fail)
    exact ⟨⟨j+1,S3,q.2,by go_num,by omega,Lib.hid hnx,HI3,HS3⟩,by simp [intOf];omega⟩
   case inr =>
    have hne:q.1≠0:=by omega
    have h':=HQ2.out
    rw [if_neg hne] at h'
    injection h' with h'
    subst h'
    have hrr:=HR2.out
    rw [if_neg hne] at hrr
    injection hrr with hrr
    subst hrr
    clear hk1 hne HQ2 HR2 hbb
    go_wp2
    go_ret
    exact ⟨_,S3,rfl,HE3.out,HI3.out,HS3.out⟩
  case neg =>
   have e0:j=N:=by omega
   subst e0
   have hlt':¬ ((j:Int) < (j:Int)):=by omega
   have hq:=hrun.out
   rw [show j - j=0 by omega] at hq
   have hq:some ((0:Nat),s2)=some R:=hq
   injection hq with hq
   subst hq
   have hrr:=HR2.out
   rw [if_pos rfl,Option.map_eq_some_iff] at hrr
   obtain ⟨b,hb,hrr⟩:=hrr
   subst hrr
   have HO2:=Lib.hid (show Calls Tryz.prog (P.fn "ReadListEnd") #[P.ptr,ctxV] wr (TellsV P.Is (fun ev=>ev) b.2.1 b.2.2 S2 wr) from P.does HI2.out hb)
   clear hb hrun
   go_wp2_with (fail)
   refine HO2.out.mono ?_
   rintro e W3 ⟨ev3,S3,rfl,he3,hI3,hs3⟩
   have HI3:=Lib.hid hI3
   have HS3:=Lib.hid (HS2.out.trans hs3)
   have HE3:=Lib.hid he3
   clear he3 hI3 hs3
   go_wp2
   go_ret
   exact ⟨_,S3,rfl,HE3.out,HI3.out,HS3.out⟩

end Go.Proofs.YtmjcnomgpikncaaGreatDoor

namespace Go.Proofs.YtmjcnomgpikncaaGreatDoor

open Go.RowKit Go.Deep



open Go.Proofs.YtmjcnomgpikncaaGreatDoorW.PrintWords

theorem skipM_succ {σ:Type} (sv:Int→σ→Option (Nat × σ)) (k t:Int) (n:Nat) (s:σ):skipL sv (pairs k t (n+1)) s=(sv k s).bind fun r=>if r.1=0 then (sv t r.2).bind (fun r=>if r.1=0 then skipL sv (pairs k t n) r.2 else some r) else some r:=rfl

set_option maxRecDepth 100000 in
set_option maxHeartbeats 2000000 in
theorem skip_map (P:PR) (sv:Int→P.σ→Option (Nat × P.σ)) (D:Int) (hD:1≤D∧D < 9223372036854775808) (hG:SkipsV P sv (D - 1)) {S:List Nat} {s:P.σ} {w:World} (h:P.Is S s w) {r:Nat × P.σ}
 (hr0:((P.run s .mapB).bind fun a=>if a.2.1=0 then (skipL sv (pairs a.1.k a.1.t a.1.size.toNat) a.2.2).bind fun r=>if r.1=0 then (P.run r.2 .mapE).map fun b=>(b.2.1,b.2.2) else some r else some (a.2.1,a.2.2))=some r) :
 Calls Tryz.prog 52 #[ctxV,.iface P.ty P.ptr,.int .u8 13,.int .i64 D] w (SkippedV P r S w):=by
 rw [Option.bind_eq_some_iff] at hr0
 obtain ⟨⟨g,k,s1⟩,hr,hr0⟩:=hr0
 dsimp only at hr0
 have HR:=Lib.hid hr0
 have HG:=Lib.hid hG
 have hfit:=P.fits hr
 clear hr0 hG
 obtain ⟨hm,hn,hen⟩:=P.m_mapB
 obtain ⟨hm2,hn2,hen2⟩:=P.m_mapE
 have hD0:¬ D≤0:=by omega
 have HO:=Lib.hid (show Calls Tryz.prog (P.fn "ReadMapBegin") #[P.ptr,ctxV] w (TellsV P.Is (fun ev=>.tuple #[.int .u8 g.k,.int .u8 g.t,.int .i64 g.size,ev]) k s1 S w) from P.does h hr)
 clear hr h
 go_enter Tryz.func52,Tryz.ntmps52
 go_wp2_with (fail)
 refine HO.out.mono ?_
 rintro e W1 ⟨ev,S1,rfl,he,hI,hs⟩
 have HI:=Lib.hid hI
 have HS:=Lib.hid hs
 have HE:=Lib.hid he
 clear hI hs
 rcases he with ⟨rfl,rfl⟩ | ⟨bb,tt,er,ms,hk1,hk2,rfl,hbb⟩
 case inr =>
  have hrr:=HR.out
  rw [if_neg (by omega)] at hrr
  injection hrr with hrr
  subst hrr
  clear hk1
  go_wp2
  go_ret
  exact ⟨_,S1,rfl,HE.out,HI.out,HS.out⟩
 case inl =>
 clear HE
 have HR:=Lib.hid ((if_pos rfl).symm.trans HR.out)
 have hgt:=hfit.1 (by decide)
 have hgk:=hfit.2.2.1
 have hgs:=hfit.2.2.2.2.1 rfl
 obtain ⟨N,hN⟩:∃ N:Nat,g.size=N:=⟨g.size.toNat,by omega⟩
 have hNb:N < 9223372036854775807:=by have:=hfit.2.2.2.1;omega
 have hR0:=HR.out
 rw [hN,Int.toNat_natCast,Option.bind_eq_some_iff] at hR0
 obtain ⟨R,hR1,hR2⟩:=hR0
 have HR1:=Lib.hid hR1
 have HR2:=Lib.hid hR2
 rw [hN]
 clear hR1 hR2 HR hfit hN hgs
 go_wp2_with (fail)
 go_loopw [150] (fun i wr=>∃ (j:Nat) (S2:List Nat) (s2:P.σ),i=.int .i64 (j:Nat)∧j≤N∧Hid (skipL sv (pairs g.k g.t (N - j)) s2=some R)∧Hid (P.Is S2 s2 wr)∧Hid (Step S S2 w wr)) (fun i _=>N - (intOf i).toNat)
 case atStart=>exact ⟨0,S1,s1,rfl,by omega,HR1,HI,HS⟩
 case round =>
  obtain ⟨j,S2,s2,rfl,hj,hrun,HI2,HS2⟩:=hrel
  clear HR1 HI HS
  by_cases hlt:j < N
  case pos =>
   have hlt':(j:Int) < (N:Int):=by omega
   have hq:=hrun.out
   rw [show N - j=(N - (j+1))+1 by omega,skipM_succ,Option.bind_eq_some_iff] at hq
   obtain ⟨q,hq1,hq2⟩:=hq
   have HQ2:=Lib.hid hq2
   have HGC:=Lib.hid (HG.out S2 s2 wr g.k HI2.out hgk.1 hgk.2 q hq1)
   clear hq1 hq2 hrun
   go_wp2_with (fail)
   refine HGC.out.mono ?_
   rintro e W3 ⟨ev3,S3,rfl,he3,hI3,hs3⟩
   have HI3:=Lib.hid hI3
   have HS3:=Lib.hid (HS2.out.trans hs3)
   have HE3:=Lib.hid he3
   clear hI3 hs3
   rcases he3 with ⟨h0,rfl⟩ | ⟨bb,tt,er,ms,hk1,hk2,rfl,hbb⟩
   case inl =>
    have hnx:=HQ2.out
    rw [if_pos h0,Option.bind_eq_some_iff] at hnx
    obtain ⟨q4,hq3,hq4⟩:=hnx
    have HQ4:=Lib.hid hq4
    have HGC2:=Lib.hid (HG.out S3 q.2 W3 g.t HI3.out hgt.1 hgt.2 q4 hq3)
    clear HE3 hq3 hq4 h0 HQ2
    go_wp2_with (fail)
    refine HGC2.out.mono ?_
    rintro e W5 ⟨ev5,S5,rfl,he5,hI5,hs5⟩
    have HI5:=Lib.hid hI5
    have HS5:=Lib.hid (HS3.out.trans hs5)
    have HE5:=Lib.hid he5
    clear hI5 hs5
    rcases he5 with ⟨h0,rfl⟩ | ⟨bb,tt,er,ms,hk1,hk2,rfl,hbb⟩
    case inl =>
     have hnx:skipL sv (pairs g.k g.t (N - (j+1))) q4.2=some R:=by
      have h':=HQ4.out
      rw [if_pos h0] at h'
      exact h'
     clear HE5
     go_wp2_with (fail)
     exact ⟨⟨j+1,S5,q4.2,by go_num,by omega,Lib.hid hnx,HI5,HS5⟩,by simp [intOf];omega⟩
    case inr =>
     have hne:q4.1≠0:=by omega
     have h':=HQ4.out
     rw [if_neg hne] at h'
     injection h' with h'
     subst h'
     have hrr:=HR2.out
     rw [if_neg hne] at hrr
     injection hrr with hrr
     subst hrr
     clear hk1 hne HQ4 HR2 hbb
     go_wp2
     go_ret
     exact ⟨_,S5,rfl,HE5.out,HI5.out,HS5.out⟩
   case inr =>
    have hne:q.1≠0:=by omega
    have h':=HQ2.out
    rw [if_neg hne] at h'
    injection h' with h'
    subst h'
    have hrr:=HR2.out
    rw [if_neg hne] at hrr
    injection hrr with hrr
    subst hrr
    clear hk1 hne HQ2 HR2 hbb
    go_wp2
    go_ret
    exact ⟨_,S3,rfl,HE3.out,HI3.out,HS3.out⟩
  case neg =>
   have e0:j=N:=by omega
   subst e0
   have hlt':¬ ((j:Int) < (j:Int)):=by omega
   have hq:=hrun.out
   rw [show j - j=0 by omega] at hq
   have hq:some ((0:Nat),s2)=some R:=hq
   injection hq with hq
   subst hq
   have hrr:=HR2.out
   rw [if_pos rfl,Option.map_eq_some_iff] at hrr
   obtain ⟨b,hb,hrr⟩:=hrr
   subst hrr
   have HO2:=Lib.hid (show Calls Tryz.prog (P.fn "ReadMapEnd") #[P.ptr,ctxV] wr (TellsV P.Is (fun ev=>ev) b.2.1 b.2.2 S2 wr) from P.does HI2.out hb)
   clear hb hrun
   go_wp2_with (fail)
   refine HO2.out.mono ?_
   rintro e W3 ⟨ev3,S3,rfl,he3,hI3,hs3⟩
   have HI3:=Lib.hid hI3
   have HS3:=Lib.hid (HS2.out.trans hs3)
   have HE3:=Lib.hid he3
   clear he3 hI3 hs3
   go_wp2
   go_ret
   exact ⟨_,S3,rfl,HE3.out,HI3.out,HS3.out⟩

set_option maxRecDepth 100000 in
set_option maxHeartbeats 2000000 in
theorem skip_struct (P:PR) (sv:Int→P.σ→Option (Nat × P.σ)) (D:Int) (hD:1≤D∧D < 9223372036854775808) (hG:SkipsV P sv (D - 1)) (f:Nat) {S:List Nat} {s:P.σ} {w:World} (h:P.Is S s w) {r:Nat × P.σ}
 (hr0:((P.run s .strB).bind fun a=>if a.2.1=0 then skipF P.run sv f a.2.2 else some (a.2.1,a.2.2))=some r) :
 Calls Tryz.prog 52 #[ctxV,.iface P.ty P.ptr,.int .u8 12,.int .i64 D] w (SkippedV P r S w):=by
 rw [Option.bind_eq_some_iff] at hr0
 obtain ⟨⟨g,k,s1⟩,hr,hr0⟩:=hr0
 dsimp only at hr0
 have HR:=Lib.hid hr0
 have HG:=Lib.hid hG
 clear hr0 hG
 obtain ⟨hm,hn,hen⟩:=P.m_strB
 obtain ⟨hm2,hn2,hen2⟩:=P.m_fldB
 obtain ⟨hm3,hn3,hen3⟩:=P.m_fldE
 obtain ⟨hm4,hn4,hen4⟩:=P.m_strE
 have hD0:¬ D≤0:=by omega
 have HO:=Lib.hid (show Calls Tryz.prog (P.fn "ReadStructBegin") #[P.ptr,ctxV] w (TellsV P.Is (fun ev=>.tuple #[.string ByteArray.empty,ev]) k s1 S w) from P.does h hr)
 clear hr h
 go_enter Tryz.func52,Tryz.ntmps52
 go_wp2_with (fail)
 refine HO.out.mono ?_
 rintro e W1 ⟨ev,S1,rfl,he,hI,hs⟩
 have HI:=Lib.hid hI
 have HS:=Lib.hid hs
 have HE:=Lib.hid he
 clear hI hs
 rcases he with ⟨rfl,rfl⟩ | ⟨bb,tt,er,ms,hk1,hk2,rfl,hbb⟩
 case inr =>
  have hrr:=HR.out
  rw [if_neg (by omega)] at hrr
  injection hrr with hrr
  subst hrr
  clear hk1
  go_wp2
  go_ret
  exact ⟨_,S1,rfl,HE.out,HI.out,HS.out⟩
 case inl =>
 clear HE
 have HR:=Lib.hid ((if_pos rfl).symm.trans HR.out)
 go_wp2_with (fail)
 go_loopg [117] f (fun gk u117 wr=>∃ (S2:List Nat) (s2:P.σ),Hid (skipF P.run sv gk s2=some r)∧Hid (P.Is S2 s2 wr)∧Hid (Step S S2 w wr))
 case atStart=>exact ⟨S1,s1,HR,HI,HS⟩
 case round =>
  clear HR HI HS
  obtain ⟨S2,s2,hrun,HI2,HS2⟩:=hrel
  obtain ⟨gn,rfl⟩:∃ gn,gk=gn+1:=by
   cases gk with
   | zero=>have h':=hrun.out;simp [skipF] at h'
   | succ gn=>exact ⟨gn,rfl⟩
  have hq:=hrun.out
  rw [skipF,Option.bind_eq_some_iff] at hq
  obtain ⟨⟨a,ka,sa⟩,ha,hq⟩:=hq
  dsimp only at hq
  have HQ:=Lib.hid hq
  have hfit:=P.fits ha
  have hat:=hfit.1 (by decide)
  have HO5:=Lib.hid (show Calls Tryz.prog (P.fn "ReadFieldBegin") #[P.ptr,ctxV] wr (TellsV P.Is (fun ev=>.tuple #[.string ByteArray.empty,.int .u8 a.t,.int .i16 a.id,ev]) ka sa S2 wr) from P.does HI2.out ha)
  clear hq hrun ha hfit
  go_wp2_with (fail)
  refine HO5.out.mono ?_
  rintro e W3 ⟨ev3,S3,rfl,he3,hI3,hs3⟩
  have HI3:=Lib.hid hI3
  have HS3:=Lib.hid (HS2.out.trans hs3)
  have HE3:=Lib.hid he3
  clear hI3 hs3
  rcases he3 with ⟨rfl,rfl⟩ | ⟨bb,tt,er,ms,hk1,hk2,rfl,hbb⟩
  case inr =>
   have hrr:=HQ.out
   rw [if_neg (by omega)] at hrr
   injection hrr with hrr
   subst hrr
   clear hk1 hbb HQ
   go_wp2
   go_ret
   exact ⟨_,S3,rfl,HE3.out,HI3.out,HS3.out⟩
  case inl =>
  clear HE3
  have HQ:=Lib.hid ((if_pos rfl).symm.trans HQ.out)
  by_cases hstop:a.t=0
  case pos =>
   have hrr:=HQ.out
   rw [if_pos hstop,Option.map_eq_some_iff] at hrr
   obtain ⟨b,hb1,hrr⟩:=hrr
   subst hrr
   have HO9:=Lib.hid (show Calls Tryz.prog (P.fn "ReadStructEnd") #[P.ptr,ctxV] W3 (TellsV P.Is (fun ev=>ev) b.2.1 b.2.2 S3 W3) from P.does HI3.out hb1)
   clear hb1 HQ
   go_wp2_with (fail)
   refine HO9.out.mono ?_
   rintro e W5 ⟨ev5,S5,rfl,he5,hI5,hs5⟩
   have HI5:=Lib.hid hI5
   have HS5:=Lib.hid (HS3.out.trans hs5)
   have HE5:=Lib.hid he5
   clear he5 hI5 hs5
   go_wp2
   go_ret
   exact ⟨_,S5,rfl,HE5.out,HI5.out,HS5.out⟩
  case neg =>
  have hq:=HQ.out
  rw [if_neg hstop,Option.bind_eq_some_iff] at hq
  obtain ⟨q,hq1,hq2⟩:=hq
  have HQ2:=Lib.hid hq2
  have HGC:=Lib.hid (HG.out S3 sa W3 a.t HI3.out hat.1 hat.2 q hq1)
  clear hq1 hq2 HQ
  go_wp2_with (fail)
  refine HGC.out.mono ?_
  rintro e W5 ⟨ev5,S5,rfl,he5,hI5,hs5⟩
  have HI5:=Lib.hid hI5
  have HS5:=Lib.hid (HS3.out.trans hs5)
  have HE5:=Lib.hid he5
  clear hI5 hs5
  rcases he5 with ⟨h0,rfl⟩ | ⟨bb,tt,er,ms,hk1,hk2,rfl,hbb⟩
  case inr =>
   have hne:q.1≠0:=by omega
   have hrr:=HQ2.out
   rw [if_neg hne] at hrr
   injection hrr with hrr
   subst hrr
   clear hk1 hne HQ2 hbb
   go_wp2
   go_ret
   exact ⟨_,S5,rfl,HE5.out,HI5.out,HS5.out⟩
  case inl =>
  clear HE5
  have hq:=HQ2.out
  rw [if_pos h0,Option.bind_eq_some_iff] at hq
  obtain ⟨b,hb1,hq⟩:=hq
  have HQ3:=Lib.hid hq
  have HO9:=Lib.hid (show Calls Tryz.prog (P.fn "ReadFieldEnd") #[P.ptr,ctxV] W5 (TellsV P.Is (fun ev=>ev) b.2.1 b.2.2 S5 W5) from P.does HI5.out hb1)
  clear hb1 hq HQ2 h0
  go_wp2_with (fail)
  refine HO9.out.mono ?_
  rintro e W7 ⟨ev7,S7,rfl,he7,hI7,hs7⟩
  have HI7:=Lib.hid hI7
  have HS7:=Lib.hid (HS5.out.trans hs7)
  clear he7 hI7 hs7
  go_wp2_with (fail)
  go_roundg gn
  case measure=>omega
  case rel=>exact ⟨S7,b.2.2,HQ3,HI7,HS7⟩

end Go.Proofs.YtmjcnomgpikncaaGreatDoor

namespace Go.Proofs.YtmjcnomgpikncaaGreatDoor

open Go.RowKit Go.Deep



open Go.Proofs.YtmjcnomgpikncaaGreatDoorW.PrintWords

theorem skip_any (P:PR):∀ (f:Nat) (D:Int),-9223372036854775807≤D→D < 9223372036854775808→SkipsV P (skipV P.run f D) D
  | 0,D,h0,h1=>fun S s w t hI ht0 ht1 r hr=>by simp [skipV] at hr
  | f+1,D,h0,h1=>fun S s w t hI ht0 ht1 r hr=>by
    rw [skipV] at hr
    by_cases hD:D≤0
    · rw [if_pos hD] at hr
      injection hr with hr
      subst hr
      exact skip_deep P D t hD hI
    rw [if_neg hD] at hr
    have hD1:1≤D∧D < 9223372036854775808:=by omega
    have ih:=skip_any P f (D - 1) (by omega) (by omega)
    cases ho:ropOf t with
    | some o =>
      rw [ho] at hr
      simp only [Option.map_eq_some_iff] at hr
      obtain ⟨⟨g,k,s1⟩,ha,rfl⟩:=hr
      unfold ropOf at ho
      by_cases h2:t=2
      · subst h2;rw [if_pos rfl] at ho;injection ho with ho;subst ho;exact skip_leaf2 P D hD1.1 hI ha
      rw [if_neg h2] at ho
      by_cases h3:t=3
      · subst h3;rw [if_pos rfl] at ho;injection ho with ho;subst ho;exact skip_leaf3 P D hD1.1 hI ha
      rw [if_neg h3] at ho
      by_cases h4:t=4
      · subst h4;rw [if_pos rfl] at ho;injection ho with ho;subst ho;exact skip_leaf4 P D hD1.1 hI ha
      rw [if_neg h4] at ho
      by_cases h6:t=6
      · subst h6;rw [if_pos rfl] at ho;injection ho with ho;subst ho;exact skip_leaf6 P D hD1.1 hI ha
      rw [if_neg h6] at ho
      by_cases h8:t=8
      · subst h8;rw [if_pos rfl] at ho;injection ho with ho;subst ho;exact skip_leaf8 P D hD1.1 hI ha
      rw [if_neg h8] at ho
      by_cases h10:t=10
      · subst h10;rw [if_pos rfl] at ho;injection ho with ho;subst ho;exact skip_leaf10 P D hD1.1 hI ha
      rw [if_neg h10] at ho
      by_cases h11:t=11
      · subst h11;rw [if_pos rfl] at ho;injection ho with ho;subst ho;exact skip_leaf11 P D hD1.1 hI ha
      rw [if_neg h11] at ho
      by_cases h16:t=16
      · subst h16;rw [if_pos rfl] at ho;injection ho with ho;subst ho;exact skip_leaf16 P D hD1.1 hI ha
      rw [if_neg h16] at ho
      cases ho
    | none =>
      rw [ho] at hr
      dsimp only at hr
      by_cases h12:t=12
      · subst h12
        rw [if_pos rfl] at hr
        exact skip_struct P _ D hD1 ih f hI hr
      rw [if_neg h12] at hr
      by_cases h13:t=13
      · subst h13
        rw [if_pos rfl] at hr
        exact skip_map P _ D hD1 ih hI hr
      rw [if_neg h13] at hr
      by_cases h14:t=14
      · subst h14
        rw [if_pos rfl] at hr
        exact skip_set P _ D hD1 ih hI hr
      rw [if_neg h14] at hr
      by_cases h15:t=15
      · subst h15
        rw [if_pos rfl] at hr
        exact skip_lst P _ D hD1 ih hI hr
      rw [if_neg h15] at hr
      injection hr with hr
      subst hr
      refine skip_no P D t hD1.1 ⟨?_,?_,?_,?_,?_,?_,?_,h12,h13,h14,h15,?_⟩ hI <;> (rintro rfl;simp [ropOf] at ho)

end Go.Proofs.YtmjcnomgpikncaaGreatDoor

namespace Go.Proofs.YtmjcnomgpikncaaGreatDoor

open Go.RowKit Go.Deep



open Go.Proofs.YtmjcnomgpikncaaGreatDoorW.PrintWords

set_option maxRecDepth 100000 in
set_option maxHeartbeats 2000000 in
theorem Skip_C (proto:Int) (plain rb sb:Bool) (ms ct fr:Int) (hf:(cfgOf plain rb sb ms ct fr).fit) (t D:Int)
    (B:Option Addr) (cB:Nat) (xs:List Int) (w:World) (hE:EofAt w) (hB:(Kd.int .u8).C w B xs.length xs) (h8:∀ x∈xs,0≤x∧x < 256) (hn1:1≤xs.length) (hlim:xs.length≤140737488355328)
    {k:Nat} {st':CSt} {rest:List UInt8}
    (hg:∀ (m:Nat) (R:RP proto (cfgOf plain rb sb ms ct fr) m) (S:List Nat) (W:World),R.P.Is S (R.st (CR0,toB xs)) W→Calls Tryz.prog 52 #[ctxV,.iface R.P.ty R.P.ptr,.int .u8 (t % 256),.int .i64 D] W (SkippedV R.P (k,R.st (st',rest)) S W)) :
    Calls Tryz.prog 19 #[confV proto plain rb sb ms ct fr,.int .i64 t,.slice B xs.length cB,.int .i64 D] w fun e w'=>e=.returned (.tuple #[.int .i64 (k:Nat),.int .i64 rest.length])∧Below w.heap.size w w':=by
  obtain ⟨ad,rfl,hal,hsrc⟩:=C_cells hB h8 hn1
  have HPR:=Lib.hid (fun m b g W=>rprotocol_C proto plain rb sb ms ct fr hf m b g (toB xs) W)
  have HG:=Lib.hid hg
  have HE:=Lib.hid hE
  have HX:=Lib.hid ctx_any
  obtain ⟨W0,hW0⟩:∃ W0,W0=w.alloc (.cells #[.int .i64 proto,.bool plain,.bool rb,.bool sb,.int .i32 ms,.int .i32 ct,.int .i32 fr] 23):=⟨_,rfl⟩
  have hB0:Below w.heap.size w W0:=by rw [hW0];exact (Below.refl _ w).alloc (Nat.le_refl _) _
  have hc0:W0.heap[w.heap.size]?=some (.cells #[.int .i64 proto,.bool plain,.bool rb,.bool sb,.int .i32 ms,.int .i32 ct,.int .i32 fr] 23 (0,0)):=by rw [hW0];exact heap_alloc_new w _
  have hs0:W0.heap.size=w.heap.size+1:=by rw [hW0];simp
  have HH:=Lib.hid (holding_any xs.length cB (Lib.byteCells (toB xs)) ad W0 (by rw [Lib.byteCells_length];simp [toB]) (by omega) (fun j v hj=>by
    rw [hB0.cell (by rw [Lib.block_add];exact hal)]
    exact hsrc j v hj) (Lib.byteCells_one _) hn1 hlim)
  have HB0:=Lib.hid hB0
  have HPS:=Lib.hid (fun W (hB:Below W0.heap.size W0 W)=>(Box7.at_ hc0).of hB (lt_heap hc0))
  clear hg hE hB h8 hsrc hB0 hc0
  go_enter Tryz.func19,Tryz.ntmps19
  go_wp2_with (fail)
  rw [← hW0]
  clear hW0
  refine HH.out.mono ?_
  rintro e W1 ⟨m,bb,gg,rfl,hm,hbb,hgg,hM,hB1⟩
  have HM:=Lib.hid hM
  have HB1:=Lib.hid hB1
  have hs1:=hB1.size
  clear hM hB1
  obtain ⟨p0,p1,p2,p3,p4,p5,p6⟩:=HPS.out W1 HB1.out
  go_wp2_with (fail)
  go_region_held3 (fun W'=>W'.cell? ⟨w.heap.size,0,none⟩=some (.int .i64 proto)∧W'.cell? ⟨w.heap.size,1,none⟩=some (.bool plain)∧W'.cell? ⟨w.heap.size,2,none⟩=some (.bool rb)∧W'.cell? ⟨w.heap.size,3,none⟩=some (.bool sb)∧W'.cell? ⟨w.heap.size,4,none⟩=some (.int .i32 ms)∧W'.cell? ⟨w.heap.size,5,none⟩=some (.int .i32 ct)∧W'.cell? ⟨w.heap.size,6,none⟩=some (.int .i32 fr)) (first | exact ⟨p0,p1,p2,p3,p4,p5,p6⟩ | (simp [go_sem, *];done) | exact HPS.out _ HB3.out | exact HPS.out _ HB2.out | exact HPS.out _ HB2.out.drew)
    (first
      | (go_at_call 53;refine (HX.out _).mono ?_;rintro e w' ⟨rfl,rfl⟩)
      | (go_at_call 50;refine (typ_of _ _).mono ?_;rintro e w' ⟨rfl,rfl⟩)
      | (go_at_call 45;refine (HPR.out m bb gg _ (show Mem m bb gg 0 _ W1.drew from HM.out)).mono ?_;rintro e W2 ⟨R,S2,rfl,hI2,hS2,hB2⟩;have HB2:=Lib.hid (HB1.out.drew.trans (hB2.mono hs1));have HOWN:=Lib.hid (show ∀ j,j∈S2→w.heap.size+1≤j from fun j hj=>by (rcases hS2 j hj with h | h | h | h;omega;omega;omega;(have h':W1.heap.size≤j:=h;omega)));have HI2:=Lib.hid hI2;clear hB2 hI2 hS2)
      | (go_at_call 52;refine (HG.out m R S2 _ HI2.out).mono ?_;rintro e W3 ⟨ev,S3,rfl,hE3,hI3,hs3⟩;dsimp only at hE3 hI3;have HB3:=Lib.hid (HB2.out.trans (hs3.below W0.heap.size HB2.out.size (fun j hj=>by have:=HOWN.out j hj;omega)));have HI3:=Lib.hid hI3;have HE3:=Lib.hid hE3;clear hE3 hI3 hs3))
  obtain ⟨b3,g3,off3,hM3⟩:=R.mem HI3.out
  have cm3:=hM3.cell
  have HM3:=Lib.hid hM3
  have HK3:=Lib.hid (fun W (hB:Below W3.heap.size W3 W)=>(kind_any (w:=W) (HE3.out.step_at (Step.ofBelow (S:=[]) hB) (fun b hb=>by simp at hb)) (HE.out.below (HB0.out.trans ((HB3.out.trans (hB.mono HB3.out.size)).mono HB0.out.size)) HE.out.lt)).mono fun e w' h=>show e=.returned (.int .i64 (k:Nat))∧Below W3.heap.size W3 w' from ⟨h.1,hB.trans (h.2.mono hB.size)⟩)
  have HMB:=Lib.hid (fun W (hB:Below W3.heap.size W3 W)=>Mem.step HM3.out (Step.ofBelow (S:=[]) hB) (by simp) (by simp) (by simp))
  have HL3:=Lib.hid (fun W (hB:Below W3.heap.size W3 W)=>(buf_left b3 g3 off3 _ W (HMB.out W hB).2.2.2).mono fun e w' h=>(by
    obtain ⟨h1,n,rfl⟩:=h
    refine ⟨?_,below_drewN hB n⟩
    rw [h1,Lib.byteCells_length]:e=Ending.returned (.int .i64 rest.length)∧Below W3.heap.size W3 w'))
  clear hM3
  go_wp2_with (fail)
  go_region_held3 (fun W'=>W'.cell? ⟨m,0,none⟩=some (.pointer (some ⟨b3,0,none⟩))) (first | exact cm3 | exact (HMB.out _ HB4.out).cell | exact (HMB.out _ HB5.out).cell | (simp [go_sem, *];done))
    (first
      | (go_at_call 47;refine (HK3.out _ (Below.drew (Below.refl _ _))).mono ?_;rintro e W4 ⟨rfl,hB4⟩;have HB4:=Lib.hid hB4;clear hB4)
      | (go_at_call 51;refine (HL3.out _ HB4.out).mono ?_;rintro e W5 ⟨rfl,hB5⟩;have HB5:=Lib.hid hB5;clear hB5))
  go_wp2_with (fail)
  go_ret2
  exact ⟨rfl,HB0.out.trans ((HB3.out.trans (HB5.out.mono HB3.out.size)).mono HB0.out.size)⟩

end Go.Proofs.YtmjcnomgpikncaaGreatDoor

namespace Go.Proofs.YtmjcnomgpikncaaGreatDoor

open Go.RowKit Go.Deep



open Go.Proofs.YtmjcnomgpikncaaGreatDoorW.PrintWords

section

variable (proto:Int) (hp:proto=0∨proto=1) (plain rb sb:Bool) (ms ct fr:Int) (hf:(cfgOf plain rb sb ms ct fr).fit) (hc:65536≤(cfgOf plain rb sb ms ct fr).container) (hm:1048576≤(cfgOf plain rb sb ms ct fr).message)

  (V:Val) (hV:rightV V=true) (hw:wfV V) (ht:tot V≤65536) (B:Option Addr) (cB:Nat) (xs:List Int) (r:List UInt8) (w:World) (hE:EofAt w) (hB:(Kd.int .u8).C w B xs.length xs) (h8:∀ x∈xs,0≤x∧x < 256) (hlim:xs.length≤140737488355328) (hx:toB xs=gen (codec proto) V++r)

include hp hf hc hm hV hw ht hE hB h8 hlim hx in
theorem Skip_right (D:Int) (hD2:-9223372036854775808≤D∧D < 9223372036854775808) :
    Calls Tryz.prog 19 #[confV proto plain rb sb ms ct fr,.int .i64 V.f0,.slice B xs.length cB,.int .i64 D] w fun e w'=>∃ n:Int,e=.returned (.tuple #[.int .i64 (if D < (deepV V:Int) then 16 else 0),.int .i64 n])∧(¬ D < (deepV V:Int)→n=r.length)∧Below w.heap.size w w':=by
  obtain ⟨hs1,hs2⟩:=skip_rd proto hp (cfgOf plain rb sb ms ct fr) hc hm V hV hw ht (tot V+1) D (by omega) r
  rw [← hx] at hs1 hs2
  have hT:=isT_lt (right_type hV)
  have key:∀ (k:Nat) (st':CSt) (rest:List UInt8),skipV (rdC proto (cfgOf plain rb sb ms ct fr)) (tot V+1) D V.f0 (CR0,toB xs)=some (k,(st',rest)) →
      Calls Tryz.prog 19 #[confV proto plain rb sb ms ct fr,.int .i64 V.f0,.slice B xs.length cB,.int .i64 D] w fun e w'=>e=.returned (.tuple #[.int .i64 (k:Nat),.int .i64 rest.length])∧Below w.heap.size w w':=fun k st' rest hst=>by
    refine Skip_C proto plain rb sb ms ct fr hf V.f0 D B cB xs w hE hB h8 (xs_pos hV hx) hlim (k:=k) (st':=st') (rest:=rest) ?_
    intro m R S W hI
    have h1:=skipV_sim R.st R.run_eq (tot V+1) D V.f0 (CR0,toB xs)
    rw [hst] at h1
    rw [show V.f0 % 256=V.f0 by omega]
    by_cases hD0:D≤0
    · rw [skipV,if_pos hD0] at h1
      have h2:=skip_deep R.P D V.f0 hD0 hI
      injection h1 with h1
      rw [h1] at h2
      exact h2
    · exact skip_any R.P (tot V+1) D (by omega) hD2.2 S _ W V.f0 hI hT.1 hT.2 _ h1
  by_cases hD:D < (deepV V:Int)
  · obtain ⟨⟨st',rest⟩,hst⟩:=hs2 hD
    rw [if_pos hD]
    exact (key 16 st' rest hst).mono fun e w' h=>⟨_,h.1,fun hn=>absurd hD hn,h.2⟩
  · obtain ⟨st',hst⟩:=hs1 (by omega)
    rw [if_neg hD]
    exact (key 0 st' r hst).mono fun e w' h=>⟨_,h.1,fun _=>rfl,h.2⟩

end

end Go.Proofs.YtmjcnomgpikncaaGreatDoor
