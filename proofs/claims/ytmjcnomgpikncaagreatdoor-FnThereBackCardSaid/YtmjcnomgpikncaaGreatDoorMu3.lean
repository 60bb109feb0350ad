/- The compact protocol: containers are read. No condition. -/
import Derived.Test.YtmjcnomgpikncaaGreatDoorMu1
import Derived.Test.YtmjcnomgpikncaaGreatDoorMd3
set_option linter.unusedVariables false
set_option linter.unusedSimpArgs false
namespace Go.Proofs.YtmjcnomgpikncaaGreatDoor

open Go.RowKit Go.Deep



def cType (k:Int):Option Int :=
  if k=0 then some 0 else if k=1 then some 2 else if k=2 then some 2 else if k=3 then some 3 else if k=4 then some 6 else if k=5 then some 8 else if k=6 then some 10 else if k=7 then some 4
  else if k=8 then some 11 else if k=9 then some 15 else if k=10 then some 14 else if k=11 then some 13 else if k=12 then some 12 else if k=13 then some 16 else none

theorem cType_low {k t:Int} (h:cType k=some t):k=0∨k=1∨k=2∨k=3∨k=4∨k=5∨k=6∨k=7∨k=8∨k=9∨k=10∨k=11∨k=12∨k=13:=by
  by_cases h0:k=0
  · omega
  by_cases h1:k=1
  · omega
  by_cases h2:k=2
  · omega
  by_cases h3:k=3
  · omega
  by_cases h4:k=4
  · omega
  by_cases h5:k=5
  · omega
  by_cases h6:k=6
  · omega
  by_cases h7:k=7
  · omega
  by_cases h8:k=8
  · omega
  by_cases h9:k=9
  · omega
  by_cases h10:k=10
  · omega
  by_cases h11:k=11
  · omega
  by_cases h12:k=12
  · omega
  by_cases h13:k=13
  · omega
  exfalso
  unfold cType at h
  rw [if_neg h0,if_neg h1,if_neg h2,if_neg h3,if_neg h4,if_neg h5,if_neg h6,if_neg h7,if_neg h8,if_neg h9,if_neg h10,if_neg h11,if_neg h12,if_neg h13] at h
  cases h

theorem cType_range {k t:Int} (h:cType k=some t):0≤t∧t≤16:=by
  rcases cType_low h with rfl | rfl | rfl | rfl | rfl | rfl | rfl | rfl | rfl | rfl | rfl | rfl | rfl | rfl
  all_goals (injection h with h;omega)

theorem and15 (x:Int) (h0:0≤x) (h1:x < 256):bits .and .u8 x 15=x % 16:=bits_mask .u8 8 (by decide) wraps_u8 4 (by decide) x h0 h1

theorem and240 (x:Int) (h0:0≤x) (h1:x < 256):bits .and .u8 x 240=x / 16 * 16:=by
  have h:∀ n:Fin 256,bits .and .u8 (n.val:Int) 240=(n.val:Int) / 16 * 16:=by decide +kernel
  obtain ⟨n,rfl⟩:=Int.eq_ofNat_of_zero_le h0
  exact h ⟨n,Int.ofNat_lt.1 h1⟩

set_option maxRecDepth 100000 in
set_option maxHeartbeats 2000000 in
theorem ctt_any (p:Nat) (x k t:Int) (h0:0≤x) (h1:x < 256) (hk:x % 16=k) (ht:cType k=some t) (w:World) :
    Calls Tryz.prog 182 #[.pointer (some ⟨p,0,none⟩),.int .u8 x] w fun e w'=>e=.returned (.tuple #[.int .u8 t,.nilIface])∧w=w':=by
  have hb:=and15 x h0 h1
  rw [hk] at hb
  rcases cType_low ht with rfl | rfl | rfl | rfl | rfl | rfl | rfl | rfl | rfl | rfl | rfl | rfl | rfl | rfl
  all_goals (
    injection ht with ht
    subst ht
    clear hk
    go_enter Tryz.func182,Tryz.ntmps182
    go_wp2
    (first | go_ret | go_ret2)
    exact ⟨rfl,rfl⟩)

theorem CR.le {p m:Nat} {og cf:Value} {c:Cfg} {S:List Nat} {st:CSt} {l:List UInt8} {w:World} (h:CR p m og cf c S (st,l) w):l.length < 9223372036854775808:=by
  obtain ⟨off,b,g,r,K,lf,nm,sc,rfl,hp,hm,hC,hk,hd,hr,hK⟩:=h
  have:=hm.2.2.2.le
  rwa [Lib.byteCells_length] at this

theorem cr_left {p m:Nat} {og cf:Value} {c:Cfg} {S:List Nat} {st:CSt} {l:List UInt8} {w:World} (h:CR p m og cf c S (st,l) w):Calls Tryz.prog 315 #[.pointer (some ⟨m,0,none⟩)] w fun e w'=>e=.returned (.int .u64 l.length)∧∃ n,w'=w.drewN n:=by
  obtain ⟨off,b,g,r,K,lf,nm,sc,rfl,hp,hm,hC,hk,hd,hr,hK⟩:=h
  have:=mem_left hm
  rwa [Lib.byteCells_length] at this

theorem cr_check {p m:Nat} {og cf:Value} {c:Cfg} {S:List Nat} {st:CSt} {l:List UInt8} {w:World} (h:CR p m og cf c S (st,l) w) (hf:c.fit) (n mn:Int) (hn:-9223372036854775808≤n∧n < 9223372036854775808) (hm:1≤mn∧mn≤64) :
    ∀ W,Step [] [] w W→Calls Tryz.prog 188 #[.int .i64 n,.int .i32 mn,.int .u64 (l.length:Nat),cf] W (Checks (contK c n mn l.length) W):=fun W hW=>by
  obtain ⟨K,hC⟩:=(h.step hW (by simp)).cfg
  exact check_container hC hf n mn l.length hn hm h.le

def cSize (x:UInt8) (r:List UInt8):Option (Int × List UInt8) :=
  if x.toNat / 16=15 then (v64 r).map (fun a=>(wrap32 a.1,a.2)) else some (((x.toNat / 16:Nat):Int),r)

set_option maxRecDepth 100000 in
set_option maxHeartbeats 2000000 in
theorem cr_lstB_small {p m:Nat} {og cf:Value} {c:Cfg} {S:List Nat} {st:CSt} {x:UInt8} {l r:List UInt8} {n t:Int} {w:World} (h:CR p m og cf c S (st,x :: l) w) (hf:c.fit) (hq:¬ x.toNat / 16=15) (hn:n=((x.toNat / 16:Nat):Int)) (hr:r=l) (ht:cType ((x.toNat:Int) % 16)=some t) :
    Calls Tryz.prog 139 #[.pointer (some ⟨p,0,none⟩),ctxV] w (Told (CR p m og cf c) .lstB S w ({ t:=t,size:=n },contK c n (minC t) r.length,(st,r))):=by
  have HB:=Lib.hid (cr_direct h)
  have hx:=x.toNat_lt
  obtain ⟨y,hy⟩:∃ y:Int,(x.toNat:Int)=y:=⟨_,rfl⟩
  have hy0:0≤y∧y < 256:=by omega
  rw [hy] at HB ht
  obtain ⟨k0,hk0⟩:∃ k,y % 16=k:=⟨_,rfl⟩
  have HT:=Lib.hid (fun w=>ctt_any p y k0 t hy0.1 hy0.2 hk0 (by rw [← hk0];exact ht) w)
  have htr:=cType_range ht
  have HMn:=Lib.hid (fun p w=>minCmp_any p t (by omega) (by omega) w)
  have hmb:=minC_range t
  obtain ⟨mn,hmn⟩:∃ mn,minC t=mn:=⟨_,rfl⟩
  rw [hmn] at HMn hmb ⊢
  have hand:=and15 (y / 16) (by omega) (by omega)
  obtain ⟨k,hk⟩:∃ k,contK c n mn r.length=k:=⟨_,rfl⟩
  rw [hk]
  have hmeth:=mem_RemainingBytes
  have hnil:=mem_nil_RemainingBytes
  have hq15:¬ y / 16=15:=by omega
  have hnq:y / 16 % 16=n:=by omega
  rw [hnq] at hand
  have hnr:0≤n∧n < 15:=by omega
  have hn15:¬ n=15:=by omega
  have hnw:IntKind.i64.wrap n=n:=by rw [IntKind.wrap_i64];omega
  have hnw2:wrap64 n=n:=by unfold wrap64;omega
  subst hr
  clear h hy hmn hx hq hn hk0 ht
  go_enter Tryz.func139,Tryz.ntmps139
  go_wp2_with (fail)
  refine HB.out.mono ?_
  rintro e W2 ⟨S2,rfl,hI,hs⟩
  have HS:=Lib.hid hs
  clear HB hs
  have HI:=Lib.hid hI
  have HCK:=Lib.hid (cr_check hI hf n mn (by omega) (by omega))
  rw [hk] at HCK
  have HL:=Lib.hid (fun W (hW:Step [] [] W2 W)=>cr_left (hI.step hW (by simp)))
  obtain ⟨c0,c2⟩:=hI.cell0
  clear hI
  go_wp2_with (first | (go_at_call 182;refine (HT.out _).mono ?_;rintro e w' ⟨rfl,rfl⟩) | (go_at_call 187;refine (HMn.out _ _).mono ?_;rintro e w' ⟨rfl,rfl⟩))
  go_region_held3 (fun W'=>W'.cell? ⟨p,0,none⟩=some (memV m)∧W'.cell? ⟨p,2,none⟩=some cf) (first | exact ⟨c0,c2⟩ | exact ⟨d0,d2⟩ | (simp [go_sem, *];done))
    (first
      | (go_at_call 315;refine (HL.out _ ?_).mono ?_;(repeat (first | (with_reducible exact Step.refl _ _) | (with_reducible refine Step.drew ?_) | (with_reducible refine Step.drewN ?_ _)));rintro e w' ⟨rfl,nn,rfl⟩)
      | (go_at_call 188;refine (HCK.out _ ?_).mono ?_;(repeat (first | (with_reducible exact Step.refl _ _) | (with_reducible refine Step.drew ?_) | (with_reducible refine Step.drewN ?_ _)));rintro e W3 ⟨ev,rfl,he,hb⟩;have hs3:=Step.trans (a:=W2) (S:=[]) (T:=[]) (U:=[]) (by (repeat (first | (with_reducible exact Step.refl _ _) | (with_reducible refine Step.drew ?_) | (with_reducible refine Step.drewN ?_ _)))) (Step.ofBelow (S:=[]) hb);have hI3:=HI.out.step hs3 (by simp);obtain ⟨d0,d2⟩:=hI3.cell0;have HI3:=Lib.hid hI3;have HS3:=Lib.hid hs3;have HE:=Lib.hid he;clear hI3 hs3 hb he))
  have HTR:=Lib.hid (HS.out.trans (HS3.out.more (S1:=S2) (T1:=S2) (by simp) (fun k hk=>.inr (.inl hk))))
  by_cases hk0:k=0
  · have he0:=HE.out
    rw [hk0] at he0
    obtain rfl:=he0.zero
    clear he0 HE
    go_wp2
    (try simp only [Exit.inBlock,Exit.then])
    refine bodyPost_ret (results_tmp3 rfl _ _ _) rfl ?_
    exact ⟨.nilIface,S2,rfl,by rw [hk0];exact IsErr.nil _,HI3.out,HTR.out⟩
  · rcases HE.out with ⟨h0,_⟩ | he
    · exact absurd h0 hk0
    have HE2:=Lib.hid he
    obtain ⟨bb,t',er,ms,hk1,hk2,rfl,hbb⟩:=he
    clear hk1 hk2 hbb HE
    go_wp2
    (try simp only [Exit.inBlock,Exit.then])
    refine bodyPost_ret (results_tmp3 rfl _ _ _) rfl ?_
    exact ⟨_,S2,rfl,.inr HE2.out,HI3.out,HTR.out⟩

set_option maxRecDepth 100000 in
set_option maxHeartbeats 2000000 in
theorem cr_lstB_big {p m:Nat} {og cf:Value} {c:Cfg} {S:List Nat} {st:CSt} {x:UInt8} {l r:List UInt8} {n t:Int} {w:World} (h:CR p m og cf c S (st,x :: l) w) (hf:c.fit) (hq:x.toNat / 16=15) (a:Int) (hu:v64 l=some (a,r)) (hn:n=wrap32 a) (ht:cType ((x.toNat:Int) % 16)=some t) :
    Calls Tryz.prog 139 #[.pointer (some ⟨p,0,none⟩),ctxV] w (Told (CR p m og cf c) .lstB S w ({ t:=t,size:=n },contK c n (minC t) r.length,(st,r))):=by
  have HB:=Lib.hid (cr_direct h)
  have hx:=x.toNat_lt
  obtain ⟨y,hy⟩:∃ y:Int,(x.toNat:Int)=y:=⟨_,rfl⟩
  have hy0:0≤y∧y < 256:=by omega
  rw [hy] at HB ht
  obtain ⟨k0,hk0⟩:∃ k,y % 16=k:=⟨_,rfl⟩
  have HT:=Lib.hid (fun w=>ctt_any p y k0 t hy0.1 hy0.2 hk0 (by rw [← hk0];exact ht) w)
  have htr:=cType_range ht
  have HMn:=Lib.hid (fun p w=>minCmp_any p t (by omega) (by omega) w)
  have hmb:=minC_range t
  obtain ⟨mn,hmn⟩:∃ mn,minC t=mn:=⟨_,rfl⟩
  rw [hmn] at HMn hmb ⊢
  have hand:=and15 (y / 16) (by omega) (by omega)
  obtain ⟨k,hk⟩:∃ k,contK c n mn r.length=k:=⟨_,rfl⟩
  rw [hk]
  have hmeth:=mem_RemainingBytes
  have hnil:=mem_nil_RemainingBytes
  have hq15:y / 16 % 16=15:=by omega
  rw [hq15] at hand
  have hnr:-2147483648≤n∧n < 2147483648:=by rw [hn];unfold wrap32;omega
  have hn':=hn.symm
  clear hn
  have hnw:IntKind.i64.wrap n=n:=by rw [IntKind.wrap_i64];omega
  have hnw2:wrap64 n=n:=by unfold wrap64;omega
  have HCV:=Lib.hid (fun S (W:World) (hW:CR p m og cf c S (st,l) W)=>cr_v32 hW hu)
  rw [hn'] at HCV
  clear h hy hmn hx hq hk0 ht hn' hu
  go_enter Tryz.func139,Tryz.ntmps139
  go_wp2_with (fail)
  refine HB.out.mono ?_
  rintro e W1 ⟨S1,rfl,hI1,hs1⟩
  have H2:=Lib.hid (HCV.out _ _ hI1)
  clear hI1 HB
  go_wp2_with (fail)
  refine H2.out.mono ?_
  rintro e W2 ⟨S2,rfl,hI,hs2⟩
  have HS:=Lib.hid (hs1.trans hs2)
  clear H2 hs1 hs2
  have HI:=Lib.hid hI
  have HCK:=Lib.hid (cr_check hI hf n mn (by omega) (by omega))
  rw [hk] at HCK
  have HL:=Lib.hid (fun W (hW:Step [] [] W2 W)=>cr_left (hI.step hW (by simp)))
  obtain ⟨c0,c2⟩:=hI.cell0
  clear hI
  go_wp2_with (first | (go_at_call 182;refine (HT.out _).mono ?_;rintro e w' ⟨rfl,rfl⟩) | (go_at_call 187;refine (HMn.out _ _).mono ?_;rintro e w' ⟨rfl,rfl⟩))
  go_region_held3 (fun W'=>W'.cell? ⟨p,0,none⟩=some (memV m)∧W'.cell? ⟨p,2,none⟩=some cf) (first | exact ⟨c0,c2⟩ | exact ⟨d0,d2⟩ | (simp [go_sem, *];done))
    (first
      | (go_at_call 315;refine (HL.out _ ?_).mono ?_;(repeat (first | (with_reducible exact Step.refl _ _) | (with_reducible refine Step.drew ?_) | (with_reducible refine Step.drewN ?_ _)));rintro e w' ⟨rfl,nn,rfl⟩)
      | (go_at_call 188;refine (HCK.out _ ?_).mono ?_;(repeat (first | (with_reducible exact Step.refl _ _) | (with_reducible refine Step.drew ?_) | (with_reducible refine Step.drewN ?_ _)));rintro e W3 ⟨ev,rfl,he,hb⟩;have hs3:=Step.trans (a:=W2) (S:=[]) (T:=[]) (U:=[]) (by (repeat (first | (with_reducible exact Step.refl _ _) | (with_reducible refine Step.drew ?_) | (with_reducible refine Step.drewN ?_ _)))) (Step.ofBelow (S:=[]) hb);have hI3:=HI.out.step hs3 (by simp);obtain ⟨d0,d2⟩:=hI3.cell0;have HI3:=Lib.hid hI3;have HS3:=Lib.hid hs3;have HE:=Lib.hid he;clear hI3 hs3 hb he))
  have HTR:=Lib.hid (HS.out.trans (HS3.out.more (S1:=S2) (T1:=S2) (by simp) (fun k hk=>.inr (.inl hk))))
  by_cases hk0:k=0
  · have he0:=HE.out
    rw [hk0] at he0
    obtain rfl:=he0.zero
    clear he0 HE
    go_wp2
    (try simp only [Exit.inBlock,Exit.then])
    refine bodyPost_ret (results_tmp3 rfl _ _ _) rfl ?_
    exact ⟨.nilIface,S2,rfl,by rw [hk0];exact IsErr.nil _,HI3.out,HTR.out⟩
  · rcases HE.out with ⟨h0,_⟩ | he
    · exact absurd h0 hk0
    have HE2:=Lib.hid he
    obtain ⟨bb,t',er,ms,hk1,hk2,rfl,hbb⟩:=he
    clear hk1 hk2 hbb HE
    go_wp2
    (try simp only [Exit.inBlock,Exit.then])
    refine bodyPost_ret (results_tmp3 rfl _ _ _) rfl ?_
    exact ⟨_,S2,rfl,.inr HE2.out,HI3.out,HTR.out⟩

theorem cr_lstB {p m:Nat} {og cf:Value} {c:Cfg} {S:List Nat} {st:CSt} {x:UInt8} {l r:List UInt8} {n t:Int} {w:World} (h:CR p m og cf c S (st,x :: l) w) (hf:c.fit) (hs:cSize x l=some (n,r)) (ht:cType ((x.toNat:Int) % 16)=some t) :
    Calls Tryz.prog 139 #[.pointer (some ⟨p,0,none⟩),ctxV] w (Told (CR p m og cf c) .lstB S w ({ t:=t,size:=n },contK c n (minC t) r.length,(st,r))):=by
  unfold cSize at hs
  split at hs
  · next hq =>
    cases hv:v64 l with
    | none=>rw [hv] at hs;cases hs
    | some a =>
      rw [hv] at hs
      injection hs with hs
      injection hs with h1 h2
      subst h2
      exact cr_lstB_big h hf hq a.1 hv h1.symm ht
  · next hq =>
    injection hs with hs
    injection hs with h1 h2
    exact cr_lstB_small h hf hq h1.symm h2.symm ht

set_option maxRecDepth 100000 in
set_option maxHeartbeats 2000000 in
theorem cr_setB {p m:Nat} {og cf:Value} {c:Cfg} {S:List Nat} {st:CSt} {x:UInt8} {l r:List UInt8} {n t:Int} {w:World} (h:CR p m og cf c S (st,x :: l) w) (hf:c.fit) (hs:cSize x l=some (n,r)) (ht:cType ((x.toNat:Int) % 16)=some t) :
    Calls Tryz.prog 145 #[.pointer (some ⟨p,0,none⟩),ctxV] w (Told (CR p m og cf c) .setB S w ({ t:=t,size:=n },contK c n (minC t) r.length,(st,r))):=by
  have HL:=Lib.hid (cr_lstB h hf hs ht)
  obtain ⟨k,hk⟩:∃ k,contK c n (minC t) r.length=k:=⟨_,rfl⟩
  rw [hk] at HL ⊢
  clear h hs ht hk
  go_enter Tryz.func145,Tryz.ntmps145
  go_wp2_with (fail)
  refine HL.out.mono ?_
  rintro e W1 ⟨ev,S1,rfl,he,hI,hs⟩
  have HE:=Lib.hid he
  have HI:=Lib.hid hI
  have HS:=Lib.hid hs
  clear he hI hs
  dsimp only [ROp.tup]
  go_wp2
  (try simp only [Exit.inBlock,Exit.then])
  refine bodyPost_ret (results_tmp3 rfl _ _ _) rfl ?_
  exact ⟨_,_,rfl,HE.out,HI.out,HS.out⟩

set_option maxRecDepth 100000 in
set_option maxHeartbeats 2000000 in
theorem cr_mapB_some {p m:Nat} {og cf:Value} {c:Cfg} {S:List Nat} {st:CSt} {l r:List UInt8} {a:Int} {w:World} (h:CR p m og cf c S (st,l) w) (hf:c.fit) {y:UInt8} {n kt vt:Int} (hu:v64 l=some (a,y :: r)) (hn:wrap32 a=n) (hn0:¬ n=0) (hkt:cType ((y.toNat:Int) / 16)=some kt) (hvt:cType ((y.toNat:Int) % 16)=some vt) :
    Calls Tryz.prog 141 #[.pointer (some ⟨p,0,none⟩),ctxV] w (Told (CR p m og cf c) .mapB S w ({ k:=kt,t:=vt,size:=n },contK c n (minC kt+minC vt) r.length,(st,r))):=by
  have HB:=Lib.hid (cr_v32 h hu)
  rw [hn] at HB
  have hnr:-2147483648≤n∧n < 2147483648:=by rw [← hn];unfold wrap32;omega
  have hnw:IntKind.i64.wrap n=n:=by rw [IntKind.wrap_i64];omega
  have hnw2:wrap64 n=n:=by unfold wrap64;omega
  clear h hu hn
  have HM:=Lib.hid minCmp_any
  have hmb1:=minC_range kt
  have hmb2:=minC_range vt
  obtain ⟨mn1,hmn1⟩:∃ mn,minC kt=mn:=⟨_,rfl⟩
  obtain ⟨mn2,hmn2⟩:∃ mn,minC vt=mn:=⟨_,rfl⟩
  rw [hmn1,hmn2]
  rw [hmn1] at hmb1
  rw [hmn2] at hmb2
  obtain ⟨mn,hmn⟩:∃ mn,mn1+mn2=mn:=⟨_,rfl⟩
  rw [hmn]
  have hmb:1≤mn∧mn≤64:=by omega
  have hw1:wrap32 (mn1+mn2)=mn:=by unfold wrap32;omega
  have hw2:IntKind.i32.wrap (mn1+mn2)=mn:=by rw [IntKind.wrap_i32];omega
  obtain ⟨k,hk⟩:∃ k,contK c n mn r.length=k:=⟨_,rfl⟩
  rw [hk]
  have hmeth:=mem_RemainingBytes
  have hnil:=mem_nil_RemainingBytes
  have hx:=y.toNat_lt
  obtain ⟨z,hz⟩:∃ z:Int,(y.toNat:Int)=z:=⟨_,rfl⟩
  have hz0:0≤z∧z < 256:=by omega
  rw [hz] at hkt hvt
  have hkr:=cType_range hkt
  have hvr:=cType_range hvt
  have HT1:=Lib.hid (fun w=>ctt_any p (z / 16) (z / 16) kt (by omega) (by omega) (by omega) hkt w)
  have HT2:=Lib.hid (fun w=>ctt_any p (z % 16) (z % 16) vt (by omega) (by omega) (by omega) hvt w)
  have HM1:=Lib.hid (fun p w=>minCmp_any p kt (by omega) (by omega) w)
  have HM2:=Lib.hid (fun p w=>minCmp_any p vt (by omega) (by omega) w)
  rw [hmn1] at HM1
  rw [hmn2] at HM2
  have hand:=and15 z hz0.1 hz0.2
  obtain ⟨q1,hq1⟩:∃ q,z / 16=q:=⟨_,rfl⟩
  obtain ⟨q2,hq2⟩:∃ q,z % 16=q:=⟨_,rfl⟩
  rw [hq2] at hand HT2
  rw [hq1] at HT1
  have hn0':(n == 0)=false:=by simpa using hn0
  clear HM hmn1 hmn2 hmn hkt hvt hq2
  go_enter Tryz.func141,Tryz.ntmps141
  go_wp2_with (fail)
  refine HB.out.mono ?_
  rintro e W1 ⟨S1,rfl,hI1,hs1⟩
  have H2:=Lib.hid (cr_direct hI1)
  rw [hz] at H2
  clear hI1 HB
  go_wp2_with (fail)
  refine H2.out.mono ?_
  rintro e W2 ⟨S2,rfl,hI,hs2⟩
  have HS:=Lib.hid (hs1.trans hs2)
  clear H2 hs1 hs2 hz
  have HI:=Lib.hid hI
  have HCK:=Lib.hid (cr_check hI hf n mn (by omega) (by omega))
  rw [hk] at HCK
  have HL:=Lib.hid (fun W (hW:Step [] [] W2 W)=>cr_left (hI.step hW (by simp)))
  obtain ⟨c0,c2⟩:=hI.cell0
  clear hI
  go_wp2_with (first | (go_at_call 182;go_at_call_of 182 (Value.int .u8 q1);refine (HT1.out _).mono ?_;rintro e w' ⟨rfl,rfl⟩) | (go_at_call 182;refine (HT2.out _).mono ?_;rintro e w' ⟨rfl,rfl⟩) | (go_at_call 187;go_at_call_of 187 (Value.int .u8 kt);refine (HM1.out _ _).mono ?_;rintro e w' ⟨rfl,rfl⟩) | (go_at_call 187;refine (HM2.out _ _).mono ?_;rintro e w' ⟨rfl,rfl⟩))
  go_region_held3 (fun W'=>W'.cell? ⟨p,0,none⟩=some (memV m)∧W'.cell? ⟨p,2,none⟩=some cf) (first | exact ⟨c0,c2⟩ | exact ⟨d0,d2⟩ | (simp [go_sem, *];done))
    (first
      | (go_at_call 315;refine (HL.out _ ?_).mono ?_;(repeat (first | (with_reducible exact Step.refl _ _) | (with_reducible refine Step.drew ?_) | (with_reducible refine Step.drewN ?_ _)));rintro e w' ⟨rfl,nn,rfl⟩)
      | (go_at_call 188;refine (HCK.out _ ?_).mono ?_;(repeat (first | (with_reducible exact Step.refl _ _) | (with_reducible refine Step.drew ?_) | (with_reducible refine Step.drewN ?_ _)));rintro e W3 ⟨ev,rfl,he,hb⟩;have hs3:=Step.trans (a:=W2) (S:=[]) (T:=[]) (U:=[]) (by (repeat (first | (with_reducible exact Step.refl _ _) | (with_reducible refine Step.drew ?_) | (with_reducible refine Step.drewN ?_ _)))) (Step.ofBelow (S:=[]) hb);have hI3:=HI.out.step hs3 (by simp);obtain ⟨d0,d2⟩:=hI3.cell0;have HI3:=Lib.hid hI3;have HS3:=Lib.hid hs3;have HE:=Lib.hid he;clear hI3 hs3 hb he))
  have HTR:=Lib.hid (HS.out.trans (HS3.out.more (S1:=S2) (T1:=S2) (by simp) (fun k hk=>.inr (.inl hk))))
  by_cases hk0:k=0
  · have he0:=HE.out
    rw [hk0] at he0
    obtain rfl:=he0.zero
    clear he0 HE
    go_wp2
    (try simp only [Exit.inBlock,Exit.then])
    refine bodyPost_ret (results_tmp4 rfl _ _ _) rfl ?_
    exact ⟨.nilIface,S2,rfl,by rw [hk0];exact IsErr.nil _,HI3.out,HTR.out⟩
  · rcases HE.out with ⟨h0,_⟩ | he
    · exact absurd h0 hk0
    have HE2:=Lib.hid he
    obtain ⟨bb,t',er,ms,hk1,hk2,rfl,hbb⟩:=he
    clear hk1 hk2 hbb HE
    go_wp2
    (try simp only [Exit.inBlock,Exit.then])
    refine bodyPost_ret (results_tmp4 rfl _ _ _) rfl ?_
    exact ⟨_,S2,rfl,.inr HE2.out,HI3.out,HTR.out⟩

end Go.Proofs.YtmjcnomgpikncaaGreatDoor

namespace Go.Proofs.YtmjcnomgpikncaaGreatDoor

open Go.RowKit Go.Deep



set_option maxRecDepth 100000 in
set_option maxHeartbeats 2000000 in
theorem cr_mapB_none {p m:Nat} {og cf:Value} {c:Cfg} {S:List Nat} {st:CSt} {l r:List UInt8} {a:Int} {w:World} (h:CR p m og cf c S (st,l) w) (hf:c.fit) (hu:v64 l=some (a,r)) (hn:wrap32 a=0) :
    Calls Tryz.prog 141 #[.pointer (some ⟨p,0,none⟩),ctxV] w (Told (CR p m og cf c) .mapB S w ({},contK c 0 (minC 0+minC 0) r.length,(st,r))):=by
  have HB:=Lib.hid (cr_v32 h hu)
  rw [hn] at HB
  clear h hu hn
  have e0:minC 0=1:=by decide
  rw [e0]
  have e1:(1:Int)+1=2:=rfl
  rw [e1]
  have HM:=Lib.hid (fun p w=>minCmp_any p 0 (by omega) (by omega) w)
  rw [e0] at HM
  have HT:=Lib.hid (fun w=>ctt_any p 0 0 0 (by omega) (by omega) (by omega) rfl w)
  obtain ⟨k,hk⟩:∃ k,contK c 0 2 r.length=k:=⟨_,rfl⟩
  rw [hk]
  have hmeth:=mem_RemainingBytes
  have hnil:=mem_nil_RemainingBytes
  go_enter Tryz.func141,Tryz.ntmps141
  go_wp2_with (fail)
  refine HB.out.mono ?_
  rintro e W2 ⟨S2,rfl,hI,hs⟩
  have HS:=Lib.hid hs
  clear HB hs
  have HI:=Lib.hid hI
  have HCK:=Lib.hid (cr_check hI hf 0 2 (by omega) (by omega))
  rw [hk] at HCK
  have HL:=Lib.hid (fun W (hW:Step [] [] W2 W)=>cr_left (hI.step hW (by simp)))
  obtain ⟨c0,c2⟩:=hI.cell0
  clear hI
  go_wp2_with (first | (go_at_call 182;refine (HT.out _).mono ?_;rintro e w' ⟨rfl,rfl⟩) | (go_at_call 187;refine (HM.out _ _).mono ?_;rintro e w' ⟨rfl,rfl⟩))
  go_region_held3 (fun W'=>W'.cell? ⟨p,0,none⟩=some (memV m)∧W'.cell? ⟨p,2,none⟩=some cf) (first | exact ⟨c0,c2⟩ | exact ⟨d0,d2⟩ | (simp [go_sem, *];done))
    (first
      | (go_at_call 315;refine (HL.out _ ?_).mono ?_;(repeat (first | (with_reducible exact Step.refl _ _) | (with_reducible refine Step.drew ?_) | (with_reducible refine Step.drewN ?_ _)));rintro e w' ⟨rfl,nn,rfl⟩)
      | (go_at_call 188;refine (HCK.out _ ?_).mono ?_;(repeat (first | (with_reducible exact Step.refl _ _) | (with_reducible refine Step.drew ?_) | (with_reducible refine Step.drewN ?_ _)));rintro e W3 ⟨ev,rfl,he,hb⟩;have hs3:=Step.trans (a:=W2) (S:=[]) (T:=[]) (U:=[]) (by (repeat (first | (with_reducible exact Step.refl _ _) | (with_reducible refine Step.drew ?_) | (with_reducible refine Step.drewN ?_ _)))) (Step.ofBelow (S:=[]) hb);have hI3:=HI.out.step hs3 (by simp);obtain ⟨d0,d2⟩:=hI3.cell0;have HI3:=Lib.hid hI3;have HS3:=Lib.hid hs3;have HE:=Lib.hid he;clear hI3 hs3 hb he))
  have HTR:=Lib.hid (HS.out.trans (HS3.out.more (S1:=S2) (T1:=S2) (by simp) (fun k hk=>.inr (.inl hk))))
  by_cases hk0:k=0
  · have he0:=HE.out
    rw [hk0] at he0
    obtain rfl:=he0.zero
    clear he0 HE
    go_wp2
    (try simp only [Exit.inBlock,Exit.then])
    refine bodyPost_ret (results_tmp4 rfl _ _ _) rfl ?_
    exact ⟨.nilIface,S2,rfl,by rw [hk0];exact IsErr.nil _,HI3.out,HTR.out⟩
  · rcases HE.out with ⟨h0,_⟩ | he
    · exact absurd h0 hk0
    have HE2:=Lib.hid he
    obtain ⟨bb,t',er,ms,hk1,hk2,rfl,hbb⟩:=he
    clear hk1 hk2 hbb HE
    go_wp2
    (try simp only [Exit.inBlock,Exit.then])
    refine bodyPost_ret (results_tmp4 rfl _ _ _) rfl ?_
    exact ⟨_,S2,rfl,.inr HE2.out,HI3.out,HTR.out⟩

end Go.Proofs.YtmjcnomgpikncaaGreatDoor
