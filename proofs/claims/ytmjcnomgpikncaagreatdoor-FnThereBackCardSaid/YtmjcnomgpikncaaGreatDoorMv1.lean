/- Protocols that read. No condition. -/
import Derived.Test.YtmjcnomgpikncaaGreatDoorMu1
import Derived.Test.YtmjcnomgpikncaaGreatDoorMt3
import Derived.Test.YtmjcnomgpikncaaGreatDoorMu4
import Derived.Test.YtmjcnomgpikncaaGreatDoorMu3
import Derived.Lib.EndianMore
set_option linter.unusedVariables false
set_option linter.unusedSimpArgs false
namespace Go.Proofs.YtmjcnomgpikncaaGreatDoor

open Go.RowKit Go.Deep



set_option maxRecDepth 100000 in
set_option maxHeartbeats 2000000 in
theorem cr_bin_bad {p m:Nat} {og cf:Value} {c:Cfg} {S:List Nat} {st:CSt} {l:List UInt8} {w:World} (h:CR p m og cf c S (st,l) w) {n:Int} {r:List UInt8} (hu:v64 l=some (n,r)) (hk:sizeK c (wrap32 n)≠0) :
    Calls Tryz.prog 130 #[.pointer (some ⟨p,0,none⟩),ctxV] w (ToldB (CR p m og cf c) S w ({},sizeK c (wrap32 n),(st,r))):=by
  have H2:=Lib.hid (cr_v32 h hu)
  obtain ⟨n,hn⟩:∃ k,wrap32 n=k:=⟨_,rfl⟩
  rw [hn] at H2 hk ⊢
  obtain ⟨k,hkk⟩:∃ k,sizeK c n=k:=⟨_,rfl⟩
  rw [hkk] at hk ⊢
  clear h hu hn
  go_enter Tryz.func130,Tryz.ntmps130
  go_wp2_with (fail)
  refine H2.out.mono ?_
  rintro e W2 ⟨S2,rfl,hI,hs⟩
  obtain ⟨c0,c2⟩:=hI.cell0
  obtain ⟨K,hC⟩:=hI.cfg
  have HCK:=Lib.hid (check_size hC n)
  rw [hkk] at HCK
  have HI:=Lib.hid hI
  clear hI hC H2
  go_wp2_with (fail)
  refine HCK.out.mono ?_
  rintro e W3 ⟨ev,rfl,he,hb⟩
  rcases he with ⟨h0,_⟩ | he
  · exact absurd h0 hk
  have HE:=Lib.hid he
  obtain ⟨bb,t,er,ms,hk1,hk2,rfl,hbb⟩:=he
  clear hk1 hk2 hbb hk hkk
  go_wp2
  go_ret2
  exact ⟨_,0,_,_,rfl,⟨0,.inl ⟨rfl,rfl⟩⟩,.inr HE.out,HI.out.step (Step.ofBelow (S:=[]) hb) (by simp),hs.trans (Step.ofBelow hb)⟩

set_option maxRecDepth 100000 in
set_option maxHeartbeats 2000000 in
theorem cr_bin_ok {p m:Nat} {og cf:Value} {c:Cfg} {S:List Nat} {st:CSt} {l:List UInt8} {w:World} (h:CR p m og cf c S (st,l) w) {n0:Int} {r0:List UInt8} (hu:v64 l=some (n0,r0)) (n:Nat) (hn:wrap32 n0=n) (hk:sizeK c n=0) (hnl:n≤r0.length) :
    Calls Tryz.prog 130 #[.pointer (some ⟨p,0,none⟩),ctxV] w (ToldB (CR p m og cf c) S w ({ s:=r0.take n },0,(st,r0.drop n))):=by
  have H2:=Lib.hid (cr_v32 h hu)
  have hnr:n < 2147483648:=by
    have:wrap32 n0 < 2147483648:=by unfold wrap32;omega
    omega
  rw [hn] at H2
  clear h hu hn
  go_enter Tryz.func130,Tryz.ntmps130
  go_wp2_with (fail)
  refine H2.out.mono ?_
  rintro e W2 ⟨S2,rfl,hI,hs⟩
  obtain ⟨c0,c2⟩:=hI.cell0
  obtain ⟨K,hC⟩:=hI.cfg
  have HCK:=Lib.hid (check_size hC n)
  rw [hk] at HCK
  have HI:=Lib.hid hI
  clear hI hC H2
  go_wp2_with (fail)
  refine HCK.out.mono ?_
  rintro e W3 ⟨ev,rfl,he,hb⟩
  obtain rfl:=he.zero
  have HI3:=Lib.hid (HI.out.step (Step.ofBelow (S:=[]) hb) (by simp))
  have HS3:=Lib.hid (hs.trans (Step.ofBelow hb))
  clear hs hb he c0 c2 HCK HI
  by_cases h0:n=0
  · subst h0
    go_wp2
    go_ret2
    exact ⟨_,W3.heap.size,_,_,rfl,⟨0,.inr ⟨0,rfl,by simp [Lib.byteCells],by unfold maxLen;omega,by simp,fun j x hj=>by simp [Lib.byteCells] at hj⟩⟩,IsErr.nil _,HI3.out.step ((Step.refl [] W3).alloc _) (by simp),HS3.out.trans ((Step.refl _ W3).alloc _)⟩
  have hq0:¬ (n:Int)=0:=by omega
  obtain ⟨off,b,g,r,K3,lf,nm,sc,rfl,hp,hm,hC,hkk,hd,hr,hK⟩:=HI3.out
  have c0:W3.cell? ⟨p,0,none⟩=some (memV m):=by rw [hp.cells];rfl
  have HR:=Lib.hid (safe_read m b g off n (Lib.byteCells r0) W3 hm (by omega) (by rw [Lib.byteCells_length];exact hnl) (Lib.byteCells_one _) (by omega))
  have HP:=Lib.hid hp
  have HC:=Lib.hid hC
  have HKK:=Lib.hid hkk
  clear hp hm hC hkk
  go_wp2_with (first | (go_at_call 82;refine HR.out.mono ?_;rintro e W4 ⟨v,dd,rfl,hIB,hM,hs4,hdd⟩))
  have HV:=Lib.hid (show IsB (Lib.byteCells (r0.take n)) v dd W4 from by
    rw [← byteCells_take];exact hIB)
  have HM:=Lib.hid (show Mem m b g (off+n) (Lib.byteCells (r0.drop n)) W4 from by
    rw [← byteCells_drop];exact hM)
  clear hIB hM HR
  go_wp2_with (go_at_call 178;go_in)
  all_goals go_wp2
  all_goals go_ret2
  all_goals (
    have hT:=CR.took HC.out HKK.out hd hr hK (HP.out.step hs4 (by simp [hd.2.1])) HM.out (hs4.more (by simp) (fun k hk=>.inr (.inl hk)))
    exact ⟨_,dd,_,_,rfl,HV.out,IsErr.nil _,hT.1,HS3.out.trans hT.2⟩)

theorem cRdStr_doesB {p m:Nat} {og cf:Value} {c:Cfg} {S:List Nat} {st:CSt} {l:List UInt8} {w:World} (h:CR p m og cf c S (st,l) w) {n:Int} {r:List UInt8} (hu:v64 l=some (n,r)) (x:List UInt8 × List UInt8) (hk:sizeK c (wrap32 n)=0) (hx:takeN (wrap32 n).toNat r=some x) :
    Calls Tryz.prog 130 #[.pointer (some ⟨p,0,none⟩),ctxV] w (ToldB (CR p m og cf c) S w ({ s:=x.1 },0,(st,x.2))):=by
  unfold takeN at hx
  split at hx
  · next h4 =>
    injection hx with hx
    subst hx
    have hn:0≤wrap32 n:=by
      unfold sizeK at hk
      split at hk
      · cases hk
      · omega
    exact cr_bin_ok h hu (wrap32 n).toNat (by omega) (by rw [show (((wrap32 n).toNat:Nat):Int)=wrap32 n by omega];exact hk) h4
  · cases hx

end Go.Proofs.YtmjcnomgpikncaaGreatDoor

namespace Go.Proofs.YtmjcnomgpikncaaGreatDoor

open Go.RowKit Go.Deep



set_option maxRecDepth 100000 in
set_option maxHeartbeats 2000000 in
theorem safe_zero (m b g off:Nat) (bs:List Value) (w:World) (h:Mem m b g off bs w) :
    Calls Tryz.prog 82 #[.int .i32 0,memV m] w fun e w'=>∃ v d,e=.returned (.tuple #[v,.nilIface])∧IsB [] v d w'∧Below w.heap.size w w':=by
  obtain ⟨M,hM,hmk⟩:=make_bytes .i32 .i32 0 0 (by omega) (by omega)
  have hmk2:∀ W:World,(Instr.makeSlice 24 (.int .i32 0) (.int .i32 0)).run Tryz.prog W=.ok (.slice (some ⟨W.heap.size,0,none⟩) 0 0) (W.alloc (.cells M 5)):=hmk
  have hmeth:=mem_Read
  have hnil:=mem_nil_Read
  clear hmk
  go_enter Tryz.func82,Tryz.ntmps82
  go_wp2_with (first | (go_at_call 91;go_in) | (go_at_call 94;go_in))
  refine wp_loop_rounds 1 ?_
  rw [rounds_succ]
  go_wp2_with (first | (go_at_call 91;go_in) | (go_at_call 94;go_in) | (go_at_call 178;go_in))
  go_ret2
  exact ⟨_,w.heap.size,rfl,⟨0,.inr ⟨0,rfl,by simp,by unfold maxLen;omega,by simp,fun j x hj=>by simp at hj⟩⟩,(Below.refl _ w).alloc (Nat.le_refl _) _⟩

set_option maxRecDepth 100000 in
set_option maxHeartbeats 2000000 in
theorem br_bin_bad {p m:Nat} {og cf:Value} {c:Cfg} {S:List Nat} {b0 b1 b2 b3:UInt8} {l:List UInt8} {w:World} (h:BR p m og cf c S (b0 :: b1 :: b2 :: b3 :: l) w) (hk:sizeK c (wrap32 (Lib.beNat [b0,b1,b2,b3]))≠0) :
    Calls Tryz.prog 205 #[.pointer (some ⟨p,0,none⟩),ctxV] w (ToldB (BR p m og cf c) S w ({},sizeK c (wrap32 (Lib.beNat [b0,b1,b2,b3])),l)):=by
  have H2:=Lib.hid (br_i32 h)
  obtain ⟨n,hn⟩:∃ n,wrap32 (Lib.beNat [b0,b1,b2,b3])=n:=⟨_,rfl⟩
  rw [hn] at H2 hk ⊢
  obtain ⟨k,hkk⟩:∃ k,sizeK c n=k:=⟨_,rfl⟩
  rw [hkk] at hk ⊢
  clear h
  go_enter Tryz.func205,Tryz.ntmps205
  go_wp2_with (fail)
  refine H2.out.mono ?_
  rintro e W2 ⟨S2,rfl,hI,hs⟩
  obtain ⟨c0,c2⟩:=hI.cell0
  obtain ⟨K,hC⟩:=hI.cfg
  have HCK:=Lib.hid (check_size hC n)
  rw [hkk] at HCK
  have HI:=Lib.hid hI
  clear hI hC H2
  go_wp2_with (fail)
  refine HCK.out.mono ?_
  rintro e W3 ⟨ev,rfl,he,hb⟩
  rcases he with ⟨h0,_⟩ | he
  · exact absurd h0 hk
  have HE:=Lib.hid he
  obtain ⟨bb,t,er,ms,hk1,hk2,rfl,hbb⟩:=he
  clear hk1 hk2 hbb hk hkk
  go_wp2
  go_ret2
  exact ⟨_,0,_,_,rfl,⟨0,.inl ⟨rfl,rfl⟩⟩,.inr HE.out,HI.out.step (Step.ofBelow (S:=[]) hb) (by simp),hs.trans (Step.ofBelow hb)⟩

set_option maxRecDepth 100000 in
set_option maxHeartbeats 2000000 in
theorem br_bin_ok {p m:Nat} {og cf:Value} {c:Cfg} {S:List Nat} {b0 b1 b2 b3:UInt8} {l:List UInt8} {w:World} (h:BR p m og cf c S (b0 :: b1 :: b2 :: b3 :: l) w) (n:Nat) (hn:wrap32 (Lib.beNat [b0,b1,b2,b3])=n) (hk:sizeK c n=0) (hnl:n≤l.length) :
    Calls Tryz.prog 205 #[.pointer (some ⟨p,0,none⟩),ctxV] w (ToldB (BR p m og cf c) S w ({ s:=l.take n },0,l.drop n)):=by
  have H2:=Lib.hid (br_i32 h)
  have hnr:n < 2147483648:=by
    have:wrap32 (Lib.beNat [b0,b1,b2,b3]) < 2147483648:=by unfold wrap32;omega
    omega
  rw [hn] at H2
  clear h
  go_enter Tryz.func205,Tryz.ntmps205
  go_wp2_with (fail)
  refine H2.out.mono ?_
  rintro e W2 ⟨S2,rfl,hI,hs⟩
  obtain ⟨c0,c2⟩:=hI.cell0
  obtain ⟨K,hC⟩:=hI.cfg
  have HCK:=Lib.hid (check_size hC n)
  rw [hk] at HCK
  have HI:=Lib.hid hI
  clear hI hC H2
  go_wp2_with (fail)
  refine HCK.out.mono ?_
  rintro e W3 ⟨ev,rfl,he,hb⟩
  obtain rfl:=he.zero
  have HI3:=Lib.hid (HI.out.step (Step.ofBelow (S:=[]) hb) (by simp))
  have HS3:=Lib.hid (hs.trans (Step.ofBelow hb))
  clear hs hb he c0 c2 HCK HI
  obtain ⟨b,g,off,sc,K3,rfl,hp,hm,hC,hd,hK⟩:=HI3.out
  have c0:W3.cell? ⟨p,0,none⟩=some (memV m):=by rw [hp.cells];rfl
  by_cases h0:n=0
  · subst h0
    have HR:=Lib.hid (safe_zero m b g off (Lib.byteCells l) W3 hm)
    go_wp2_with (go_at_call 82;refine HR.out.mono ?_;rintro e W4 ⟨v,dd,rfl,hIB,hB4⟩)
    go_wp2_with (go_at_call 178;go_in)
    all_goals go_wp2
    all_goals go_ret2
    all_goals exact ⟨_,dd,_,_,rfl,hIB,IsErr.nil _,HI3.out.step (Step.ofBelow (S:=[]) hB4) (by simp),HS3.out.trans (Step.ofBelow hB4)⟩
  have HR:=Lib.hid (safe_read m b g off n (Lib.byteCells l) W3 hm (by omega) (by rw [Lib.byteCells_length];exact hnl) (Lib.byteCells_one _) (by omega))
  have HP:=Lib.hid hp
  clear hp hm
  go_wp2_with (go_at_call 82;refine HR.out.mono ?_;rintro e W4 ⟨v,dd,rfl,hIB,hM,hs4,hdd⟩)
  have HV:=Lib.hid (show IsB (Lib.byteCells (l.take n)) v dd W4 from by
    have e:Lib.byteCells (l.take n)=(Lib.byteCells l).take n:=by simp [Lib.byteCells,List.map_take]
    rw [e];exact hIB)
  have HM:=Lib.hid (show Mem m b g (off+n) (Lib.byteCells (l.drop n)) W4 from by
    have e:Lib.byteCells (l.drop n)=(Lib.byteCells l).drop n:=by simp [Lib.byteCells,List.map_drop]
    rw [e];exact hM)
  clear hIB hM HR
  go_wp2_with (go_at_call 178;go_in)
  all_goals go_wp2
  all_goals go_ret2
  all_goals (
    have hT:=BR.took hC hd hK (HP.out.step hs4 (by simp [hd.2.1])) HM.out (hs4.more (by simp) (fun k hk=>.inr (.inl hk)))
    exact ⟨_,dd,_,_,rfl,HV.out,IsErr.nil _,hT.1,HS3.out.trans hT.2⟩)

end Go.Proofs.YtmjcnomgpikncaaGreatDoor

namespace Go.Proofs.YtmjcnomgpikncaaGreatDoor

open Go.RowKit Go.Deep



def cRdStr (c:Cfg) (l:List UInt8):Option (List UInt8 × Nat × List UInt8) :=
  (v64 l).bind fun a=>if sizeK c (wrap32 a.1)=0 then (takeN (wrap32 a.1).toNat a.2).map fun b=>(b.1,0,b.2) else some ([],sizeK c (wrap32 a.1),a.2)

def cRdFld (st:CSt) (x:UInt8) (r:List UInt8):Option (RGot × Nat × (CSt × List UInt8)) :=
  if (x.toNat:Int) % 16=0 then some ({},0,(st,r))
  else (cType ((x.toNat:Int) % 16)).bind fun t =>
    if (x.toNat:Int) / 16=0 then (v64 r).map fun a=>({ t:=t,id:=IntKind.i16.wrap (unz32 a.1) },0,(st.at_ ((x.toNat:Int) % 16) (IntKind.i16.wrap (unz32 a.1)),a.2))
    else some ({ t:=t,id:=IntKind.i16.wrap (IntKind.i16.wrap st.last+(x.toNat:Int) / 16) },0,(st.at_ ((x.toNat:Int) % 16) (IntKind.i16.wrap (IntKind.i16.wrap st.last+(x.toNat:Int) / 16)),r))

def cRdLst (c:Cfg) (st:CSt) (x:UInt8) (r:List UInt8):Option (RGot × Nat × (CSt × List UInt8)) :=
  (cSize x r).bind fun a=>(cType ((x.toNat:Int) % 16)).map fun t=>({ t:=t,size:=a.1 },contK c a.1 (minC t) a.2.length,(st,a.2))

def cRdMap (c:Cfg) (st:CSt) (a:Int) (l:List UInt8):Option (RGot × Nat × (CSt × List UInt8)) :=
  if wrap32 a=0 then some ({},contK c 0 (minC 0+minC 0) l.length,(st,l))
  else match l with
    | y :: r=>(cType ((y.toNat:Int) / 16)).bind fun kt=>(cType ((y.toNat:Int) % 16)).map fun vt=>({ k:=kt,t:=vt,size:=wrap32 a },contK c (wrap32 a) (minC kt+minC vt) r.length,(st,r))
    | []=>none

def cRdMsg (c:Cfg) (st:CSt) (y:UInt8) (r:List UInt8):Option (RGot × Nat × (CSt × List UInt8)) :=
  if (y.toNat:Int) % 32=1 then (v64 r).bind fun a=>(cRdStr c a.2).map fun b=>({ s:=b.1,t:=(y.toNat:Int) / 32,n:=wrap32 a.1 },b.2.1,(st,b.2.2))
  else some ({ t:=(y.toNat:Int) / 32 },14,(st,r))

def cmpRd (c:Cfg) (s:CSt × List UInt8):ROp→Option (RGot × Nat × (CSt × List UInt8))
  | .byte=>match s.2 with
    | x :: r=>some ({ n:=i8w x },0,(s.1,r))
    | []=>none
  | .bool=>if s.1.bn=true then some ({ n:=if s.1.bv=true then 1 else 0 },0,({ s.1 with bn:=false },s.2)) else match s.2 with
    | x :: r=>some ({ n:=if x=1 then 1 else 0 },0,(s.1,r))
    | []=>none
  | .i16=>(v64 s.2).map fun a=>({ n:=IntKind.i16.wrap (unz32 a.1) },0,(s.1,a.2))
  | .i32=>(v64 s.2).map fun a=>({ n:=unz32 a.1 },0,(s.1,a.2))
  | .i64=>(v64 s.2).map fun a=>({ n:=unz64 a.1 },0,(s.1,a.2))
  | .dbl=>(takeN 8 s.2).map fun a=>({ n:=wrap64 (Lib.leNat a.1) },0,(s.1,a.2))
  | .uuid=>(takeN 16 s.2).map fun a=>({ s:=a.1 },0,(s.1,a.2))
  | .str=>(cRdStr c s.2).map fun b=>({ s:=b.1 },b.2.1,(s.1,b.2.2))
  | .strB=>if s.1.stk.length < 5000000000000 then some ({},0,({ s.1 with stk:=s.1.stk++[s.1.last],last:=0 },s.2)) else none
  | .strE=>match s.1.stk.getLast? with
    | some x=>some ({},0,({ s.1 with stk:=s.1.stk.dropLast,last:=x },s.2))
    | none=>some ({},11,s)
  | .fldB=>match s.2 with
    | x :: r=>cRdFld s.1 x r
    | []=>none
  | .lstB=>match s.2 with
    | x :: r=>cRdLst c s.1 x r
    | []=>none
  | .setB=>match s.2 with
    | x :: r=>cRdLst c s.1 x r
    | []=>none
  | .mapB=>(v64 s.2).bind fun a=>cRdMap c s.1 a.1 a.2
  | .msgB=>match s.2 with
    | x :: r=>if (x.toNat:Int)=130 then (match r with
      | y :: r2=>cRdMsg c s.1 y r2
      | []=>none) else some ({},14,(s.1,r))
    | []=>none
  | _=>some ({},0,s)

theorem wrap32_range (x:Int):-2147483648≤wrap32 x∧wrap32 x < 2147483648:=by unfold wrap32;omega

theorem wrap16_range (x:Int):-32768≤IntKind.i16.wrap x∧IntKind.i16.wrap x < 32768:=by rw [wrap_i16];omega

theorem contK_nonneg {c:Cfg} {n m rem:Int} (h:contK c n m rem=0):0≤n:=by
  unfold contK at h
  split at h
  · cases h
  · omega

theorem takeN_some {n:Nat} {l:List UInt8} {a:List UInt8 × List UInt8} (h:takeN n l=some a):n≤l.length∧a=(l.take n,l.drop n):=by
  unfold takeN at h
  split at h
  · next hn=>injection h with h;exact ⟨hn,h.symm⟩
  · cases h

theorem RGot.fit_zero (o:ROp) (k:Nat) (ho:o.nm ≠ "ReadUUID"):RGot.fit o k {}:=by
  refine ⟨fun _=>by simp,by simp,by simp,by simp,fun _=>by simp,by simp,by simp,fun _=>.inl rfl,by simp,fun e=>absurd e ho⟩

theorem RGot.fit_n (o:ROp) (k:Nat) (n:Int) (ho:o.nm ≠ "ReadUUID") (hb:o.nm ≠ "ReadBool") (hn:-9223372036854775808≤n∧n < 9223372036854775808):RGot.fit o k { n:=n }:=by
  refine ⟨fun _=>by simp,by simp,by simp,by simp,fun _=>by simp,by simp,hn,fun e=>absurd e hb,by simp,fun e=>absurd e ho⟩

theorem RGot.fit_coll (o:ROp) (k:Nat) (t kt n:Int) (ho:o.nm ≠ "ReadUUID") (hb:o.nm ≠ "ReadBool") (ht:0≤t∧t≤255) (hkt:0≤kt∧kt≤255) (hn:-2147483648≤n∧n < 2147483648) (h0:k=0→0≤n):RGot.fit o k { t:=t,k:=kt,size:=n }:=by
  refine ⟨fun _=>⟨ht.1,by show t < 256;omega⟩,?_,⟨hkt.1,by show kt < 256;omega⟩,hn,h0,by simp,by simp,fun e=>absurd e hb,by simp,fun e=>absurd e ho⟩
  show -2147483648≤t∧t < 2147483648
  omega

theorem RGot.fit_fld (o:ROp) (k:Nat) (t id:Int) (ho:o.nm ≠ "ReadUUID") (hb:o.nm ≠ "ReadBool") (ht:0≤t∧t≤255) (hid:-32768≤id∧id < 32768):RGot.fit o k { t:=t,id:=id }:=by
  refine ⟨fun _=>⟨ht.1,by show t < 256;omega⟩,?_,by simp,by simp,fun _=>by simp,hid,by simp,fun e=>absurd e hb,by simp,fun e=>absurd e ho⟩
  show -2147483648≤t∧t < 2147483648
  omega

theorem RGot.fit_str (o:ROp) (k:Nat) (s:List UInt8) (ho:o.nm ≠ "ReadUUID") (hb:o.nm ≠ "ReadBool") (hs:s.length < 2147483648):RGot.fit o k { s:=s }:=by
  refine ⟨fun _=>by simp,by simp,by simp,by simp,fun _=>by simp,by simp,by simp,fun e=>absurd e hb,hs,fun e=>absurd e ho⟩

theorem cRdStr_len {c:Cfg} {l:List UInt8} {b:List UInt8 × Nat × List UInt8} (h:cRdStr c l=some b):b.1.length < 2147483648:=by
  unfold cRdStr at h
  rw [Option.bind_eq_some_iff] at h
  obtain ⟨a,h1,h⟩:=h
  split at h
  · rw [Option.map_eq_some_iff] at h
    obtain ⟨x,hx,rfl⟩:=h
    obtain ⟨h3,rfl⟩:=takeN_some hx
    have:=wrap32_range a.1
    show (a.2.take _).length < _
    rw [List.length_take]
    omega
  · injection h with h
    subst h
    simp

theorem cmpRd_fits (c:Cfg) {s:CSt × List UInt8} {o:ROp} {r:RGot × Nat × (CSt × List UInt8)} (h:cmpRd c s o=some r):r.1.fit o r.2.1:=by
 obtain ⟨st,l⟩:=s
 cases o with
 | byte =>
  cases l with
  | nil=>cases h
  | cons x l=>injection h with h;subst h;exact RGot.fit_n _ _ _ (by decide) (by decide) (by have:=x.toNat_lt;unfold i8w;rw [wrap_i8];omega)
 | bool =>
  simp only [cmpRd] at h
  split at h
  · injection h with h
    subst h
    refine ⟨fun _=>by simp,by simp,by simp,by simp,fun _=>by simp,by simp,?_,fun _=>?_,by simp,fun e=>absurd e (by decide)⟩
    · show _≤(if st.bv=true then (1:Int) else 0)∧_
      split <;> simp
    · show (if st.bv=true then (1:Int) else 0)=0∨_
      split <;> simp
  · cases l with
    | nil=>cases h
    | cons x l =>
     injection h with h
     subst h
     refine ⟨fun _=>by simp,by simp,by simp,by simp,fun _=>by simp,by simp,?_,fun _=>?_,by simp,fun e=>absurd e (by decide)⟩
     · show _≤(if x=1 then (1:Int) else 0)∧_
       split <;> simp
     · show (if x=1 then (1:Int) else 0)=0∨_
       split <;> simp
 | i16 =>
  simp only [cmpRd,Option.map_eq_some_iff] at h
  obtain ⟨a,h1,rfl⟩:=h
  exact RGot.fit_n _ _ _ (by decide) (by decide) (by have:=wrap16_range (unz32 a.1);omega)
 | i32 =>
  simp only [cmpRd,Option.map_eq_some_iff] at h
  obtain ⟨a,h1,rfl⟩:=h
  exact RGot.fit_n _ _ _ (by decide) (by decide) (by have:=unz32_range a.1;omega)
 | i64 =>
  simp only [cmpRd,Option.map_eq_some_iff] at h
  obtain ⟨a,h1,rfl⟩:=h
  exact RGot.fit_n _ _ _ (by decide) (by decide) (unz64_range a.1)
 | dbl =>
  simp only [cmpRd,Option.map_eq_some_iff] at h
  obtain ⟨a,h1,rfl⟩:=h
  exact RGot.fit_n _ _ _ (by decide) (by decide) (wrap64_range _)
 | uuid =>
  simp only [cmpRd,Option.map_eq_some_iff] at h
  obtain ⟨a,h1,rfl⟩:=h
  obtain ⟨h3,rfl⟩:=takeN_some h1
  have hl:(l.take 16).length=16:=by rw [List.length_take];omega
  refine ⟨fun _=>by simp,by simp,by simp,by simp,fun _=>by simp,by simp,by simp,fun e=>absurd e (by decide),?_,fun _=>hl⟩
  show (l.take 16).length < _
  omega
 | str =>
  simp only [cmpRd,Option.map_eq_some_iff] at h
  obtain ⟨b,h1,rfl⟩:=h
  exact RGot.fit_str _ _ _ (by decide) (by decide) (cRdStr_len h1)
 | strB =>
  simp only [cmpRd] at h
  split at h
  · injection h with h;subst h;exact RGot.fit_zero _ _ (by decide)
  · cases h
 | strE =>
  simp only [cmpRd] at h
  split at h <;> (injection h with h;subst h;exact RGot.fit_zero _ _ (by decide))
 | fldB =>
  cases l with
  | nil=>cases h
  | cons x l =>
   simp only [cmpRd,cRdFld] at h
   split at h
   · injection h with h;subst h;exact RGot.fit_zero _ _ (by decide)
   · rw [Option.bind_eq_some_iff] at h
     obtain ⟨t,ht,h⟩:=h
     have htr:=cType_range ht
     split at h
     · rw [Option.map_eq_some_iff] at h
       obtain ⟨a,h1,rfl⟩:=h
       exact RGot.fit_fld _ _ _ _ (by decide) (by decide) (by omega) (wrap16_range _)
     · injection h with h
       subst h
       exact RGot.fit_fld _ _ _ _ (by decide) (by decide) (by omega) (wrap16_range _)
 | lstB =>
  cases l with
  | nil=>cases h
  | cons x l=>exact lst .lstB (by decide) (by decide) x l h
 | setB =>
  cases l with
  | nil=>cases h
  | cons x l=>exact lst .setB (by decide) (by decide) x l h
 | mapB =>
  simp only [cmpRd] at h
  rw [Option.bind_eq_some_iff] at h
  obtain ⟨a,h1,h⟩:=h
  unfold cRdMap at h
  split at h
  · injection h with h;subst h;exact RGot.fit_zero _ _ (by decide)
  · split at h
    · rw [Option.bind_eq_some_iff] at h
      obtain ⟨kt,hkt,h⟩:=h
      rw [Option.map_eq_some_iff] at h
      obtain ⟨vt,hvt,rfl⟩:=h
      have h2:=cType_range hkt
      have h3:=cType_range hvt
      exact RGot.fit_coll _ _ _ _ _ (by decide) (by decide) (by omega) (by omega) (wrap32_range _) (fun hk=>contK_nonneg hk)
    · cases h
 | msgB =>
  cases l with
  | nil=>cases h
  | cons x l =>
   simp only [cmpRd] at h
   split at h
   · cases l with
     | nil=>cases h
     | cons y l =>
      have hy:=y.toNat_lt
      simp only [cRdMsg] at h
      split at h
      · rw [Option.bind_eq_some_iff] at h
        obtain ⟨a,h1,h⟩:=h
        rw [Option.map_eq_some_iff] at h
        obtain ⟨b,hb,rfl⟩:=h
        have hw:=wrap32_range a.1
        have hbl:=cRdStr_len hb
        refine ⟨fun e=>absurd rfl e,?_,by simp,by simp,fun _=>by simp,by simp,?_,fun e=>absurd e (by decide),hbl,fun e=>absurd e (by decide)⟩
        · show -2147483648≤(y.toNat:Int) / 32∧(y.toNat:Int) / 32 < 2147483648
          omega
        · show _≤wrap32 a.1∧wrap32 a.1 < _
          omega
      · injection h with h
        subst h
        refine ⟨fun e=>absurd rfl e,?_,by simp,by simp,fun _=>by simp,by simp,by simp,fun e=>absurd e (by decide),by simp,fun e=>absurd e (by decide)⟩
        show -2147483648≤(y.toNat:Int) / 32∧(y.toNat:Int) / 32 < 2147483648
        omega
   · injection h with h
     subst h
     exact RGot.fit_zero _ _ (by decide)
 | msgE=>injection h with h;subst h;exact RGot.fit_zero _ _ (by decide)
 | fldE=>injection h with h;subst h;exact RGot.fit_zero _ _ (by decide)
 | mapE=>injection h with h;subst h;exact RGot.fit_zero _ _ (by decide)
 | lstE=>injection h with h;subst h;exact RGot.fit_zero _ _ (by decide)
 | setE=>injection h with h;subst h;exact RGot.fit_zero _ _ (by decide)

where

  lst (o:ROp) (ho:o.nm ≠ "ReadUUID") (hb:o.nm ≠ "ReadBool") (x:UInt8) (l:List UInt8) {st:CSt} {r:RGot × Nat × (CSt × List UInt8)} (h:cRdLst c st x l=some r):r.1.fit o r.2.1:=by

    unfold cRdLst at h

    rw [Option.bind_eq_some_iff] at h

    obtain ⟨a,ha,h⟩:=h

    rw [Option.map_eq_some_iff] at h

    obtain ⟨t,ht,rfl⟩:=h

    have htr:=cType_range ht

    refine RGot.fit_coll _ _ _ _ _ ho hb (by omega) (by omega) ?_ (fun hk=>contK_nonneg hk)

    unfold cSize at ha

    split at ha

    · rw [Option.map_eq_some_iff] at ha

      obtain ⟨b,_,rfl⟩:=ha

      exact wrap32_range _

    · injection ha with ha

      subst ha

      have:=x.toNat_lt

      show -2147483648≤((x.toNat / 16:Nat):Int)∧((x.toNat / 16:Nat):Int) < 2147483648

      omega

end Go.Proofs.YtmjcnomgpikncaaGreatDoor

namespace Go.Proofs.YtmjcnomgpikncaaGreatDoor

open Go.RowKit Go.Deep



theorem RD.told {σ:Type} {Is:List Nat→σ→World→Prop} {f:FuncId} {a:Array Value} {o:ROp} {S:List Nat} {w:World} {g:RGot} {s:σ} (h:Calls Tryz.prog f a w (RD Is S w (o.tup g .nilIface) s)):Calls Tryz.prog f a w (Told Is o S w (g,0,s)) :=
  h.mono fun e w' ⟨S',he,hI,hs⟩=>⟨.nilIface,S',he,IsErr.nil _,hI,hs⟩

theorem RD.told' {σ:Type} {Is:List Nat→σ→World→Prop} {f:FuncId} {a:Array Value} {o:ROp} {S:List Nat} {w:World} {g:RGot} {s:σ} {v:Value} (h:Calls Tryz.prog f a w (RD Is S w v s)) (hv:v=o.tup g .nilIface):Calls Tryz.prog f a w (Told Is o S w (g,0,s)):=by
  subst hv
  exact RD.told h

theorem take2 {l:List UInt8} (h:2≤l.length):∃ b0 b1 r,l=b0 :: b1 :: r:=by
  rcases l with _ | ⟨b0,_ | ⟨b1,r⟩⟩ <;> simp at h
  exact ⟨b0,b1,r,rfl⟩

theorem take4 {l:List UInt8} (h:4≤l.length):∃ b0 b1 b2 b3 r,l=b0 :: b1 :: b2 :: b3 :: r:=by
  obtain ⟨b0,b1,r,rfl⟩:=take2 (l:=l) (by omega)
  obtain ⟨b2,b3,r,rfl⟩:=take2 (l:=r) (by simp only [List.length_cons] at h;omega)
  exact ⟨b0,b1,b2,b3,r,rfl⟩

theorem take8 {l:List UInt8} (h:8≤l.length):∃ b0 b1 b2 b3 b4 b5 b6 b7 r,l=b0 :: b1 :: b2 :: b3 :: b4 :: b5 :: b6 :: b7 :: r:=by
  obtain ⟨b0,b1,b2,b3,r,rfl⟩:=take4 (l:=l) (by omega)
  obtain ⟨b4,b5,b6,b7,r,rfl⟩:=take4 (l:=r) (by simp only [List.length_cons] at h;omega)
  exact ⟨b0,b1,b2,b3,b4,b5,b6,b7,r,rfl⟩

theorem leN_lt:∀ l:List UInt8,Lib.leNat l < 256 ^ l.length
  | []=>by simp [Lib.leNat]
  | x :: l=>by
    have h1:=leN_lt l
    have h2:=x.toNat_lt
    simp only [Lib.leNat,List.length_cons,Nat.pow_succ]
    omega

theorem leNat8 (b0 b1 b2 b3 b4 b5 b6 b7:UInt8):Lib.leNat [b0,b1,b2,b3,b4,b5,b6,b7] < 18446744073709551616:=Nat.lt_of_lt_of_eq (show _ < 256 ^ 8 from leN_lt _) (by decide)

theorem beNat8 (b0 b1 b2 b3 b4 b5 b6 b7:UInt8):Lib.beNat [b0,b1,b2,b3,b4,b5,b6,b7] < 18446744073709551616:=by
  rw [Lib.beNat_eq]
  exact Nat.lt_of_lt_of_eq (show _ < 256 ^ 8 from leN_lt _) (by decide)

theorem bits_back (N:Nat) (h:N < 18446744073709551616):(IntKind.u64.wrap (wrap64 (N:Int))).toNat=N:=by
  rw [IntKind.wrap_u64]
  unfold wrap64
  omega

theorem i16w_range (l:List UInt8):-32768≤i16w l∧i16w l < 32768:=wrap16_range _

theorem bin_lst_fits {c:Cfg} (o:ROp) (ho:o.nm ≠ "ReadUUID") (hb:o.nm ≠ "ReadBool") (x:UInt8) (l:List UInt8) {r:RGot × Nat × List UInt8} (h:((takeN 4 l).map fun a=>((if contK c (wrap32 (Lib.beNat a.1)) (minB x.toNat) a.2.length=0 then ({ t:=x.toNat,size:=wrap32 (Lib.beNat a.1) }:RGot) else { t:=x.toNat },contK c (wrap32 (Lib.beNat a.1)) (minB x.toNat) a.2.length,a.2):RGot × Nat × List UInt8))=some r):r.1.fit o r.2.1:=by
  have hx:=x.toNat_lt
  rw [Option.map_eq_some_iff] at h
  obtain ⟨a,h1,rfl⟩:=h
  dsimp only
  split
  · next hk=>exact RGot.fit_coll _ _ _ _ _ ho hb (by omega) (by omega) (wrap32_range _) (fun hk=>contK_nonneg hk)
  · next hk=>exact RGot.fit_coll _ _ _ _ _ ho hb (by omega) (by omega) (by omega) (fun h0=>by omega)

set_option maxRecDepth 100000 in
set_option maxHeartbeats 2000000 in
theorem binRd_fits (c:Cfg) {l:List UInt8} {o:ROp} {r:RGot × Nat × List UInt8} (h:binRd c l o=some r):r.1.fit o r.2.1:=by
  cases o with
  | byte =>
    cases l with
    | nil=>cases h
    | cons x l=>injection h with h;subst h;exact RGot.fit_n _ _ _ (by decide) (by decide) (by have:=x.toNat_lt;unfold i8w;rw [wrap_i8];omega)
  | bool =>
    cases l with
    | nil=>cases h
    | cons x l =>
      injection h with h
      subst h
      refine ⟨fun _=>by simp,by simp,by simp,by simp,fun _=>by simp,by simp,?_,fun _=>?_,by simp,fun e=>absurd e (by decide)⟩
      · show _≤(if x=1 then (1:Int) else 0)∧_
        split <;> simp
      · show (if x=1 then (1:Int) else 0)=0∨_
        split <;> simp
  | i16 =>
    simp only [binRd,Option.map_eq_some_iff] at h
    obtain ⟨a,h1,rfl⟩:=h
    exact RGot.fit_n _ _ _ (by decide) (by decide) (by have:=i16w_range a.1;omega)
  | i32 =>
    simp only [binRd,Option.map_eq_some_iff] at h
    obtain ⟨a,h1,rfl⟩:=h
    exact RGot.fit_n _ _ _ (by decide) (by decide) (by have:=wrap32_range (Lib.beNat a.1);omega)
  | i64 =>
    simp only [binRd,Option.map_eq_some_iff] at h
    obtain ⟨a,h1,rfl⟩:=h
    exact RGot.fit_n _ _ _ (by decide) (by decide) (wrap64_range _)
  | dbl =>
    simp only [binRd,Option.map_eq_some_iff] at h
    obtain ⟨a,h1,rfl⟩:=h
    exact RGot.fit_n _ _ _ (by decide) (by decide) (wrap64_range _)
  | uuid =>
    simp only [binRd,Option.map_eq_some_iff] at h
    obtain ⟨a,h1,rfl⟩:=h
    obtain ⟨h3,rfl⟩:=takeN_some h1
    have hl:(l.take 16).length=16:=by rw [List.length_take];omega
    refine ⟨fun _=>by simp,by simp,by simp,by simp,fun _=>by simp,by simp,by simp,fun e=>absurd e (by decide),?_,fun _=>hl⟩
    show (l.take 16).length < _
    omega
  | str =>
    simp only [binRd,Option.bind_eq_some_iff] at h
    obtain ⟨a,h1,h⟩:=h
    split at h
    · rw [Option.map_eq_some_iff] at h
      obtain ⟨x,hx,rfl⟩:=h
      obtain ⟨h3,rfl⟩:=takeN_some hx
      refine RGot.fit_str _ _ _ (by decide) (by decide) ?_
      have:=wrap32_range (Lib.beNat a.1)
      rw [List.length_take]
      omega
    · injection h with h
      subst h
      exact RGot.fit_zero _ _ (by decide)
  | fldB =>
    cases l with
    | nil=>cases h
    | cons x l =>
      have hx:=x.toNat_lt
      simp only [binRd] at h
      split at h
      · injection h with h;subst h;exact RGot.fit_zero _ _ (by decide)
      · rw [Option.map_eq_some_iff] at h
        obtain ⟨a,h1,rfl⟩:=h
        exact RGot.fit_fld _ _ _ _ (by decide) (by decide) (by omega) (i16w_range _)
  | lstB =>
    cases l with
    | nil=>cases h
    | cons x l=>exact bin_lst_fits .lstB (by decide) (by decide) x l h
  | setB =>
    cases l with
    | nil=>cases h
    | cons x l=>exact bin_lst_fits .setB (by decide) (by decide) x l h
  | mapB =>
    rcases l with _ | ⟨x,_ | ⟨y,l⟩⟩
    · cases h
    · cases h
    · have hx:=x.toNat_lt
      have hy:=y.toNat_lt
      simp only [binRd,Option.map_eq_some_iff] at h
      obtain ⟨a,h1,rfl⟩:=h
      dsimp only
      split
      · next hk=>exact RGot.fit_coll _ _ _ _ _ (by decide) (by decide) (by omega) (by omega) (wrap32_range _) (fun hk=>contK_nonneg hk)
      · next hk=>exact RGot.fit_coll _ _ _ _ _ (by decide) (by decide) (by omega) (by omega) (by omega) (fun h0=>by omega)
  | strB=>injection h with h;subst h;exact RGot.fit_zero _ _ (by decide)
  | strE=>injection h with h;subst h;exact RGot.fit_zero _ _ (by decide)
  | msgB=>cases h
  | msgE=>injection h with h;subst h;exact RGot.fit_zero _ _ (by decide)
  | fldE=>injection h with h;subst h;exact RGot.fit_zero _ _ (by decide)
  | mapE=>injection h with h;subst h;exact RGot.fit_zero _ _ (by decide)
  | lstE=>injection h with h;subst h;exact RGot.fit_zero _ _ (by decide)
  | setE=>injection h with h;subst h;exact RGot.fit_zero _ _ (by decide)

def binRFn (s:String):FuncId :=
  if s = "ReadMessageBegin" then 218 else
  if s = "ReadMessageEnd" then 219 else
  if s = "ReadStructBegin" then 223 else
  if s = "ReadStructEnd" then 224 else
  if s = "ReadFieldBegin" then 209 else
  if s = "ReadFieldEnd" then 210 else
  if s = "ReadMapBegin" then 216 else
  if s = "ReadMapEnd" then 217 else
  if s = "ReadListBegin" then 214 else
  if s = "ReadListEnd" then 215 else
  if s = "ReadSetBegin" then 220 else
  if s = "ReadSetEnd" then 221 else
  if s = "ReadBool" then 206 else
  if s = "ReadByte" then 207 else
  if s = "ReadI16" then 211 else
  if s = "ReadI32" then 212 else
  if s = "ReadI64" then 213 else
  if s = "ReadDouble" then 208 else
  if s = "ReadString" then 222 else
  225

theorem binR_meth (p:Nat) (o:ROp) (k:Nat) (w:World):(method (k+1) 155 (.pointer (some ⟨p,0,none⟩)) o.nm).run Tryz.prog w=.ok (binRFn o.nm,.pointer (some ⟨p,0,none⟩)) w:=by
  cases o <;> kernel_rfl

theorem binR_ahead (p:Nat) (o:ROp) (k:Nat) (w:World):(nilAhead (k+1) 155 (.pointer (some ⟨p,0,none⟩)) o.nm).run Tryz.prog w=.ok (some false) w:=by
  cases o <;> kernel_rfl

theorem binR_ent (o:ROp) (args:Array Value) (w:World):(callFunc (binRFn o.nm) args).run Tryz.prog w=.ok (.enter (binRFn o.nm) args) w:=by
  cases o <;> kernel_rfl

set_option maxRecDepth 100000 in
set_option maxHeartbeats 2000000 in
theorem binR_does (p m:Nat) (og cf:Value) (c:Cfg) (hf:c.fit) {S:List Nat} {l:List UInt8} {w:World} (h:BR p m og cf c S l w) {o:ROp} {r:RGot × Nat × List UInt8} (hr:binRd c l o=some r) :
 Calls Tryz.prog (binRFn o.nm) #[.pointer (some ⟨p,0,none⟩),ctxV] w (Told (BR p m og cf c) o S w r):=by
 cases o with
 | byte =>
  cases l with
  | nil=>cases hr
  | cons x l=>injection hr with hr;subst hr;exact RD.told (o:=.byte) (br_byte h)
 | bool =>
  cases l with
  | nil=>cases hr
  | cons x l =>
   injection hr with hr
   subst hr
   refine RD.told' (o:=.bool) (br_bool h) ?_
   by_cases hx:x=1
   · subst hx;rfl
   · simp [ROp.tup,hx]
 | i16 =>
  simp only [binRd,Option.map_eq_some_iff] at hr
  obtain ⟨a,h1,rfl⟩:=hr
  obtain ⟨h3,rfl⟩:=takeN_some h1
  obtain ⟨b0,b1,l,rfl⟩:=take2 h3
  exact RD.told (o:=.i16) (br_i16 h)
 | i32 =>
  simp only [binRd,Option.map_eq_some_iff] at hr
  obtain ⟨a,h1,rfl⟩:=hr
  obtain ⟨h3,rfl⟩:=takeN_some h1
  obtain ⟨b0,b1,b2,b3,l,rfl⟩:=take4 h3
  exact RD.told (o:=.i32) (br_i32 h)
 | i64 =>
  simp only [binRd,Option.map_eq_some_iff] at hr
  obtain ⟨a,h1,rfl⟩:=hr
  obtain ⟨h3,rfl⟩:=takeN_some h1
  obtain ⟨b0,b1,b2,b3,b4,b5,b6,b7,l,rfl⟩:=take8 h3
  exact RD.told (o:=.i64) (br_i64 h)
 | dbl =>
  simp only [binRd,Option.map_eq_some_iff] at hr
  obtain ⟨a,h1,rfl⟩:=hr
  obtain ⟨h3,rfl⟩:=takeN_some h1
  obtain ⟨b0,b1,b2,b3,b4,b5,b6,b7,l,rfl⟩:=take8 h3
  refine RD.told' (o:=.dbl) (br_dbl h) ?_
  have e:=bits_back _ (beNat8 b0 b1 b2 b3 b4 b5 b6 b7)
  show _=Value.tuple #[.float .f64 (IntKind.u64.wrap (wrap64 (Lib.beNat [b0,b1,b2,b3,b4,b5,b6,b7]))).toNat,.nilIface]
  rw [e]
 | uuid =>
  simp only [binRd,Option.map_eq_some_iff] at hr
  obtain ⟨a,h1,rfl⟩:=hr
  obtain ⟨h3,rfl⟩:=takeN_some h1
  exact RD.told (o:=.uuid) (br_uuid h h3)
 | str =>
  simp only [binRd,Option.bind_eq_some_iff] at hr
  obtain ⟨a,h1,hr⟩:=hr
  obtain ⟨h3,rfl⟩:=takeN_some h1
  obtain ⟨b0,b1,b2,b3,l,rfl⟩:=take4 h3
  have e:(b0 :: b1 :: b2 :: b3 :: l).take 4=[b0,b1,b2,b3]:=rfl
  rw [e] at hr
  dsimp only at hr
  split at hr
  · next hk =>
    rw [Option.map_eq_some_iff] at hr
    obtain ⟨x,hx,rfl⟩:=hr
    obtain ⟨h4,rfl⟩:=takeN_some hx
    have hn:0≤wrap32 (Lib.beNat [b0,b1,b2,b3]):=by
     unfold sizeK at hk
     split at hk
     · cases hk
     · omega
    exact br_str_ok h (wrap32 (Lib.beNat [b0,b1,b2,b3])).toNat (by omega) (by rw [show (((wrap32 (Lib.beNat [b0,b1,b2,b3])).toNat:Nat):Int)=wrap32 (Lib.beNat [b0,b1,b2,b3]) by omega];exact hk) h4
  · next hk =>
    injection hr with hr
    subst hr
    exact br_str_bad h hk
 | fldB =>
  cases l with
  | nil=>cases hr
  | cons x l =>
   simp only [binRd] at hr
   split at hr
   · next hx =>
     injection hr with hr
     subst hr hx
     exact RD.told (o:=.fldB) (br_stop h)
   · next hx =>
     rw [Option.map_eq_some_iff] at hr
     obtain ⟨a,h1,rfl⟩:=hr
     obtain ⟨h3,rfl⟩:=takeN_some h1
     obtain ⟨b0,b1,l,rfl⟩:=take2 h3
     exact RD.told (o:=.fldB) (br_fldB h hx)
 | lstB =>
  cases l with
  | nil=>cases hr
  | cons x l =>
   simp only [binRd,Option.map_eq_some_iff] at hr
   obtain ⟨a,h1,rfl⟩:=hr
   obtain ⟨h3,rfl⟩:=takeN_some h1
   obtain ⟨b0,b1,b2,b3,l,rfl⟩:=take4 h3
   exact br_lstB h hf
 | setB =>
  cases l with
  | nil=>cases hr
  | cons x l =>
   simp only [binRd,Option.map_eq_some_iff] at hr
   obtain ⟨a,h1,rfl⟩:=hr
   obtain ⟨h3,rfl⟩:=takeN_some h1
   obtain ⟨b0,b1,b2,b3,l,rfl⟩:=take4 h3
   exact br_setB h hf
 | mapB =>
  rcases l with _ | ⟨x,_ | ⟨y,l⟩⟩
  · cases hr
  · cases hr
  · simp only [binRd,Option.map_eq_some_iff] at hr
    obtain ⟨a,h1,rfl⟩:=hr
    obtain ⟨h3,rfl⟩:=takeN_some h1
    obtain ⟨b0,b1,b2,b3,l,rfl⟩:=take4 h3
    exact br_mapB h hf
 | strB=>injection hr with hr;subst hr;exact RD.told (o:=.strB) (br_strB h)
 | strE=>injection hr with hr;subst hr;exact RD.told (o:=.strE) (br_strE h)
 | msgB=>cases hr
 | msgE=>injection hr with hr;subst hr;exact RD.told (o:=.msgE) (br_msgE h)
 | fldE=>injection hr with hr;subst hr;exact RD.told (o:=.fldE) (br_fldE h)
 | mapE=>injection hr with hr;subst hr;exact RD.told (o:=.mapE) (br_mapE h)
 | lstE=>injection hr with hr;subst hr;exact RD.told (o:=.lstE) (br_lstE h)
 | setE=>injection hr with hr;subst hr;exact RD.told (o:=.setE) (br_setE h)

theorem binR_doesB {p m:Nat} {og cf:Value} {c:Cfg} {S:List Nat} {l:List UInt8} {w:World} (h:BR p m og cf c S l w) {r:RGot × Nat × List UInt8} (hr:binRd c l .str=some r) :
    Calls Tryz.prog 205 #[.pointer (some ⟨p,0,none⟩),ctxV] w (ToldB (BR p m og cf c) S w r):=by
  simp only [binRd,Option.bind_eq_some_iff] at hr
  obtain ⟨a,h1,hr⟩:=hr
  obtain ⟨h3,rfl⟩:=takeN_some h1
  obtain ⟨b0,b1,b2,b3,l,rfl⟩:=take4 h3
  split at hr
  · next hk =>
    rw [Option.map_eq_some_iff] at hr
    obtain ⟨x,hx,rfl⟩:=hr
    obtain ⟨h4,rfl⟩:=takeN_some hx
    have hn:0≤wrap32 (Lib.beNat [b0,b1,b2,b3]):=by
      have hk':sizeK c (wrap32 (Lib.beNat [b0,b1,b2,b3]))=0:=hk
      unfold sizeK at hk'
      split at hk'
      · cases hk'
      · omega
    exact br_bin_ok h (wrap32 (Lib.beNat [b0,b1,b2,b3])).toNat (by omega) (by rw [show (((wrap32 (Lib.beNat [b0,b1,b2,b3])).toNat:Nat):Int)=wrap32 (Lib.beNat [b0,b1,b2,b3]) by omega];exact hk) h4
  · next hk =>
    injection hr with hr
    subst hr
    exact br_bin_bad h hk

def PBR (p m:Nat) (og cf:Value) (c:Cfg) (hf:c.fit):PR where
  ty:=155
  ptr:=.pointer (some ⟨p,0,none⟩)
  fn:=binRFn
  σ:=List UInt8
  Is:=BR p m og cf c
  run:=binRd c
  meth:=binR_meth p
  ahead:=binR_ahead p
  ent:=binR_ent
  step:=fun h _ _ _ hs hn=>h.step hs hn
  lt:=fun h=>h.lt
  fits:=binRd_fits c
  does:=fun h _ _ hr=>binR_does p m og cf c hf h hr
  bfn:=205
  bmeth:=fun k w=>by kernel_rfl
  bahead:=fun k w=>by kernel_rfl
  bent:=fun args w=>by kernel_rfl
  bdoes:=fun h _ hr=>binR_doesB h hr

end Go.Proofs.YtmjcnomgpikncaaGreatDoor

namespace Go.Proofs.YtmjcnomgpikncaaGreatDoor

open Go.RowKit Go.Deep



def cmpRFn (s:String):FuncId :=
  if s = "ReadMessageBegin" then 143 else
  if s = "ReadMessageEnd" then 144 else
  if s = "ReadStructBegin" then 148 else
  if s = "ReadStructEnd" then 149 else
  if s = "ReadFieldBegin" then 134 else
  if s = "ReadFieldEnd" then 135 else
  if s = "ReadMapBegin" then 141 else
  if s = "ReadMapEnd" then 142 else
  if s = "ReadListBegin" then 139 else
  if s = "ReadListEnd" then 140 else
  if s = "ReadSetBegin" then 145 else
  if s = "ReadSetEnd" then 146 else
  if s = "ReadBool" then 131 else
  if s = "ReadByte" then 132 else
  if s = "ReadI16" then 136 else
  if s = "ReadI32" then 137 else
  if s = "ReadI64" then 138 else
  if s = "ReadDouble" then 133 else
  if s = "ReadString" then 147 else
  150

theorem cmpR_meth (p:Nat) (o:ROp) (k:Nat) (w:World):(method (k+1) 151 (.pointer (some ⟨p,0,none⟩)) o.nm).run Tryz.prog w=.ok (cmpRFn o.nm,.pointer (some ⟨p,0,none⟩)) w:=by
  cases o <;> kernel_rfl

theorem cmpR_ahead (p:Nat) (o:ROp) (k:Nat) (w:World):(nilAhead (k+1) 151 (.pointer (some ⟨p,0,none⟩)) o.nm).run Tryz.prog w=.ok (some false) w:=by
  cases o <;> kernel_rfl

theorem cmpR_ent (o:ROp) (args:Array Value) (w:World):(callFunc (cmpRFn o.nm) args).run Tryz.prog w=.ok (.enter (cmpRFn o.nm) args) w:=by
  cases o <;> kernel_rfl

theorem cRdStr_does {p m:Nat} {og cf:Value} {c:Cfg} {S:List Nat} {st:CSt} {l:List UInt8} {w:World} (h:CR p m og cf c S (st,l) w) {b:List UInt8 × Nat × List UInt8} (hb:cRdStr c l=some b) :
    Calls Tryz.prog 147 #[.pointer (some ⟨p,0,none⟩),ctxV] w (Told (CR p m og cf c) .str S w ({ s:=b.1 },b.2.1,(st,b.2.2))):=by
  unfold cRdStr at hb
  rw [Option.bind_eq_some_iff] at hb
  obtain ⟨a,h1,hb⟩:=hb
  split at hb
  · next hk =>
    rw [Option.map_eq_some_iff] at hb
    obtain ⟨x,hx,rfl⟩:=hb
    obtain ⟨h4,rfl⟩:=takeN_some hx
    have hn:0≤wrap32 a.1:=by
      unfold sizeK at hk
      split at hk
      · cases hk
      · omega
    exact cr_str_ok h h1 (wrap32 a.1).toNat (by omega) (by rw [show (((wrap32 a.1).toNat:Nat):Int)=wrap32 a.1 by omega];exact hk) h4
  · next hk =>
    injection hb with hb
    subst hb
    exact cr_str_bad h h1 hk

set_option maxRecDepth 100000 in
set_option maxHeartbeats 2000000 in
theorem cmpR_does (p m:Nat) (og cf:Value) (c:Cfg) (hf:c.fit) {S:List Nat} {s:CSt × List UInt8} {w:World} (h:CR p m og cf c S s w) {o:ROp} {r:RGot × Nat × (CSt × List UInt8)} (hr:cmpRd c s o=some r) :
 Calls Tryz.prog (cmpRFn o.nm) #[.pointer (some ⟨p,0,none⟩),ctxV] w (Told (CR p m og cf c) o S w r):=by
 obtain ⟨st,l⟩:=s
 cases o with
 | byte =>
  cases l with
  | nil=>cases hr
  | cons x l=>injection hr with hr;subst hr;exact RD.told (o:=.byte) (cr_byte h)
 | bool =>
  simp only [cmpRd] at hr
  split at hr
  · next hb =>
    injection hr with hr
    subst hr
    refine RD.told' (o:=.bool) (cr_bool_kept h hb) ?_
    cases st.bv <;> rfl
  · next hb =>
    cases l with
    | nil=>cases hr
    | cons x l =>
     injection hr with hr
     subst hr
     refine RD.told' (o:=.bool) (cr_bool h (by simpa using hb)) ?_
     by_cases hx:x=1
     · subst hx;rfl
     · simp [ROp.tup,hx]
 | i16 =>
  simp only [cmpRd,Option.map_eq_some_iff] at hr
  obtain ⟨a,h1,rfl⟩:=hr
  exact RD.told (o:=.i16) (cr_i16 h h1)
 | i32 =>
  simp only [cmpRd,Option.map_eq_some_iff] at hr
  obtain ⟨a,h1,rfl⟩:=hr
  exact RD.told (o:=.i32) (cr_i32 h h1)
 | i64 =>
  simp only [cmpRd,Option.map_eq_some_iff] at hr
  obtain ⟨a,h1,rfl⟩:=hr
  exact RD.told (o:=.i64) (cr_i64 h h1)
 | dbl =>
  simp only [cmpRd,Option.map_eq_some_iff] at hr
  obtain ⟨a,h1,rfl⟩:=hr
  obtain ⟨h3,rfl⟩:=takeN_some h1
  obtain ⟨b0,b1,b2,b3,b4,b5,b6,b7,l,rfl⟩:=take8 h3
  refine RD.told' (o:=.dbl) (cr_dbl h) ?_
  have e:=bits_back _ (leNat8 b0 b1 b2 b3 b4 b5 b6 b7)
  show _=Value.tuple #[.float .f64 (IntKind.u64.wrap (wrap64 (Lib.leNat [b0,b1,b2,b3,b4,b5,b6,b7]))).toNat,.nilIface]
  rw [e]
 | uuid =>
  simp only [cmpRd,Option.map_eq_some_iff] at hr
  obtain ⟨a,h1,rfl⟩:=hr
  obtain ⟨h3,rfl⟩:=takeN_some h1
  exact RD.told (o:=.uuid) (cr_uuid h h3)
 | str =>
  simp only [cmpRd,Option.map_eq_some_iff] at hr
  obtain ⟨b,h1,rfl⟩:=hr
  exact cRdStr_does h h1
 | strB =>
  simp only [cmpRd] at hr
  split at hr
  · next hl =>
    injection hr with hr
    subst hr
    exact RD.told (o:=.strB) (cr_strB h hl)
  · cases hr
 | strE =>
  simp only [cmpRd] at hr
  split at hr
  · next x hx =>
    injection hr with hr
    subst hr
    obtain ⟨ys,hy⟩:=List.getLast?_eq_some_iff.1 hx
    have hd:st.stk.dropLast=ys:=by rw [hy];simp
    rw [hd]
    exact RD.told (o:=.strE) (cr_strE h ys x hy)
  · next hx =>
    injection hr with hr
    subst hr
    exact cr_strE_none h (List.getLast?_eq_none_iff.1 hx)
 | fldB =>
  cases l with
  | nil=>cases hr
  | cons x l =>
   simp only [cmpRd,cRdFld] at hr
   split at hr
   · next hx =>
     injection hr with hr
     subst hr
     exact RD.told (o:=.fldB) (cr_stop h hx)
   · next hx =>
     rw [Option.bind_eq_some_iff] at hr
     obtain ⟨t,ht,hr⟩:=hr
     split at hr
     · next hq =>
       rw [Option.map_eq_some_iff] at hr
       obtain ⟨a,h1,rfl⟩:=hr
       exact RD.told (o:=.fldB) (cr_fldB_far h rfl ht hx hq h1)
     · next hq =>
       injection hr with hr
       subst hr
       exact RD.told (o:=.fldB) (cr_fldB_near (r:=l) h rfl ht hx hq)
 | lstB =>
  cases l with
  | nil=>cases hr
  | cons x l =>
   simp only [cmpRd,cRdLst] at hr
   rw [Option.bind_eq_some_iff] at hr
   obtain ⟨a,ha,hr⟩:=hr
   rw [Option.map_eq_some_iff] at hr
   obtain ⟨t,ht,rfl⟩:=hr
   exact cr_lstB h hf ha ht
 | setB =>
  cases l with
  | nil=>cases hr
  | cons x l =>
   simp only [cmpRd,cRdLst] at hr
   rw [Option.bind_eq_some_iff] at hr
   obtain ⟨a,ha,hr⟩:=hr
   rw [Option.map_eq_some_iff] at hr
   obtain ⟨t,ht,rfl⟩:=hr
   exact cr_setB h hf ha ht
 | mapB =>
  simp only [cmpRd] at hr
  rw [Option.bind_eq_some_iff] at hr
  obtain ⟨a,h1,hr⟩:=hr
  unfold cRdMap at hr
  split at hr
  · next h0 =>
    injection hr with hr
    subst hr
    exact cr_mapB_none h hf h1 h0
  · next h0 =>
    split at hr
    · next y r he =>
      rw [Option.bind_eq_some_iff] at hr
      obtain ⟨kt,hkt,hr⟩:=hr
      rw [Option.map_eq_some_iff] at hr
      obtain ⟨vt,hvt,rfl⟩:=hr
      obtain ⟨a,l2⟩:=a
      subst he
      exact cr_mapB_some h hf h1 rfl h0 hkt hvt
    · cases hr
 | msgB =>
  cases l with
  | nil=>cases hr
  | cons x l =>
   simp only [cmpRd] at hr
   split at hr
   · next hx =>
     cases l with
     | nil=>cases hr
     | cons y l =>
      simp only [cRdMsg] at hr
      split at hr
      · next hy =>
        rw [Option.bind_eq_some_iff] at hr
        obtain ⟨a,h1,hr⟩:=hr
        rw [Option.map_eq_some_iff] at hr
        obtain ⟨b,hb,rfl⟩:=hr
        exact cr_msgB h hx hy h1 (fun _ _ h2=>cRdStr_does h2 hb)
      · next hy =>
        injection hr with hr
        subst hr
        exact cr_msgB_version h hx hy
   · next hx =>
     injection hr with hr
     subst hr
     exact cr_msgB_id h hx
 | msgE=>injection hr with hr;subst hr;exact RD.told (o:=.msgE) (cr_msgE h)
 | fldE=>injection hr with hr;subst hr;exact RD.told (o:=.fldE) (cr_fldE h)
 | mapE=>injection hr with hr;subst hr;exact RD.told (o:=.mapE) (cr_mapE h)
 | lstE=>injection hr with hr;subst hr;exact RD.told (o:=.lstE) (cr_lstE h)
 | setE=>injection hr with hr;subst hr;exact RD.told (o:=.setE) (cr_setE h)

theorem cmpR_doesB {p m:Nat} {og cf:Value} {c:Cfg} {S:List Nat} {s:CSt × List UInt8} {w:World} (h:CR p m og cf c S s w) {r:RGot × Nat × (CSt × List UInt8)} (hr:cmpRd c s .str=some r) :
    Calls Tryz.prog 130 #[.pointer (some ⟨p,0,none⟩),ctxV] w (ToldB (CR p m og cf c) S w r):=by
  obtain ⟨st,l⟩:=s
  simp only [cmpRd,Option.map_eq_some_iff] at hr
  obtain ⟨b,h1,rfl⟩:=hr
  unfold cRdStr at h1
  rw [Option.bind_eq_some_iff] at h1
  obtain ⟨a,h2,h1⟩:=h1
  split at h1
  · next hk =>
    rw [Option.map_eq_some_iff] at h1
    obtain ⟨x,hx,rfl⟩:=h1
    exact cRdStr_doesB h h2 x hk hx
  · next hk =>
    injection h1 with h1
    subst h1
    exact cr_bin_bad h h2 hk

def PCR (p m:Nat) (og cf:Value) (c:Cfg) (hf:c.fit):PR where
  ty:=151
  ptr:=.pointer (some ⟨p,0,none⟩)
  fn:=cmpRFn
  σ:=CSt × List UInt8
  Is:=CR p m og cf c
  run:=cmpRd c
  meth:=cmpR_meth p
  ahead:=cmpR_ahead p
  ent:=cmpR_ent
  step:=fun h _ _ _ hs hn=>h.step hs hn
  lt:=fun h=>h.lt
  fits:=cmpRd_fits c
  does:=fun h _ _ hr=>cmpR_does p m og cf c hf h hr
  bfn:=130
  bmeth:=fun k w=>by kernel_rfl
  bahead:=fun k w=>by kernel_rfl
  bent:=fun args w=>by kernel_rfl
  bdoes:=fun h _ hr=>cmpR_doesB h hr

end Go.Proofs.YtmjcnomgpikncaaGreatDoor

namespace Go.Proofs.YtmjcnomgpikncaaGreatDoor

open Go.RowKit Go.Deep



structure SkP (P:PR) where
  fn:FuncId
  meth:∀ (k:Nat) (w:World),(method (k+1) P.ty P.ptr "Skip").run Tryz.prog w=.ok (fn,P.ptr) w
  ahead:∀ (k:Nat) (w:World),(nilAhead (k+1) P.ty P.ptr "Skip").run Tryz.prog w=.ok (some false) w
  ent:∀ (args:Array Value) (w:World),(callFunc fn args).run Tryz.prog w=.ok (.enter fn args) w
  does:∀ (Q:Value→World→Prop) (t:Int) (w:World),Calls Tryz.prog 52 #[ctxV,.iface P.ty P.ptr,.int .u8 t,.int .i64 64] w (fun e w'=>∃ v,e=.returned v∧Q v w')→Calls Tryz.prog fn #[P.ptr,ctxV,.int .u8 t] w (fun e w'=>∃ v,e=.returned v∧Q v w')

set_option maxRecDepth 100000 in
set_option maxHeartbeats 2000000 in
theorem b_skip (p:Nat) (Q:Value→World→Prop) (t:Int) (w:World) (h:Calls Tryz.prog 52 #[ctxV,.iface 155 (.pointer (some ⟨p,0,none⟩)),.int .u8 t,.int .i64 64] w (fun e w'=>∃ v,e=.returned v∧Q v w')) :
    Calls Tryz.prog 227 #[.pointer (some ⟨p,0,none⟩),ctxV,.int .u8 t] w (fun e w'=>∃ v,e=.returned v∧Q v w'):=by
  have H:=Lib.hid h
  clear h
  go_enter Tryz.func227,Tryz.ntmps227
  go_wp2_with (first | (go_at_call 90;go_in) | (go_at_call 52;refine H.out.mono ?_;rintro e w' ⟨v,rfl,hq⟩))
  go_ret
  exact ⟨_,rfl,hq⟩

set_option maxRecDepth 100000 in
set_option maxHeartbeats 2000000 in
theorem c_skip (p:Nat) (Q:Value→World→Prop) (t:Int) (w:World) (h:Calls Tryz.prog 52 #[ctxV,.iface 151 (.pointer (some ⟨p,0,none⟩)),.int .u8 t,.int .i64 64] w (fun e w'=>∃ v,e=.returned v∧Q v w')) :
    Calls Tryz.prog 152 #[.pointer (some ⟨p,0,none⟩),ctxV,.int .u8 t] w (fun e w'=>∃ v,e=.returned v∧Q v w'):=by
  have H:=Lib.hid h
  clear h
  go_enter Tryz.func152,Tryz.ntmps152
  go_wp2_with (first | (go_at_call 90;go_in) | (go_at_call 52;refine H.out.mono ?_;rintro e w' ⟨v,rfl,hq⟩))
  go_ret
  exact ⟨_,rfl,hq⟩

def skB (p m:Nat) (og cf:Value) (c:Cfg) (hf:c.fit):SkP (PBR p m og cf c hf) where
  fn:=227
  meth:=fun k w=>by kernel_rfl
  ahead:=fun k w=>by kernel_rfl
  ent:=fun args w=>by kernel_rfl
  does:=fun Q t w h=>b_skip p Q t w h

def skC (p m:Nat) (og cf:Value) (c:Cfg) (hf:c.fit):SkP (PCR p m og cf c hf) where
  fn:=152
  meth:=fun k w=>by kernel_rfl
  ahead:=fun k w=>by kernel_rfl
  ent:=fun args w=>by kernel_rfl
  does:=fun Q t w h=>c_skip p Q t w h

end Go.Proofs.YtmjcnomgpikncaaGreatDoor
