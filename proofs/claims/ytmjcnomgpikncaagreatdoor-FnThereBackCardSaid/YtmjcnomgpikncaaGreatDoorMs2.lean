/- What is written tells the values. No condition. -/
import Derived.Test.YtmjcnomgpikncaaGreatDoorMs1
import Derived.Test.YtmjcnomgpikncaaGreatDoorMg1
import Derived.Test.YtmjcnomgpikncaaGreatDoorMr
set_option linter.unusedVariables false
set_option linter.unusedSimpArgs false
namespace Go.Proofs.YtmjcnomgpikncaaGreatDoor

open Go.RowKit



structure Codec where
  leaf:Int→Int→List UInt8→List UInt8
  field:Int→Int→Int→Int→List UInt8
  inl:Bool
  coll:Int→Nat→List UInt8
  map:Int→Int→Nat→List UInt8

mutual
def gen (C:Codec):Val→List UInt8
  | ⟨t,n,s,k,e,ids,l⟩ =>
    if t=12 then genF C 0 l ids
    else if t=13 then C.map k e (l.length / 2)++genL C l
    else if t=14∨t=15 then C.coll e l.length++genL C l
    else C.leaf t n (toB s)
def genL (C:Codec):List Val→List UInt8
  | []=>[]
  | v :: l=>gen C v++genL C l
def genF (C:Codec):Int→List Val→List Int→List UInt8
  | _,[],_=>[0]
  | _,_ :: _,[]=>[0]
  | last,v :: l,i :: ids=>C.field last v.f0 (w16 i) v.f1++((if C.inl=true∧v.f0=2 then [] else gen C v)++genF C (w16 i) l ids)
end

def in16 (x:Int):Prop:=-32768≤x∧x < 32768

theorem w16_in (x:Int):in16 (w16 x):=by unfold in16 w16;omega

def isLeaf (t:Int):Prop:=isT t=true∧t≠12∧t≠13∧t≠14∧t≠15

structure Codec.Told (C:Codec):Prop where
  leaf:∀ (t n n':Int) (s s' a b:List UInt8),isLeaf t→s.length≤65536→s'.length≤65536→C.leaf t n s++a=C.leaf t n' s'++b→C.leaf t n s=C.leaf t n' s'∧a=b
  field:∀ (last t t' id id' n n':Int) (a b:List UInt8),in16 last→isT t=true→isT t'=true→in16 id→in16 id'→C.field last t id n++a=C.field last t' id' n'++b→t=t'∧id=id'∧C.field last t id n=C.field last t' id' n'∧a=b
  stop:∀ (last t id n:Int) (a b:List UInt8),isT t=true→in16 id→C.field last t id n++a=0 :: b→False
  coll:∀ (e e':Int) (n n':Nat) (a b:List UInt8),isT e=true→isT e'=true→n≤65536→n'≤65536→C.coll e n++a=C.coll e' n'++b→e=e'∧n=n'∧a=b
  map:∀ (k k' e e':Int) (n n':Nat) (a b:List UInt8),(n≠0→isT k=true∧isT e=true)→(n'≠0→isT k'=true∧isT e'=true)→n≤65536→n'≤65536→C.map k e n++a=C.map k' e' n'++b →
    n=n'∧(n≠0→k=k'∧e=e')∧C.map k e n=C.map k' e' n'∧a=b

theorem right_is {t n k e:Int} {s ids:List Int} {l:List Val} (h:rightV ⟨t,n,s,k,e,ids,l⟩=true):isT t=true∧(t=12→ids.length=l.length∧rightL 12 k e 0 l=true)∧(t=13→l.length % 2=0∧(l.length≠0→isT k=true∧isT e=true)∧rightL 13 k e 0 l=true) ∧
    (t=14∨t=15→isT e=true∧rightL t k e 0 l=true):=by
  simp only [rightV,Bool.and_eq_true,Bool.or_eq_true,Bool.not_eq_true',decide_eq_true_eq,Bool.and_eq_false_iff,decide_eq_false_iff_not] at h
  obtain ⟨⟨⟨hT,h12⟩,h13⟩,hr⟩:=h
  refine ⟨hT,?_,?_,?_⟩
  · rintro rfl
    refine ⟨by omega,?_⟩
    rcases hr with (hr | hr) | hr
    · omega
    · omega
    · exact hr.2
  · rintro rfl
    refine ⟨by omega,?_⟩
    rcases hr with (hr | hr) | hr
    · omega
    · have hl:l=[]:=List.eq_nil_of_length_eq_zero hr.1.1.2
      subst hl
      exact ⟨by simp,by simp [rightL]⟩
    · refine ⟨fun _=>⟨?_,?_⟩,hr.2⟩
      · rcases hr.1.2 with h | h
        · exact absurd rfl h
        · exact h
      · rcases hr.1.1 with h | h
        · omega
        · exact h
  · intro ht
    rcases hr with (hr | hr) | hr
    · omega
    · omega
    · refine ⟨?_,hr.2⟩
      rcases hr.1.1 with h | h
      · omega
      · exact h

theorem right_type {v:Val} (h:rightV v=true):isT v.f0=true:=by
  obtain ⟨t,n,s,k,e,ids,l⟩:=v
  exact (right_is h).1

theorem totL_len:∀ (l:List Val),8 * l.length≤totL l
  | []=>by simp [totL]
  | v :: l=>by have:=totL_len l;simp only [List.length_cons,totL];omega

end Go.Proofs.YtmjcnomgpikncaaGreatDoor

namespace Go.Proofs.YtmjcnomgpikncaaGreatDoor

open Go.RowKit



theorem binAll_cons (b:Bool) (o:WOp) (l:List WOp):binAll b (o :: l)=binO b o++binAll b l:=by simp [binAll]

theorem binAll_append (b:Bool) (l m:List WOp):binAll b (l++m)=binAll b l++binAll b m:=by simp [binAll]

theorem binAll_nil (b:Bool):binAll b []=[]:=rfl

def CB:Codec where
  leaf:=fun t n s =>
    if t=2 then [if n != 0 then 1 else 0] else if t=3 then [u8 (w8 n)] else if t=4 then be 8 ((IntKind.u64.wrap n).toNat:Nat) else if t=6 then be 2 (w16 n) else if t=8 then be 4 (wrap32 n) else if t=10 then be 8 n
    else if t=11 then bText s else u16 s
  field:=fun _ t id _=>u8 t :: be 2 id
  inl:=false
  coll:=fun e n=>u8 e :: be 4 n
  map:=fun k e n=>u8 k :: u8 e :: be 4 n

theorem isT_is {t:Int} (h:isT t=true):t=2∨t=3∨t=4∨t=6∨t=8∨t=10∨t=11∨t=12∨t=13∨t=14∨t=15∨t=16:=by
  have:=of_decide_eq_true h
  omega

theorem isT_lt {t:Int} (h:isT t=true):0≤t∧t < 256:=by have:=isT_is h;omega

mutual
theorem bin_gen (b:Bool):∀ (v:Val),rightV v=true→binAll b (ops v)=gen CB v
  | ⟨t,n,s,k,e,ids,l⟩,h=>by
    obtain ⟨hT,h12,h13,h14⟩:=right_is h
    have hTT:=isT_is hT
    have hm:t % 256=t:=by omega
    simp only [ops,hm,gen,CB]
    by_cases h2:t=2
    · subst h2
      simp [binAll_cons,binAll_nil,binO,binOut]
    by_cases h3:t=3
    · subst h3
      simp [binAll_cons,binAll_nil,binO,binOut]
    by_cases h4:t=4
    · subst h4
      simp [binAll_cons,binAll_nil,binO,binOut]
    by_cases h6:t=6
    · subst h6
      simp [binAll_cons,binAll_nil,binO,binOut]
    by_cases h8:t=8
    · subst h8
      simp [binAll_cons,binAll_nil,binO,binOut]
    by_cases h10:t=10
    · subst h10
      simp [binAll_cons,binAll_nil,binO,binOut]
    by_cases h11:t=11
    · subst h11
      simp [binAll_cons,binAll_nil,binO,binOut]
    by_cases h16:t=16
    · subst h16
      simp [binAll_cons,binAll_nil,binO,binOut,List.take_of_length_le (Nat.le_of_eq (u16_length (toB s)))]
    by_cases g12:t=12
    · subst g12
      have hF:=bin_genF b l 12 k e 0 (h12 rfl).2 0 ids (h12 rfl).1
      simp [binAll_cons,binAll_append,binAll_nil,binO,binOut]
      simpa [CB] using hF
    by_cases g13:t=13
    · subst g13
      have hL:=bin_genL b l 13 k e 0 (h13 rfl).2.2
      have h0:=(h13 rfl).1
      have hl2:l.length / 2 * 2=l.length:=by omega
      have hke:u8 (k % 256)=u8 k∧u8 (e % 256)=u8 e:=by
        unfold u8
        constructor <;> (congr 2;omega)
      simp [binAll_cons,binAll_append,binAll_nil,binO,binOut,hl2,hke.1,hke.2]
      simpa [CB] using hL
    have g14:t=14∨t=15:=by omega
    have hL:=bin_genL b l t k e 0 (h14 g14).2
    have he:u8 (e % 256)=u8 e:=by
      unfold u8
      congr 2;omega
    rcases g14 with rfl | rfl
    · simp [binAll_cons,binAll_append,binAll_nil,binO,binOut,he]
      simpa [CB] using hL
    · simp [binAll_cons,binAll_append,binAll_nil,binO,binOut,he]
      simpa [CB] using hL
theorem bin_genL (b:Bool):∀ (l:List Val) (t k e:Int) (i:Nat),rightL t k e i l=true→binAll b (opsL l l.length)=genL CB l
  | [],t,k,e,i,h=>by simp [opsL,binAll_nil,genL]
  | v :: l,t,k,e,i,h=>by
    simp only [rightL,Bool.and_eq_true] at h
    have h1:=bin_gen b v h.1.2
    have h2:=bin_genL b l t k e (i+1) h.2
    simp only [List.length_cons,opsL,binAll_append,genL,h1,h2]
theorem bin_genF (b:Bool):∀ (l:List Val) (t k e:Int) (i:Nat),rightL t k e i l=true→∀ (last:Int) (ids:List Int),ids.length=l.length→binAll b (opsF l ids)++[0]=genF CB last l ids
  | [],t,k,e,i,h,last,ids,hn=>by simp [opsF,binAll_nil,genF]
  | v :: l,t,k,e,i,h,last,[],hn=>by simp at hn
  | v :: l,t,k,e,i,h,last,x :: ids,hn=>by
    simp only [rightL,Bool.and_eq_true] at h
    simp only [List.length_cons] at hn
    have h1:=bin_gen b v h.1.2
    have h2:=bin_genF b l t k e (i+1) h.2 (w16 x) ids (by omega)
    have ht:=isT_lt (right_type h.1.2)
    have hm:v.f0 % 256=v.f0:=by omega
    simp only [opsF,binAll_cons,binAll_append,genF,binO,binOut,h1,hm,List.append_assoc,List.nil_append,h2]
    simp [CB]
end

end Go.Proofs.YtmjcnomgpikncaaGreatDoor

namespace Go.Proofs.YtmjcnomgpikncaaGreatDoor

open Go.RowKit



def CC:Codec where
  leaf:=fun t n s =>
    if t=2 then [if n != 0 then 1 else 2] else if t=3 then [u8 (w8 n)] else if t=4 then le8 (IntKind.u64.wrap n).toNat else if t=6 then Lib.uvarint (Lib.zigzag (w16 n)) else if t=8 then Lib.uvarint (Lib.zigzag (wrap32 n)) else if t=10 then Lib.uvarint (Lib.zigzag n)
    else if t=11 then cText s else u16 s
  field:=fun last t id n=>cHead last id (if t=2 then (if n != 0 then 1 else 2) else cCode t)
  inl:=true
  coll:=fun e n=>if n≤14 then [(n * 16+cCode e).toUInt8] else (240+cCode e).toUInt8 :: Lib.uvarint n
  map:=fun k e n=>if n=0 then [0] else Lib.uvarint n++[(cCode k * 16+cCode e).toUInt8]

theorem step_c {s s1:CW} {a x:List UInt8} {o:WOp} {l:List WOp} {r:(CW × List UInt8) × Nat} (hs:okW s) (hf:o.fit) (h:cmpRun s o=(s1,x,0)) (hn:runs cmpStep l (s1,a++x)=r):runs cmpStep (o :: l) (s,a)=r:=by
  have hx:cmpO s o=x:=by rw [cmpO_fit s hs o hf,h]
  have e:cmpStep (s,a) o=((s1,a++x),0):=by
    unfold cmpStep
    dsimp only
    rw [hx,h]
  simp only [runs,e,if_true]
  exact hn

theorem w8_fit (n:Int):(WOp.byte (w8 n)).fit:=by show -128≤w8 n∧w8 n < 128;unfold w8;omega

theorem w16_fit (n:Int):(WOp.i16 (w16 n)).fit:=by show -32768≤w16 n∧w16 n < 32768;unfold w16;omega

theorem w32_fit (n:Int):(WOp.i32 (wrap32 n)).fit:=by show -2147483648≤wrap32 n∧wrap32 n < 2147483648;unfold wrap32;omega

theorem u64_fit (n:Int):(WOp.dbl (IntKind.u64.wrap n).toNat).fit:=by show (IntKind.u64.wrap n).toNat < 18446744073709551616;rw [IntKind.wrap_u64];omega

def Kept (s s':CW):Prop:=s'.stk=s.stk∧s'.last=s.last∧s'.pend=false∧okW s'

theorem Kept.refl {s:CW} (h:okW s) (hp:s.pend=false):Kept s s:=⟨rfl,rfl,hp,h⟩

theorem leaf_runs {s:CW} {a x:List UInt8} {o:WOp} (hs:okW s) (hf:o.fit) (h:cmpRun s o=(s,x,0)) (hp:s.pend=false):∃ s',runs cmpStep [o] (s,a)=((s',a++x),0)∧Kept s s' :=
  ⟨s,step_c hs hf h (by simp [runs]),.refl hs hp⟩

mutual
theorem cmp_gen:∀ (v:Val),rightV v=true→wfV v→tot v≤65536→∀ (s:CW) (a:List UInt8),okW s→s.pend=false→∃ s',runs cmpStep (ops v) (s,a)=((s',a++gen CC v),0)∧Kept s s'
 | ⟨t,n,x,k,e,ids,l⟩,h,hw,htot,s,a,hs,hp=>by
  obtain ⟨hT,h12,h13,h14⟩:=right_is h
  have hTT:=isT_is hT
  have hm:t % 256=t:=by omega
  simp only [wfV] at hw
  simp only [tot] at htot
  have hll:=totL_len l
  simp only [ops,hm,gen]
  by_cases h2:t=2
  · subst h2
    exact leaf_runs hs trivial (by simp [cmpRun,hp,CC]) hp
  by_cases h3:t=3
  · subst h3
    exact leaf_runs hs (w8_fit n) (by simp [cmpRun,CC]) hp
  by_cases h4:t=4
  · subst h4
    exact leaf_runs hs (u64_fit n) (by simp [cmpRun,CC]) hp
  by_cases h6:t=6
  · subst h6
    exact leaf_runs hs (w16_fit n) (by simp [cmpRun,CC]) hp
  by_cases h8:t=8
  · subst h8
    exact leaf_runs hs (w32_fit n) (by simp [cmpRun,CC]) hp
  by_cases h10:t=10
  · subst h10
    exact leaf_runs hs (show -9223372036854775808≤n∧n < 9223372036854775808 from hw.2.1) (by simp [cmpRun,CC]) hp
  by_cases h11:t=11
  · subst h11
    exact leaf_runs hs (show (toB x).length≤2147483647 by rw [toB_len];omega) (by simp [cmpRun,CC]) hp
  by_cases h16:t=16
  · subst h16
    exact leaf_runs hs (show (u16 (toB x)).length=16 from u16_length _) (by simp [cmpRun,CC]) hp
  by_cases g12:t=12
  · subst g12
    have ok1:=okW_run s hs .strB trivial
    have e1:cmpRun s .strB=({ s with stk:=s.stk++[s.last],last:=0 },[],0):=rfl
    rw [e1] at ok1
    obtain ⟨s2,r2,k1,k2,k3⟩:=cmp_genF l 12 k e 0 (h12 rfl).2 hw.2.2.2.2.2.2.2 (by omega) { s with stk:=s.stk++[s.last],last:=0 } (a++[]) ids (h12 rfl).1 ok1 hp
    have e2:cmpRun s2 .strE=({ s2 with stk:=s.stk,last:=s.last },[],0):=by
     simp [cmpRun,k1]
    have ok2:=okW_run s2 k3 .strE trivial
    rw [e2] at ok2
    refine ⟨{ s2 with stk:=s.stk,last:=s.last },?_,rfl,rfl,k2,ok2⟩
    simp only [show ¬ (12:Int)=2 by decide,show ¬ (12:Int)=3 by decide,show ¬ (12:Int)=4 by decide,show ¬ (12:Int)=6 by decide,show ¬ (12:Int)=8 by decide,show ¬ (12:Int)=10 by decide,show ¬ (12:Int)=11 by decide,show ¬ (12:Int)=16 by decide,if_false,if_true]
    refine step_c hs trivial e1 ?_
    rw [show opsF l ids++[WOp.stop,WOp.strE]=(opsF l ids++[WOp.stop])++[WOp.strE] by simp,runs_go cmpStep _ _ _ _ r2]
    refine step_c k3 trivial e2 ?_
    simp [runs]
  have ok0:=hs
  by_cases g13:t=13
  · subst g13
    obtain ⟨q1,q2,q3⟩:=h13 rfl
    have hl2:l.length / 2 * 2=l.length:=by omega
    have hn1:((((l.length / 2:Nat):Int)) % 4294967296).toNat=l.length / 2:=by omega
    have hcast:((l.length:Int) / 2)=((l.length / 2:Nat):Int):=by omega
    have e1:cmpRun s (.mapB (k % 256) (e % 256) ((l.length:Int) / 2))=(s,CC.map k e (l.length / 2),0):=by
     rw [hcast]
     simp only [cmpRun,CC,hn1]
     by_cases h0:l.length / 2=0
     · simp [h0]
     · have hk:=isT_lt (q2 (by omega)).1
       have he:=isT_lt (q2 (by omega)).2
       have hn0:¬ ((l.length / 2:Nat):Int)=0:=by omega
       rw [if_neg hn0,if_neg h0,show k % 256=k by omega,show e % 256=e by omega]
    have hf1:(WOp.mapB (k % 256) (e % 256) ((l.length:Int) / 2)).fit:=by
     show (0≤k % 256∧k % 256 < 256)∧(0≤e % 256∧e % 256 < 256)∧_≤((l.length:Int) / 2)∧_
     omega
    obtain ⟨s2,r2,k1⟩:=cmp_genL l 13 k e 0 q3 hw.2.2.2.2.2.2.2 (by omega) s (a++CC.map k e (l.length / 2)) hs hp
    refine ⟨s2,?_,k1⟩
    simp only [show ¬ (13:Int)=2 by decide,show ¬ (13:Int)=3 by decide,show ¬ (13:Int)=4 by decide,show ¬ (13:Int)=6 by decide,show ¬ (13:Int)=8 by decide,show ¬ (13:Int)=10 by decide,show ¬ (13:Int)=11 by decide,show ¬ (13:Int)=16 by decide,show ¬ (13:Int)=12 by decide,if_false,if_true,hl2]
    refine step_c hs hf1 e1 ?_
    rw [runs_go cmpStep _ _ _ _ r2]
    refine step_c k1.2.2.2 trivial (s1:=s2) (x:=[]) rfl ?_
    simp [runs,List.append_assoc]
  have g14:t=14∨t=15:=by omega
  obtain ⟨q1,q2⟩:=h14 g14
  have hn1:((l.length:Int) % 4294967296).toNat=l.length:=by omega
  have he:=isT_lt q1
  have hn2:((l.length:Int) % 16).toNat=l.length % 16:=by omega
  have hcol:(if ((l.length:Nat):Int)≤14 then [(((l.length:Int) % 16).toNat * 16+cCode (e % 256)).toUInt8] else (240+cCode (e % 256)).toUInt8 :: Lib.uvarint ((l.length:Int) % 4294967296).toNat)=CC.coll e l.length:=by
   simp only [CC,hn1,hn2,show e % 256=e by omega]
   by_cases h0:l.length≤14
   · rw [if_pos (by omega),if_pos h0,show l.length % 16=l.length by omega]
   · rw [if_neg (by omega),if_neg h0]
  obtain ⟨s2,r2,k1⟩:=cmp_genL l t k e 0 q2 hw.2.2.2.2.2.2.2 (by omega) s (a++CC.coll e l.length) hs hp
  refine ⟨s2,?_,k1⟩
  rcases g14 with rfl | rfl
  · have e1:cmpRun s (.setB (e % 256) l.length)=(s,CC.coll e l.length,0):=by rw [← hcol];rfl
    have hf1:(WOp.setB (e % 256) l.length).fit:=by
     show (0≤e % 256∧e % 256 < 256)∧_≤(l.length:Int)∧_
     omega
    simp only [show ¬ (14:Int)=2 by decide,show ¬ (14:Int)=3 by decide,show ¬ (14:Int)=4 by decide,show ¬ (14:Int)=6 by decide,show ¬ (14:Int)=8 by decide,show ¬ (14:Int)=10 by decide,show ¬ (14:Int)=11 by decide,show ¬ (14:Int)=16 by decide,show ¬ (14:Int)=12 by decide,show ¬ (14:Int)=13 by decide,if_false,if_true,true_or]
    refine step_c hs hf1 e1 ?_
    rw [runs_go cmpStep _ _ _ _ r2]
    refine step_c k1.2.2.2 trivial (s1:=s2) (x:=[]) rfl ?_
    simp [runs,List.append_assoc]
  · have e1:cmpRun s (.lstB (e % 256) l.length)=(s,CC.coll e l.length,0):=by rw [← hcol];rfl
    have hf1:(WOp.lstB (e % 256) l.length).fit:=by
     show (0≤e % 256∧e % 256 < 256)∧_≤(l.length:Int)∧_
     omega
    simp only [show ¬ (15:Int)=2 by decide,show ¬ (15:Int)=3 by decide,show ¬ (15:Int)=4 by decide,show ¬ (15:Int)=6 by decide,show ¬ (15:Int)=8 by decide,show ¬ (15:Int)=10 by decide,show ¬ (15:Int)=11 by decide,show ¬ (15:Int)=16 by decide,show ¬ (15:Int)=12 by decide,show ¬ (15:Int)=13 by decide,show ¬ (15:Int)=14 by decide,if_false,if_true,or_true]
    refine step_c hs hf1 e1 ?_
    rw [runs_go cmpStep _ _ _ _ r2]
    refine step_c k1.2.2.2 trivial (s1:=s2) (x:=[]) rfl ?_
    simp [runs,List.append_assoc]
theorem cmp_genL:∀ (l:List Val) (t k e:Int) (i:Nat),rightL t k e i l=true→wfL l→totL l≤65536→∀ (s:CW) (a:List UInt8),okW s→s.pend=false→∃ s',runs cmpStep (opsL l l.length) (s,a)=((s',a++genL CC l),0)∧Kept s s'
  | [],t,k,e,i,h,hw,htot,s,a,hs,hp=>⟨s,by simp [opsL,runs,genL],.refl hs hp⟩
  | v :: l,t,k,e,i,h,hw,htot,s,a,hs,hp=>by
    simp only [rightL,Bool.and_eq_true] at h
    simp only [wfL] at hw
    simp only [totL] at htot
    obtain ⟨s1,r1,k1,k2,k3,k4⟩:=cmp_gen v h.1.2 hw.1 (by omega) s a hs hp
    obtain ⟨s2,r2,j1,j2,j3,j4⟩:=cmp_genL l t k e (i+1) h.2 hw.2 (by omega) s1 (a++gen CC v) k4 k3
    refine ⟨s2,?_,j1.trans k1,j2.trans k2,j3,j4⟩
    simp only [List.length_cons,opsL,genL]
    rw [runs_go cmpStep _ _ _ _ r1,r2,List.append_assoc]
theorem cmp_genF:∀ (l:List Val) (t k e:Int) (i:Nat),rightL t k e i l=true→wfL l→totL l≤65536→∀ (s:CW) (a:List UInt8) (ids:List Int),ids.length=l.length→okW s→s.pend=false→∃ s',runs cmpStep (opsF l ids++[.stop]) (s,a)=((s',a++genF CC s.last l ids),0)∧s'.stk=s.stk∧s'.pend=false∧okW s'
  | [],t,k,e,i,h,hw,htot,s,a,ids,hn,hs,hp=>by
    refine ⟨s,?_,rfl,hp,hs⟩
    simp only [opsF,List.nil_append,genF]
    exact step_c hs trivial (s1:=s) (x:=[0]) rfl (by simp [runs])
  | v :: l,t,k,e,i,h,hw,htot,s,a,[],hn,hs,hp=>by simp at hn
  | v :: l,t,k,e,i,h,hw,htot,s,a,x :: ids,hn,hs,hp=>by
    simp only [rightL,Bool.and_eq_true] at h
    simp only [wfL] at hw
    simp only [totL] at htot
    simp only [List.length_cons] at hn
    have hT:=right_type h.1.2
    have hm:v.f0 % 256=v.f0:=by have:=isT_lt hT;omega
    have h16:=w16_in x
    have hff:(WOp.fldB v.f0 (w16 x)).fit:=⟨isT_lt hT,h16⟩
    have ok1:=okW_run s hs (.fldB v.f0 (w16 x)) hff
    simp only [opsF,genF,hm]
    by_cases hb:v.f0=2
    · obtain ⟨t',n',x',k',e',ids',l'⟩:=v
      dsimp only at hb
      subst hb
      have e1:cmpRun s (.fldB 2 (w16 x))=({ s with pend:=true,pid:=w16 x },[],0):=rfl
      dsimp only at ok1 hff
      rw [e1] at ok1
      have ho:ops ⟨2,n',x',k',e',ids',l'⟩=[.bool (n' != 0)]:=by simp [ops]
      have e2:cmpRun { s with pend:=true,pid:=w16 x } (.bool (n' != 0))=(({ s with last:=w16 x,pend:=false,pid:=w16 x }:CW),CC.field s.last 2 (w16 x) n',0):=by
        simp [cmpRun,CC]
      have ok2:=okW_run _ ok1 (.bool (n' != 0)) trivial
      rw [e2] at ok2
      obtain ⟨s3,r3,j1,j2,j3⟩:=cmp_genF l t k e (i+1) h.2 hw.2 (by omega) { s with last:=w16 x,pend:=false,pid:=w16 x } (a++CC.field s.last 2 (w16 x) n') ids (by omega) ok2 rfl
      refine ⟨s3,?_,j1,j2,j3⟩
      rw [ho]
      simp only [List.cons_append,List.nil_append]
      refine step_c hs hff e1 ?_
      rw [List.append_nil]
      refine step_c ok1 trivial e2 ?_
      refine step_c ok2 trivial (o:=.fldE) (s1:={ s with last:=w16 x,pend:=false,pid:=w16 x }) (x:=[]) rfl ?_
      rw [List.append_nil,r3]
      simp [CC,List.append_assoc]
    · have e1:cmpRun s (.fldB v.f0 (w16 x))=({ s with last:=w16 x },CC.field s.last v.f0 (w16 x) v.f1,0):=by
        simp [cmpRun,hb,CC]
      rw [e1] at ok1
      obtain ⟨s2,r2,k1,k2,k3,k4⟩:=cmp_gen v h.1.2 hw.1 (by omega) { s with last:=w16 x } (a++CC.field s.last v.f0 (w16 x) v.f1) ok1 hp
      obtain ⟨s3,r3,j1,j2,j3⟩:=cmp_genF l t k e (i+1) h.2 hw.2 (by omega) s2 (a++CC.field s.last v.f0 (w16 x) v.f1++gen CC v) ids (by omega) k4 k3
      refine ⟨s3,?_,j1.trans k1,j2,j3⟩
      simp only [List.cons_append,List.append_assoc]
      refine step_c hs hff e1 ?_
      rw [runs_go cmpStep _ _ _ _ r2]
      refine step_c k4 trivial (o:=.fldE) (s1:=s2) (x:=[]) rfl ?_
      rw [List.append_nil,r3,k2]
      have hi:¬ (CC.inl=true∧v.f0=2):=fun hh=>hb hh.2
      rw [if_neg hi]
      simp only [List.append_assoc]
end

end Go.Proofs.YtmjcnomgpikncaaGreatDoor

namespace Go.Proofs.YtmjcnomgpikncaaGreatDoor

open Go.RowKit



def codec (proto:Int):Codec:=if proto=1 then CC else CB

theorem enc_right (proto:Int) (c:Cfg) (V:Val) (h:rightV V=true) (hw:wfV V) (ht:tot V≤65536):encC proto c (ops V)=(gen (codec proto) V,0):=by
  unfold encC codec
  by_cases hp:proto=1
  · rw [if_pos hp,if_pos hp]
    obtain ⟨s',r,-⟩:=cmp_gen V h hw ht CW0 [] okW_0 rfl
    rw [r]
    rfl
  · rw [if_neg hp,if_neg hp,bin_gen _ V h]

theorem genF_pos (C:Codec):∀ (l:List Val) (last:Int) (ids:List Int),1≤(genF C last l ids).length
  | [],last,ids=>by simp [genF]
  | v :: l,last,[]=>by simp [genF]
  | v :: l,last,x :: ids=>by
    have:=genF_pos C l (w16 x) ids
    simp only [genF,List.length_append]
    omega

def leastOf (proto t:Int):Int :=
  if proto=1 then (if t=4 then 8 else if t=16 then 16 else 1)
  else if t=4∨t=10 then 8 else if t=6 then 2 else if t=8∨t=11∨t=13∨t=14∨t=15 then 4 else if t=16 then 16 else 1

theorem leastOf_pos (proto t:Int):0≤leastOf proto t∧leastOf proto t≤16:=by
  unfold leastOf
  (repeat' split) <;> omega

theorem gen_least (proto:Int) (V:Val) (h:rightV V=true):leastOf proto V.f0≤((gen (codec proto) V).length:Int):=by
  obtain ⟨t,n,s,k,e,ids,l⟩:=V
  have hT:=isT_is (right_type h)
  dsimp only at hT ⊢
  have hF:=genF_pos (codec proto) l 0 ids
  by_cases hp:proto=1
  · have hc:codec proto=CC:=if_pos hp
    rw [hc] at hF ⊢
    rcases hT with rfl | rfl | rfl | rfl | rfl | rfl | rfl | rfl | rfl | rfl | rfl | rfl
    all_goals simp only [leastOf,if_pos hp,gen,CC,cText,le8]
    all_goals simp [Lib.leBytes_length,u16_length]
    all_goals first
      | exact Int.ofNat_le.2 (genF_pos _ l 0 ids)
      | omega
      | (have:=Lib.uvarint_pos (Lib.zigzag (w16 n));omega)
      | (have:=Lib.uvarint_pos (Lib.zigzag (wrap32 n));omega)
      | (have:=Lib.uvarint_pos (Lib.zigzag n);omega)
      | (have:=Lib.uvarint_pos (toB s).length;omega)
      | (split <;> simp <;> omega)
      | skip
  · have hc:codec proto=CB:=if_neg hp
    rw [hc] at hF ⊢
    rcases hT with rfl | rfl | rfl | rfl | rfl | rfl | rfl | rfl | rfl | rfl | rfl | rfl
    all_goals simp only [leastOf,if_neg hp,gen,CB,bText]
    all_goals simp [be_length,u16_length]
    all_goals first
      | exact Int.ofNat_le.2 (genF_pos _ l 0 ids)
      | omega
      | (split <;> simp <;> omega)
      | skip

end Go.Proofs.YtmjcnomgpikncaaGreatDoor

namespace Go.Proofs.YtmjcnomgpikncaaGreatDoor

open Go.RowKit Go.Deep



theorem leastOf_one (proto t:Int):1≤leastOf proto t:=by
  unfold leastOf
  (repeat' split) <;> omega

theorem xs_pos {proto:Int} {V:Val} (hV:rightV V=true) {xs:List Int} {r:List UInt8} (hx:toB xs=gen (codec proto) V++r):1≤xs.length:=by
  have h1:=gen_least proto V hV
  have h2:=leastOf_one proto V.f0
  have h3:=congrArg List.length hx
  rw [List.length_append] at h3
  have h4:(toB xs).length=xs.length:=by simp [toB]
  omega

end Go.Proofs.YtmjcnomgpikncaaGreatDoor
