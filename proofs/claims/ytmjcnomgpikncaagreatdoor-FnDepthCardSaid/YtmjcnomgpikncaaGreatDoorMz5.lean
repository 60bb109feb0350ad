/- Values that are too deep; values are skipped: plain. No condition. -/
import Derived.Test.YtmjcnomgpikncaaGreatDoorMz1
set_option linter.unusedVariables false
set_option linter.unusedSimpArgs false
namespace Go.Proofs.YtmjcnomgpikncaaGreatDoor

open Go.RowKit Go.Deep



section

variable {C:Codec} {lst:Int→Int} {run:(CSt × List UInt8)→ROp→Option (RGot × Nat × (CSt × List UInt8))} (B:Back C lst run)

mutual
theorem deepBack:∀ (V:Val),rightV V=true→wfV V→tot V≤65536→∀ (f:Nat) (D:Int) (stk:List Int) (last:Int) (st:CSt),tot V < f→D < (deepV V:Int)→stk.length+tot V≤1000000→B.Q stk last st →
    ∀ r,∃ v s',getV run f D V.f0 (st,gen C V++r)=some (v,50,s')
  | ⟨t,n,s,k,e,ids,l⟩,hV,hw,ht,0,D,stk,last,st,hf,hD,hs,hQ,r=>by omega
  | ⟨t,n,s,k,e,ids,l⟩,hV,hw,ht,f+1,D,stk,last,st,hf,hD,hs,hQ,r=>by
    by_cases hD0:D≤0
    · exact ⟨_,_,by rw [getV,if_pos hD0]⟩
    obtain ⟨hT,v12,v13,v14⟩:=right_is hV
    simp only [tot] at ht hf hs
    simp only [wfV] at hw
    have hll:=totL_len l
    have h1215:12≤t∧t≤15:=by
      simp only [deepV] at hD
      by_cases h:12≤t∧t≤15
      · exact h
      · rw [if_neg h] at hD;omega
    have hD1:D - 1 < (deepL l:Int):=by
      simp only [deepV,if_pos h1215] at hD
      omega
    by_cases h12:t=12
    · subst h12
      obtain ⟨hn,hR⟩:=v12 rfl
      obtain ⟨st1,hQ1,he1⟩:=B.enter hQ (by omega)
      obtain ⟨v,s',hF⟩:=deepBackF l 12 k e 0 hR hw.2.2.2.2.2.2.2 (by omega) f f (D - 1) (last :: stk) 0 st1 ids hn (by omega) (by omega) hD1 (by omega) (by simp only [List.length_cons];omega) ⟨by decide,by decide⟩ hQ1 r [] []
      refine ⟨v,s',?_⟩
      rw [getV,if_neg hD0,rop_none (.inl rfl)]
      simp only [if_true]
      rw [he1,Option.bind_some]
      simp only [if_true]
      rw [gen,if_pos rfl,hF]
    by_cases h13:t=13
    · subst h13
      obtain ⟨q1,q2,q3⟩:=v13 rfl
      have e1:¬ (13:Int)=12:=by decide
      have hl0:l≠[]:=by rintro rfl;simp [deepL] at hD1;omega
      have hl1:l.length≠0:=fun h=>hl0 (List.eq_nil_of_length_eq_zero h)
      obtain ⟨v,s',hL⟩:=deepBackL l 13 k e 0 q3 hw.2.2.2.2.2.2.2 (by omega) f (D - 1) stk last st (by omega) hD1 (by omega) (by omega) hQ r []
      have hlm:=least_map B.least (l.length / 2) (l:=l) (i:=0) (by omega) (by omega) q3
      obtain ⟨g,g1,g2,g3,g4⟩:=B.map hQ k e (l.length / 2) (genL C l++r) (.inl (q2 hl1)) (by omega) (by rw [List.length_append];omega)
      have hty:=types_map (l.length / 2) (l:=l) (i:=0) (by omega) (by omega) q3
      have hpp:pairs g.k g.t (l.length / 2)=l.map Val.f0:=by
        rw [hty,g1,g2,if_neg (fun hh=>by omega),if_neg (fun hh=>by omega)]
      refine ⟨⟨13,0,[],g.k,g.t,[],v⟩,s',?_⟩
      rw [getV,if_neg hD0,rop_none (.inr (.inl rfl))]
      simp only [if_neg e1,if_true]
      rw [gen,if_neg e1,if_pos rfl,List.append_assoc,getMap,g4,Option.bind_some]
      simp only [if_true]
      rw [g3,if_neg (by omega),Int.toNat_natCast,hpp,hL,Option.bind_some]
      rfl
    have h14:t=14∨t=15:=by omega
    obtain ⟨q1,q2⟩:=v14 h14
    obtain ⟨v,s',hL⟩:=deepBackL l t k e 0 q2 hw.2.2.2.2.2.2.2 (by omega) f (D - 1) stk last st (by omega) hD1 (by omega) (by omega) hQ r []
    have hlm:=least_lst B.least (t:=t) (k:=k) (e:=e) h13 h12 q2
    have hty:=types_lst (t:=t) (k:=k) (e:=e) h13 h12 q2
    rw [hty] at hL
    have key:∀ ob oe:ROp,(ob=.lstB∨ob=.setB)→getList run (getV run f (D - 1)) t ob oe (st,C.coll e l.length++(genL C l++r))=some (⟨t,0,[],0,e,[],v⟩,50,s'):=fun ob oe ho=>by
      obtain ⟨g,g1,g2,g3⟩:=B.coll hQ e l.length ob (genL C l++r) ho q1 (by omega) (by rw [List.length_append];omega)
      rw [getList,g3,Option.bind_some]
      simp only [if_true]
      rw [g2,if_neg (by omega),Int.toNat_natCast,g1,hL,Option.bind_some]
      rfl
    refine ⟨⟨t,0,[],0,e,[],v⟩,s',?_⟩
    rw [getV,if_neg hD0,rop_none (.inr (.inr h14))]
    simp only [if_neg h12,if_neg h13]
    rw [gen,if_neg h12,if_neg h13,if_pos h14,List.append_assoc]
    rcases h14 with rfl | rfl
    · simp only [if_true]
      exact key .setB .setE (.inr rfl)
    · simp only [if_true,show ¬ (15:Int)=14 by decide,if_false]
      exact key .lstB .lstE (.inl rfl)
theorem deepBackL:∀ (l:List Val) (t k e:Int) (i:Nat),rightL t k e i l=true→wfL l→totL l≤65536→∀ (f:Nat) (D:Int) (stk:List Int) (last:Int) (st:CSt),totL l < f→D < (deepL l:Int)→0≤D→stk.length+totL l≤1000000→B.Q stk last st →
    ∀ r acc,∃ v s',getL (getV run f D) (l.map Val.f0) acc (st,genL C l++r)=some (v,50,s')
  | [],t,k,e,i,hr,hw,ht,f,D,stk,last,st,hf,hD,hp,hs,hQ,r,acc=>by
    simp only [deepL] at hD
    omega
  | v :: l,t,k,e,i,hr,hw,ht,f,D,stk,last,st,hf,hD,hp,hs,hQ,r,acc=>by
    simp only [rightL,Bool.and_eq_true] at hr
    simp only [totL] at ht hf hs
    simp only [wfL] at hw
    simp only [deepL] at hD
    by_cases h1:D < (deepV v:Int)
    · obtain ⟨x,s',h2⟩:=deepBack v hr.1.2 hw.1 (by omega) f D stk last st (by omega) h1 (by omega) hQ (genL C l++r)
      exact ⟨_,_,by rw [List.map_cons,getL,genL,List.append_assoc,h2,Option.bind_some];rfl⟩
    · obtain ⟨st1,hQ1,h2⟩:=back B v hr.1.2 hw.1 (by omega) f D stk last st (by omega) (by omega) (by omega) hQ
      obtain ⟨x,s',h3⟩:=deepBackL l t k e (i+1) hr.2 hw.2 (by omega) f D stk last st1 (by omega) (by omega) hp (by omega) hQ1 r (acc++[plV C.inl v])
      refine ⟨x,s',?_⟩
      rw [List.map_cons,getL,genL,List.append_assoc,h2,Option.bind_some]
      simp only [if_true]
      exact h3
theorem deepBackF:∀ (l:List Val) (t k e:Int) (i:Nat),rightL t k e i l=true→wfL l→totL l≤65536→∀ (f g:Nat) (D:Int) (stk:List Int) (last:Int) (st:CSt) (ids:List Int),ids.length=l.length→totL l < f→l.length < g→D < (deepL l:Int)→0≤D→stk.length+totL l≤1000000→in16 last→B.Q stk last st →
 ∀ r is acc,∃ v s',getF run (getV run f D) g is acc (st,genF C last l ids++r)=some (v,50,s')
 | l,t,k,e,i,hr,hw,ht,f,0,D,stk,last,st,ids,hn,hf,hg,hD,hp,hs,h0,hQ,r,is,acc=>by omega
 | [],t,k,e,i,hr,hw,ht,f,g+1,D,stk,last,st,ids,hn,hf,hg,hD,hp,hs,h0,hQ,r,is,acc=>by
  simp only [deepL] at hD
  omega
 | v :: l,t,k,e,i,hr,hw,ht,f,g+1,D,stk,last,st,[],hn,hf,hg,hD,hp,hs,h0,hQ,r,is,acc=>by simp at hn
 | v :: l,t,k,e,i,hr,hw,ht,f,g+1,D,stk,last,st,x :: ids,hn,hf,hg,hD,hp,hs,h0,hQ,r,is,acc=>by
  simp only [rightL,Bool.and_eq_true] at hr
  simp only [totL] at ht hf hs
  simp only [wfL] at hw
  simp only [deepL] at hD
  simp only [List.length_cons] at hn hg
  have hT:=right_type hr.1.2
  have hT0:¬ v.f0=0:=by have:=isT_is hT;omega
  have h16:=w16_in x
  by_cases hb:C.inl=true∧v.f0=2
  · obtain ⟨st1,st2,hQ2,h1⟩:=B.fieldB hb.1 hQ (w16 x) v.f1 h16 h0
    obtain ⟨⟨gg,g1,g2,g3⟩,g4⟩:=h1 (genF C (w16 x) l ids++r)
    obtain ⟨f,rfl⟩:∃ f',f=f'+1:=⟨f - 1,by omega⟩
    by_cases hDD:D≤0
    · refine ⟨⟨12,0,[],0,0,is++[w16 x],acc++[⟨2,0,[],0,0,[],[]⟩]⟩,(st1,genF C (w16 x) l ids++r),?_⟩
      rw [getF,genF,if_pos hb,List.nil_append,List.append_assoc,hb.2,g3,Option.bind_some]
      simp only [if_true,g1,g2,show ¬ (2:Int)=0 by decide,if_false]
      rw [getV,if_pos hDD,Option.bind_some]
      rfl
    · have hd1:deepV v=1:=by
       obtain ⟨t',n',s',k',e',ids',l'⟩:=v
       have ht2:t'=2:=hb.2
       subst ht2
       simp [deepV]
      obtain ⟨y,s',h3⟩:=deepBackF l t k e (i+1) hr.2 hw.2 (by omega) (f+1) g D stk (w16 x) st2 ids (by omega) (by omega) (by omega) (by omega) hp (by omega) h16 hQ2 r (is++[w16 x]) (acc++[plV C.inl v])
      refine ⟨y,s',?_⟩
      have hv:getV run (f+1) D 2 (st1,genF C (w16 x) l ids++r)=some (plV C.inl v,0,(st2,genF C (w16 x) l ids++r)):=by
       obtain ⟨t',n',s',k',e',ids',l'⟩:=v
       have ht2:t'=2:=hb.2
       subst ht2
       rw [getV,if_neg hDD]
       show (run (st1,_) .bool).map _=_
       rw [g4,Option.map_some]
       simp [plV,txtO,ints]
      rw [getF,genF,if_pos hb,List.nil_append,List.append_assoc,hb.2,g3,Option.bind_some]
      simp only [if_true,g1,g2,show ¬ (2:Int)=0 by decide,if_false]
      rw [hv,Option.bind_some]
      simp only [if_true]
      rw [B.ends _ .fldE (by simp),Option.bind_some]
      simp only [if_true]
      exact h3
  · obtain ⟨st1,hQ1,h1⟩:=B.field hQ v.f0 (w16 x) v.f1 hT h16 h0 hb
    obtain ⟨gg,g1,g2,g3⟩:=h1 (gen C v++(genF C (w16 x) l ids++r))
    by_cases hDv:D < (deepV v:Int)
    · obtain ⟨y,s',h3⟩:=deepBack v hr.1.2 hw.1 (by omega) f D stk (w16 x) st1 (by omega) hDv (by omega) hQ1 (genF C (w16 x) l ids++r)
      refine ⟨⟨12,0,[],0,0,is++[w16 x],acc++[y]⟩,s',?_⟩
      rw [getF,genF,if_neg hb,List.append_assoc,List.append_assoc,g3,Option.bind_some]
      simp only [if_true,g1,g2,hT0,if_false]
      rw [h3,Option.bind_some]
      rfl
    · obtain ⟨st2,hQ2,h2⟩:=back B v hr.1.2 hw.1 (by omega) f D stk (w16 x) st1 (by omega) (by omega) (by omega) hQ1
      obtain ⟨y,s',h3⟩:=deepBackF l t k e (i+1) hr.2 hw.2 (by omega) f g D stk (w16 x) st2 ids (by omega) (by omega) (by omega) (by omega) hp (by omega) h16 hQ2 r (is++[w16 x]) (acc++[plV C.inl v])
      refine ⟨y,s',?_⟩
      rw [getF,genF,if_neg hb,List.append_assoc,List.append_assoc,g3,Option.bind_some]
      simp only [if_true,g1,g2,hT0,if_false]
      rw [h2,Option.bind_some]
      simp only [if_true]
      rw [B.ends _ .fldE (by simp),Option.bind_some]
      simp only [if_true]
      exact h3
end

end

end Go.Proofs.YtmjcnomgpikncaaGreatDoor

namespace Go.Proofs.YtmjcnomgpikncaaGreatDoor

open Go.RowKit Go.Deep



section

variable {σ:Type} (run:σ→ROp→Option (RGot × Nat × σ))

def skipL (sv:Int→σ→Option (Nat × σ)):List Int→σ→Option (Nat × σ)
  | [],s=>some (0,s)
  | t :: ts,s=>(sv t s).bind fun r=>if r.1=0 then skipL sv ts r.2 else some r

def skipF (sv:Int→σ→Option (Nat × σ)):Nat→σ→Option (Nat × σ)
  | 0,_=>none
  | f+1,s=>(run s .fldB).bind fun a =>
      if a.2.1=0 then
        if a.1.t=0 then (run a.2.2 .strE).map fun b=>(b.2.1,b.2.2)
        else (sv a.1.t a.2.2).bind fun r=>if r.1=0 then (run r.2 .fldE).bind fun b=>skipF sv f b.2.2 else some r
      else some (a.2.1,a.2.2)

def skipV:Nat→Int→Int→σ→Option (Nat × σ)
  | 0,_,_,_=>none
  | f+1,deep,t,s =>
    if deep≤0 then some (16,s)
    else match ropOf t with
      | some o=>(run s o).map fun a=>(a.2.1,a.2.2)
      | none =>
        if t=12 then (run s .strB).bind fun a=>if a.2.1=0 then skipF run (skipV f (deep - 1)) f a.2.2 else some (a.2.1,a.2.2)
        else if t=13 then (run s .mapB).bind fun a=>if a.2.1=0 then (skipL (skipV f (deep - 1)) (pairs a.1.k a.1.t a.1.size.toNat) a.2.2).bind fun r=>if r.1=0 then (run r.2 .mapE).map fun b=>(b.2.1,b.2.2) else some r else some (a.2.1,a.2.2)
        else if t=14 then (run s .setB).bind fun a=>if a.2.1=0 then (skipL (skipV f (deep - 1)) (List.replicate a.1.size.toNat a.1.t) a.2.2).bind fun r=>if r.1=0 then (run r.2 .setE).map fun b=>(b.2.1,b.2.2) else some r else some (a.2.1,a.2.2)
        else if t=15 then (run s .lstB).bind fun a=>if a.2.1=0 then (skipL (skipV f (deep - 1)) (List.replicate a.1.size.toNat a.1.t) a.2.2).bind fun r=>if r.1=0 then (run r.2 .lstE).map fun b=>(b.2.1,b.2.2) else some r else some (a.2.1,a.2.2)
        else some (11,s)

end

section

variable {C:Codec} {lst:Int→Int} {run:(CSt × List UInt8)→ROp→Option (RGot × Nat × (CSt × List UInt8))} (B:Back C lst run)

def Skips (Q:CSt→Prop) (D d:Int) (r:List UInt8) (x:Option (Nat × (CSt × List UInt8))):Prop :=
  (d≤D→∃ st',Q st'∧x=some (0,(st',r)))∧(D < d→∃ s',x=some (16,s'))

mutual
theorem skipBack:∀ (V:Val),rightV V=true→wfV V→tot V≤65536→∀ (f:Nat) (D:Int) (stk:List Int) (last:Int) (st:CSt),tot V < f→stk.length+tot V≤1000000→B.Q stk last st →
 ∀ r,Skips (B.Q stk last) D (deepV V) r (skipV run f D V.f0 (st,gen C V++r))
 | ⟨t,n,s,k,e,ids,l⟩,hV,hw,ht,0,D,stk,last,st,hf,hs,hQ,r=>by omega
 | ⟨t,n,s,k,e,ids,l⟩,hV,hw,ht,f+1,D,stk,last,st,hf,hs,hQ,r=>by
  by_cases hD0:D≤0
  · refine ⟨fun h=>by simp only [deepV] at h;omega,fun _=>⟨(st,gen C ⟨t,n,s,k,e,ids,l⟩++r),by rw [skipV,if_pos hD0]⟩⟩
  obtain ⟨hT,v12,v13,v14⟩:=right_is hV
  simp only [tot] at ht hf hs
  simp only [wfV] at hw
  have hll:=totL_len l
  by_cases h12:t=12
  · subst h12
    obtain ⟨hn,hR⟩:=v12 rfl
    obtain ⟨st1,hQ1,he1⟩:=B.enter hQ (by omega)
    have hF:=skipBackF l 12 k e 0 hR hw.2.2.2.2.2.2.2 (by omega) f f (D - 1) (last :: stk) 0 st1 ids hn (by omega) (by omega) (by omega) (by simp only [List.length_cons];omega) ⟨by decide,by decide⟩ hQ1 r
    have hd:(deepV ⟨12,n,s,k,e,ids,l⟩:Int)=deepL l+1:=by simp [deepV]
    have hx:skipV run (f+1) D 12 (st,gen C ⟨12,n,s,k,e,ids,l⟩++r)=skipF run (skipV run f (D - 1)) f (st1,genF C 0 l ids++r):=by
     rw [skipV,if_neg hD0,rop_none (.inl rfl)]
     simp only [if_true]
     rw [he1,Option.bind_some]
     simp only [if_true]
     rw [gen,if_pos rfl]
    rw [hd]
    dsimp only
    rw [hx]
    refine ⟨fun h=>?_,fun h=>?_⟩
    · obtain ⟨st2,last2,hQ2,hF⟩:=hF.1 (by omega)
      obtain ⟨st3,hQ3,he3⟩:=B.leave hQ2
      exact ⟨st3,hQ3,by rw [hF,he3];rfl⟩
    · exact hF.2 (by omega)
  by_cases h13:t=13
  · subst h13
    obtain ⟨q1,q2,q3⟩:=v13 rfl
    have e1:¬ (13:Int)=12:=by decide
    have hke:(isT k=true∧isT e=true)∨(l.length / 2=0∧k=0∧e=0):=by
     simp only [rightV,Bool.and_eq_true,Bool.or_eq_true,Bool.not_eq_true',decide_eq_true_eq,Bool.and_eq_false_iff,decide_eq_false_iff_not] at hV
     obtain ⟨-,hr⟩:=hV
     rcases hr with (hr | hr) | hr
     · omega
     · right;omega
     · left
       refine ⟨?_,?_⟩
       · rcases hr.1.2 with h | h
         · exact (h trivial).elim
         · exact h
       · rcases hr.1.1 with h | h
         · omega
         · exact h
    have hL:=skipBackL l 13 k e 0 q3 hw.2.2.2.2.2.2.2 (by omega) f (D - 1) stk last st (by omega) (by omega) (by omega) hQ r
    have hlm:=least_map B.least (l.length / 2) (l:=l) (i:=0) (by omega) (by omega) q3
    obtain ⟨g,g1,g2,g3,g4⟩:=B.map hQ k e (l.length / 2) (genL C l++r) hke (by omega) (by rw [List.length_append];omega)
    have hty:=types_map (l.length / 2) (l:=l) (i:=0) (by omega) (by omega) q3
    have hpp:pairs g.k g.t (l.length / 2)=l.map Val.f0:=by
     rw [hty]
     by_cases h0:l.length / 2=0
     · rw [h0];rfl
     · rw [g1,g2,if_neg (fun hh=>h0 hh.2),if_neg (fun hh=>h0 hh.2)]
    have hd:(deepV ⟨13,n,s,k,e,ids,l⟩:Int)=deepL l+1:=by simp [deepV]
    have hx:skipV run (f+1) D 13 (st,gen C ⟨13,n,s,k,e,ids,l⟩++r)=(skipL (skipV run f (D - 1)) (l.map Val.f0) (st,genL C l++r)).bind fun r=>if r.1=0 then (run r.2 .mapE).map fun b=>(b.2.1,b.2.2) else some r:=by
     rw [skipV,if_neg hD0,rop_none (.inr (.inl rfl))]
     simp only [if_neg e1,if_true]
     rw [gen,if_neg e1,if_pos rfl,List.append_assoc,g4,Option.bind_some]
     simp only [if_true]
     rw [g3,Int.toNat_natCast,hpp]
    rw [hd]
    dsimp only
    rw [hx]
    refine ⟨fun h=>?_,fun h=>?_⟩
    · obtain ⟨st2,hQ2,hL⟩:=hL.1 (by omega)
      refine ⟨st2,hQ2,?_⟩
      rw [hL,Option.bind_some]
      simp only [if_true]
      rw [B.ends _ .mapE (by simp)]
      rfl
    · obtain ⟨s',hL⟩:=hL.2 (by omega)
      exact ⟨s',by rw [hL];rfl⟩
  by_cases h14:t=14∨t=15
  · obtain ⟨q1,q2⟩:=v14 h14
    have hL:=skipBackL l t k e 0 q2 hw.2.2.2.2.2.2.2 (by omega) f (D - 1) stk last st (by omega) (by omega) (by omega) hQ r
    have hlm:=least_lst B.least (t:=t) (k:=k) (e:=e) h13 h12 q2
    have hty:=types_lst (t:=t) (k:=k) (e:=e) h13 h12 q2
    have hd:(deepV ⟨t,n,s,k,e,ids,l⟩:Int)=deepL l+1:=by
     have h3:12≤t∧t≤15:=by omega
     simp [deepV,h3]
    have key:∀ ob oe:ROp,(ob=.lstB∨ob=.setB)→(oe=.lstE∨oe=.setE)→((run (st,C.coll e l.length++(genL C l++r)) ob).bind fun a=>if a.2.1=0 then (skipL (skipV run f (D - 1)) (List.replicate a.1.size.toNat a.1.t) a.2.2).bind fun r=>if r.1=0 then (run r.2 oe).map fun b=>(b.2.1,b.2.2) else some r else some (a.2.1,a.2.2)) =
     (skipL (skipV run f (D - 1)) (l.map Val.f0) (st,genL C l++r)).bind fun r=>if r.1=0 then (run r.2 oe).map fun b=>(b.2.1,b.2.2) else some r:=fun ob oe ho hoe=>by
     obtain ⟨g,g1,g2,g3⟩:=B.coll hQ e l.length ob (genL C l++r) ho q1 (by omega) (by rw [List.length_append];omega)
     rw [g3,Option.bind_some]
     simp only [if_true]
     rw [g2,Int.toNat_natCast,g1,hty]
    have hx:∃ oe:ROp,(oe=.lstE∨oe=.setE)∧skipV run (f+1) D t (st,gen C ⟨t,n,s,k,e,ids,l⟩++r)=(skipL (skipV run f (D - 1)) (l.map Val.f0) (st,genL C l++r)).bind fun r=>if r.1=0 then (run r.2 oe).map fun b=>(b.2.1,b.2.2) else some r:=by
     rw [skipV,if_neg hD0,rop_none (.inr (.inr h14))]
     simp only [if_neg h12,if_neg h13]
     rw [gen,if_neg h12,if_neg h13,if_pos h14,List.append_assoc]
     rcases h14 with rfl | rfl
     · refine ⟨.setE,.inr rfl,?_⟩
       simp only [if_true]
       exact key .setB .setE (.inr rfl) (.inr rfl)
     · refine ⟨.lstE,.inl rfl,?_⟩
       simp only [if_true,show ¬ (15:Int)=14 by decide,if_false]
       exact key .lstB .lstE (.inl rfl) (.inl rfl)
    obtain ⟨oe,hoe,hx⟩:=hx
    rw [hd]
    dsimp only
    rw [hx]
    refine ⟨fun h=>?_,fun h=>?_⟩
    · obtain ⟨st2,hQ2,hL⟩:=hL.1 (by omega)
      refine ⟨st2,hQ2,?_⟩
      rw [hL,Option.bind_some]
      simp only [if_true]
      rw [B.ends _ oe (by rcases hoe with rfl | rfl <;> simp)]
      rfl
    · obtain ⟨s',hL⟩:=hL.2 (by omega)
      exact ⟨s',by rw [hL];rfl⟩
  · obtain ⟨o,ho⟩:=leaf_rop hT h12 h13 h14
    have hd:(deepV ⟨t,n,s,k,e,ids,l⟩:Int)=1:=by
     have h3:¬ (12≤t∧t≤15):=by omega
     simp [deepV,h3]
    rw [hd]
    refine ⟨fun _=>⟨st,hQ,?_⟩,fun h=>by omega⟩
    rw [skipV,if_neg hD0,ho]
    simp only [gen,if_neg h12,if_neg h13,if_neg h14]
    rw [B.leaf hQ t n (toB s) o r ho hw.2.1 (by rw [toB_len];omega)]
    rfl
theorem skipBackL:∀ (l:List Val) (t k e:Int) (i:Nat),rightL t k e i l=true→wfL l→totL l≤65536→∀ (f:Nat) (D:Int) (stk:List Int) (last:Int) (st:CSt),totL l < f→0≤D→stk.length+totL l≤1000000→B.Q stk last st →
    ∀ r,Skips (B.Q stk last) D (deepL l) r (skipL (skipV run f D) (l.map Val.f0) (st,genL C l++r))
  | [],t,k,e,i,hr,hw,ht,f,D,stk,last,st,hf,hp,hs,hQ,r=>⟨fun _=>⟨st,hQ,by simp [skipL,genL]⟩,fun h=>by simp only [deepL] at h;omega⟩
  | v :: l,t,k,e,i,hr,hw,ht,f,D,stk,last,st,hf,hp,hs,hQ,r=>by
    simp only [rightL,Bool.and_eq_true] at hr
    simp only [totL] at ht hf hs
    simp only [wfL] at hw
    have h1:=skipBack v hr.1.2 hw.1 (by omega) f D stk last st (by omega) (by omega) hQ (genL C l++r)
    have hd:(deepL (v :: l):Int)=((max (deepV v) (deepL l):Nat):Int):=by simp only [deepL]
    rw [hd,List.map_cons,skipL,genL,List.append_assoc]
    by_cases hv:(deepV v:Int)≤D
    · obtain ⟨st1,hQ1,h2⟩:=h1.1 hv
      have h3:=skipBackL l t k e (i+1) hr.2 hw.2 (by omega) f D stk last st1 (by omega) hp (by omega) hQ1 r
      rw [h2,Option.bind_some]
      simp only [if_true]
      exact ⟨fun h=>h3.1 (by omega),fun h=>h3.2 (by omega)⟩
    · obtain ⟨s',h2⟩:=h1.2 (by omega)
      rw [h2,Option.bind_some]
      exact ⟨fun h=>by omega,fun h=>⟨s',rfl⟩⟩
theorem skipBackF:∀ (l:List Val) (t k e:Int) (i:Nat),rightL t k e i l=true→wfL l→totL l≤65536→∀ (f g:Nat) (D:Int) (stk:List Int) (last:Int) (st:CSt) (ids:List Int),ids.length=l.length→totL l < f→l.length < g→0≤D→stk.length+totL l≤1000000→in16 last→B.Q stk last st →
    ∀ r,((deepL l:Int)≤D→∃ st' last',B.Q stk last' st'∧skipF run (skipV run f D) g (st,genF C last l ids++r)=(run (st',r) .strE).map fun b=>(b.2.1,b.2.2))∧(D < (deepL l:Int)→∃ s',skipF run (skipV run f D) g (st,genF C last l ids++r)=some (16,s'))
  | l,t,k,e,i,hr,hw,ht,f,0,D,stk,last,st,ids,hn,hf,hg,hp,hs,h0,hQ,r=>by omega
  | [],t,k,e,i,hr,hw,ht,f,g+1,D,stk,last,st,ids,hn,hf,hg,hp,hs,h0,hQ,r=>by
    refine ⟨fun _=>⟨st,last,hQ,?_⟩,fun h=>by simp only [deepL] at h;omega⟩
    obtain ⟨gg,h1,h2⟩:=B.stop hQ r
    rw [skipF,genF,List.cons_append,List.nil_append,h2,Option.bind_some]
    simp only [if_true,h1]
  | v :: l,t,k,e,i,hr,hw,ht,f,g+1,D,stk,last,st,[],hn,hf,hg,hp,hs,h0,hQ,r=>by simp at hn
  | v :: l,t,k,e,i,hr,hw,ht,f,g+1,D,stk,last,st,x :: ids,hn,hf,hg,hp,hs,h0,hQ,r=>by
    simp only [rightL,Bool.and_eq_true] at hr
    simp only [totL] at ht hf hs
    simp only [wfL] at hw
    simp only [List.length_cons] at hn hg
    have hT:=right_type hr.1.2
    have hT0:¬ v.f0=0:=by have:=isT_is hT;omega
    have h16:=w16_in x
    have hd:(deepL (v :: l):Int)=((max (deepV v) (deepL l):Nat):Int):=by simp only [deepL]
    rw [hd]
    by_cases hb:C.inl=true∧v.f0=2
    · obtain ⟨st1,st2,hQ2,h1⟩:=B.fieldB hb.1 hQ (w16 x) v.f1 h16 h0
      obtain ⟨⟨gg,g1,g2,g3⟩,g4⟩:=h1 (genF C (w16 x) l ids++r)
      have hd1:deepV v=1:=by
        obtain ⟨t',n',s',k',e',ids',l'⟩:=v
        have ht2:t'=2:=hb.2
        subst ht2
        simp [deepV]
      obtain ⟨f,rfl⟩:∃ f',f=f'+1:=⟨f - 1,by omega⟩
      have hx:skipF run (skipV run (f+1) D) (g+1) (st,genF C last (v :: l) (x :: ids)++r)=(skipV run (f+1) D 2 (st1,genF C (w16 x) l ids++r)).bind fun r=>if r.1=0 then (run r.2 .fldE).bind fun b=>skipF run (skipV run (f+1) D) g b.2.2 else some r:=by
        rw [skipF,genF,if_pos hb,List.nil_append,List.append_assoc,hb.2,g3,Option.bind_some]
        simp only [if_true,g1,show ¬ (2:Int)=0 by decide,if_false]
      rw [hx]
      by_cases hDD:D≤0
      · rw [skipV,if_pos hDD,Option.bind_some]
        exact ⟨fun h=>by omega,fun h=>⟨_,rfl⟩⟩
      · have hv:skipV run (f+1) D 2 (st1,genF C (w16 x) l ids++r)=some (0,(st2,genF C (w16 x) l ids++r)):=by
          rw [skipV,if_neg hDD]
          show (run (st1,_) .bool).map _=_
          rw [g4]
          rfl
        rw [hv,Option.bind_some]
        simp only [if_true]
        rw [B.ends _ .fldE (by simp),Option.bind_some]
        have h3:=skipBackF l t k e (i+1) hr.2 hw.2 (by omega) (f+1) g D stk (w16 x) st2 ids (by omega) (by omega) (by omega) hp (by omega) h16 hQ2 r
        exact ⟨fun h=>h3.1 (by omega),fun h=>h3.2 (by omega)⟩
    · obtain ⟨st1,hQ1,h1⟩:=B.field hQ v.f0 (w16 x) v.f1 hT h16 h0 hb
      obtain ⟨gg,g1,g2,g3⟩:=h1 (gen C v++(genF C (w16 x) l ids++r))
      have h2:=skipBack v hr.1.2 hw.1 (by omega) f D stk (w16 x) st1 (by omega) (by omega) hQ1 (genF C (w16 x) l ids++r)
      have hx:skipF run (skipV run f D) (g+1) (st,genF C last (v :: l) (x :: ids)++r)=(skipV run f D v.f0 (st1,gen C v++(genF C (w16 x) l ids++r))).bind fun r=>if r.1=0 then (run r.2 .fldE).bind fun b=>skipF run (skipV run f D) g b.2.2 else some r:=by
        rw [skipF,genF,if_neg hb,List.append_assoc,List.append_assoc,g3,Option.bind_some]
        simp only [if_true,g1,hT0,if_false]
      rw [hx]
      by_cases hDv:(deepV v:Int)≤D
      · obtain ⟨st2,hQ2,h2⟩:=h2.1 hDv
        rw [h2,Option.bind_some]
        simp only [if_true]
        rw [B.ends _ .fldE (by simp),Option.bind_some]
        have h3:=skipBackF l t k e (i+1) hr.2 hw.2 (by omega) f g D stk (w16 x) st2 ids (by omega) (by omega) (by omega) hp (by omega) h16 hQ2 r
        exact ⟨fun h=>h3.1 (by omega),fun h=>h3.2 (by omega)⟩
      · obtain ⟨s',h2⟩:=h2.2 (by omega)
        rw [h2,Option.bind_some]
        exact ⟨fun h=>by omega,fun h=>⟨s',rfl⟩⟩
end

end

end Go.Proofs.YtmjcnomgpikncaaGreatDoor

namespace Go.Proofs.YtmjcnomgpikncaaGreatDoor

open Go.RowKit Go.Deep



section

variable {σ τ:Type} {run:σ→ROp→Option (RGot × Nat × σ)} {run':τ→ROp→Option (RGot × Nat × τ)} (f:σ→τ) (hrun:∀ s o,run' (f s) o=(run s o).map fun r=>(r.1,r.2.1,f r.2.2))

theorem skipL_sim {sv:Int→σ→Option (Nat × σ)} {sv':Int→τ→Option (Nat × τ)} (h:∀ t s,sv' t (f s)=(sv t s).map fun r=>(r.1,f r.2)) :
    ∀ ts s,skipL sv' ts (f s)=(skipL sv ts s).map fun r=>(r.1,f r.2)
  | [],s=>rfl
  | t :: ts,s=>by
    rw [skipL,skipL,h t s]
    cases sv t s with
    | none=>rfl
    | some r =>
      obtain ⟨k,s1⟩:=r
      simp only [Option.map_some,Option.bind_some]
      by_cases hk:k=0
      · simp only [hk,if_true]
        exact skipL_sim h ts s1
      · simp only [if_neg hk,Option.map_some]

include hrun in
theorem skipF_sim {sv:Int→σ→Option (Nat × σ)} {sv':Int→τ→Option (Nat × τ)} (h:∀ t s,sv' t (f s)=(sv t s).map fun r=>(r.1,f r.2)) :
    ∀ n s,skipF run' sv' n (f s)=(skipF run sv n s).map fun r=>(r.1,f r.2)
  | 0,s=>rfl
  | n+1,s=>by
    rw [skipF,skipF,hrun]
    cases run s .fldB with
    | none=>rfl
    | some a =>
      obtain ⟨g,k,s1⟩:=a
      simp only [Option.map_some,Option.bind_some]
      by_cases hk:k=0
      · simp only [hk,if_true]
        by_cases ht:g.t=0
        · simp only [ht,if_true]
          rw [hrun]
          cases run s1 .strE <;> rfl
        · simp only [if_neg ht]
          rw [h]
          cases sv g.t s1 with
          | none=>rfl
          | some r =>
            obtain ⟨k2,s2⟩:=r
            simp only [Option.map_some,Option.bind_some]
            by_cases hk2:k2=0
            · simp only [hk2,if_true]
              rw [hrun]
              cases run s2 .fldE with
              | none=>rfl
              | some b =>
                obtain ⟨g3,k3,s3⟩:=b
                simp only [Option.map_some,Option.bind_some]
                exact skipF_sim h n s3
            · simp only [if_neg hk2,Option.map_some]
      · simp only [if_neg hk,Option.map_some]

include hrun in
theorem skipV_sim:∀ (n:Nat) (D t:Int) (s:σ),skipV run' n D t (f s)=(skipV run n D t s).map fun r=>(r.1,f r.2)
 | 0,D,t,s=>rfl
 | n+1,D,t,s=>by
  rw [skipV,skipV]
  by_cases hD:D≤0
  · simp only [if_pos hD,Option.map_some]
  simp only [if_neg hD]
  have hS:∀ (ob oe:ROp) (F:RGot→List Int),((run' (f s) ob).bind fun a=>if a.2.1=0 then (skipL (skipV run' n (D - 1)) (F a.1) a.2.2).bind fun r=>if r.1=0 then (run' r.2 oe).map fun b=>(b.2.1,b.2.2) else some r else some (a.2.1,a.2.2))
   = ((run s ob).bind fun a=>if a.2.1=0 then (skipL (skipV run n (D - 1)) (F a.1) a.2.2).bind fun r=>if r.1=0 then (run r.2 oe).map fun b=>(b.2.1,b.2.2) else some r else some (a.2.1,a.2.2)).map fun r=>(r.1,f r.2):=fun ob oe F=>by
   rw [hrun]
   cases run s ob with
   | none=>rfl
   | some a =>
    obtain ⟨g,k,s1⟩:=a
    simp only [Option.map_some,Option.bind_some]
    by_cases hk:k=0
    · simp only [hk,if_true]
      rw [skipL_sim f (fun t s=>skipV_sim n (D - 1) t s)]
      cases skipL (skipV run n (D - 1)) (F g) s1 with
      | none=>rfl
      | some r =>
       obtain ⟨k2,s2⟩:=r
       simp only [Option.map_some,Option.bind_some]
       by_cases hk2:k2=0
       · simp only [hk2,if_true]
         rw [hrun]
         cases run s2 oe <;> rfl
       · simp only [if_neg hk2,Option.map_some]
    · simp only [if_neg hk,Option.map_some]
  cases ropOf t with
  | some o =>
   dsimp only
   rw [hrun]
   cases run s o <;> rfl
  | none =>
   dsimp only
   by_cases h12:t=12
   · simp only [if_pos h12]
     rw [hrun]
     cases run s .strB with
     | none=>rfl
     | some a =>
      obtain ⟨g,k,s1⟩:=a
      simp only [Option.map_some,Option.bind_some]
      by_cases hk:k=0
      · simp only [hk,if_true]
        exact skipF_sim f hrun (fun t s=>skipV_sim n (D - 1) t s) n s1
      · simp only [if_neg hk,Option.map_some]
   simp only [if_neg h12]
   by_cases h13:t=13
   · simp only [if_pos h13]
     exact hS .mapB .mapE (fun g=>pairs g.k g.t g.size.toNat)
   simp only [if_neg h13]
   by_cases h14:t=14
   · simp only [if_pos h14]
     exact hS .setB .setE (fun g=>List.replicate g.size.toNat g.t)
   simp only [if_neg h14]
   by_cases h15:t=15
   · simp only [if_pos h15]
     exact hS .lstB .lstE (fun g=>List.replicate g.size.toNat g.t)
   simp only [if_neg h15,Option.map_some]

end

theorem skip_rd (proto:Int) (hp:proto=0∨proto=1) (c:Cfg) (hc:65536≤c.container) (hm:1048576≤c.message) (V:Val) (hV:rightV V=true) (hw:wfV V) (ht:tot V≤65536) (f:Nat) (D:Int) (hf:tot V < f) (r:List UInt8) :
    ((deepV V:Int)≤D→∃ st',skipV (rdC proto c) f D V.f0 (CR0,gen (codec proto) V++r)=some (0,(st',r))) ∧
    (D < (deepV V:Int)→∃ s',skipV (rdC proto c) f D V.f0 (CR0,gen (codec proto) V++r)=some (16,s')):=by
  rcases hp with rfl | rfl
  · have h:=skipBack (backB c hc hm) V hV hw ht f D [] 0 CR0 hf (by simp;omega) trivial r
    exact ⟨fun hd=>by obtain ⟨st',-,h1⟩:=h.1 hd;exact ⟨st',h1⟩,h.2⟩
  · have h:=skipBack (backC c hc hm) V hV hw ht f D [] 0 CR0 hf (by simp;omega) ⟨rfl,rfl,rfl⟩ r
    exact ⟨fun hd=>by obtain ⟨st',-,h1⟩:=h.1 hd;exact ⟨st',h1⟩,h.2⟩

end Go.Proofs.YtmjcnomgpikncaaGreatDoor

namespace Go.Proofs.YtmjcnomgpikncaaGreatDoor

open Go.RowKit Go.Deep



theorem deep_rd (proto:Int) (hp:proto=0∨proto=1) (c:Cfg) (hc:65536≤c.container) (hm:1048576≤c.message) (V:Val) (hV:rightV V=true) (hw:wfV V) (ht:tot V≤65536) (f:Nat) (D:Int) (hf:tot V < f) (hD:D < (deepV V:Int)) (r:List UInt8) :
    ∃ v s',getV (rdC proto c) f D V.f0 (CR0,gen (codec proto) V++r)=some (v,50,s'):=by
  rcases hp with rfl | rfl
  · exact deepBack (backB c hc hm) V hV hw ht f D [] 0 CR0 hf hD (by simp;omega) trivial r
  · exact deepBack (backC c hc hm) V hV hw ht f D [] 0 CR0 hf hD (by simp;omega) ⟨rfl,rfl,rfl⟩ r

end Go.Proofs.YtmjcnomgpikncaaGreatDoor
