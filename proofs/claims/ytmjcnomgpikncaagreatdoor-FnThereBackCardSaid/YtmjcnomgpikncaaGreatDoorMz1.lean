/- What is written is read back, or skipped, or is too deep. No condition. -/
import Derived.Test.YtmjcnomgpikncaaGreatDoorMs2
import Derived.Test.YtmjcnomgpikncaaGreatDoorMv4
import Derived.Test.YtmjcnomgpikncaaGreatDoorMc
import Derived.Test.YtmjcnomgpikncaaGreatDoorMx
import Derived.Lib.EndianMore
import Derived.Test.YtmjcnomgpikncaaGreatDoorMr
import Derived.Below
import Derived.Deep.Draws
import Derived.Deep.AppendLies
import Derived.Maps.AppendAt
import Derived.OwnWalk
import Derived.Laws.BytesArg
import Derived.Laws.MakeOwn
import Derived.Laws.OwnMore
import Derived.Deep.OwnRows
import Derived.Tactics
import Derived.Lib.ConvBytes
import Derived.Laws.Slices
import Derived.WalkKit
import Derived.KernelRfl
import Derived.RowKit3
import Derived.Deep.LoopGhost
import Derived.Deep.QuietTactic
import Derived.BigQuiet
import Derived.WideLaws
import Derived.Deep.DeepCutAuto
import Derived.Deep.CutBlock
import Derived.Deep.RegionHeld3
import Derived.Laws.Rows
import Derived.Lib.AppendStr
import Derived.ArgAppend
import Derived.Laws.IdiomCopy
import Derived.OrdersHeld
import Derived.Laws.BitsLemmas
import Derived.RowKit
import Derived.Test.YtmjcnomgpikncaaGreatDoorMw1
import Derived.Test.YtmjcnomgpikncaaGreatDoorMw2
import Derived.Test.YtmjcnomgpikncaaGreatDoorMs1
set_option linter.unusedVariables false
set_option linter.unusedSimpArgs false
namespace Go.Proofs.YtmjcnomgpikncaaGreatDoor

open Go.RowKit Go.Deep



mutual
def deepV:Val→Nat
  | ⟨t,_,_,_,_,_,l⟩=>(if 12≤t∧t≤15 then deepL l else 0)+1
def deepL:List Val→Nat
  | []=>0
  | v :: l=>max (deepV v) (deepL l)
end

def numO (t n:Int):Int:=if t=2 then (if n=0 then 0 else 1) else if t=3 then w8 n else if t=6 then w16 n else if t=8 then wrap32 n else if t=10∨t=4 then n else 0

def txtO (t:Int) (s:List UInt8):List UInt8:=if t=11 then s else if t=16 then u16 s else []

mutual
def plV (z:Bool):Val→Val
  | ⟨t,n,s,k,e,ids,l⟩=>⟨t,numO t n,ints (txtO t (toB s)),if t=13∧¬ (z=true∧l.length=0) then k else 0,if (t=13∧¬ (z=true∧l.length=0))∨t=14∨t=15 then e else 0,if t=12 then ids.map w16 else [],if 12≤t∧t≤15 then plL z l else []⟩
def plL (z:Bool):List Val→List Val
  | []=>[]
  | v :: l=>plV z v :: plL z l
end

structure Back (C:Codec) (lst:Int→Int) (run:(CSt × List UInt8)→ROp→Option (RGot × Nat × (CSt × List UInt8))) where
  Q:List Int→Int→CSt→Prop
  leaf:∀ {stk:List Int} {last:Int} {st:CSt},Q stk last st→∀ (t n:Int) (s:List UInt8) (o:ROp) (r:List UInt8),ropOf t=some o→i64r n→s.length≤65536→run (st,C.leaf t n s++r) o=some ({ n:=numO t n,s:=txtO t s },0,(st,r))
  enter:∀ {stk:List Int} {last:Int} {st:CSt},Q stk last st→stk.length < 2000000→∃ st',Q (last :: stk) 0 st'∧∀ r,run (st,r) .strB=some ({},0,(st',r))
  leave:∀ {stk:List Int} {last x:Int} {st:CSt},Q (x :: stk) last st→∃ st',Q stk x st'∧∀ r,run (st,r) .strE=some ({},0,(st',r))
  stop:∀ {stk:List Int} {last:Int} {st:CSt},Q stk last st→∀ r,∃ g:RGot,g.t=0∧run (st,0 :: r) .fldB=some (g,0,(st,r))
  field:∀ {stk:List Int} {last:Int} {st:CSt},Q stk last st→∀ (t id n:Int),isT t=true→in16 id→in16 last→¬ (C.inl=true∧t=2)→∃ st',Q stk id st'∧∀ r,∃ g:RGot,g.t=t∧g.id=id∧run (st,C.field last t id n++r) .fldB=some (g,0,(st',r))
  fieldB:C.inl=true→∀ {stk:List Int} {last:Int} {st:CSt},Q stk last st→∀ (id n:Int),in16 id→in16 last→∃ st' st2,Q stk id st2∧∀ r,(∃ g:RGot,g.t=2∧g.id=id∧run (st,C.field last 2 id n++r) .fldB=some (g,0,(st',r)))∧run (st',r) .bool=some ({ n:=numO 2 n },0,(st2,r))
  ends:∀ (s:CSt × List UInt8) (o:ROp),o=.fldE∨o=.mapE∨o=.lstE∨o=.setE→run s o=some ({},0,s)
  coll:∀ {stk:List Int} {last:Int} {st:CSt},Q stk last st→∀ (e:Int) (n:Nat) (o:ROp) (r:List UInt8),o=.lstB∨o=.setB→isT e=true→n≤65536→(n:Int) * lst e≤r.length→∃ g:RGot,g.t=e∧g.size=(n:Int)∧run (st,C.coll e n++r) o=some (g,0,(st,r))
  map:∀ {stk:List Int} {last:Int} {st:CSt},Q stk last st→∀ (k e:Int) (n:Nat) (r:List UInt8),(isT k=true∧isT e=true)∨(n=0∧k=0∧e=0)→n≤32768→(n:Int) * (lst k+lst e)≤r.length →
    ∃ g:RGot,g.k=(if C.inl=true∧n=0 then 0 else k)∧g.t=(if C.inl=true∧n=0 then 0 else e)∧g.size=(n:Int)∧run (st,C.map k e n++r) .mapB=some (g,0,(st,r))
  lst0:∀ t,0≤lst t
  least:∀ v,rightV v=true→lst v.f0≤((gen C v).length:Int)

theorem types_lst {t k e:Int} (h13:t≠13) (h12:t≠12):∀ {l:List Val} {i:Nat},rightL t k e i l=true→l.map Val.f0=List.replicate l.length e
  | [],i,h=>rfl
  | v :: l,i,h=>by
    simp only [rightL,Bool.and_eq_true,Bool.or_eq_true,decide_eq_true_eq] at h
    have h1:v.f0=e:=by
      rcases h.1.1 with h1 | h1
      · exact absurd h1 h12
      · rw [h1,if_neg (fun hh=>h13 hh.1)]
    rw [List.map_cons,h1,types_lst h13 h12 h.2,List.length_cons,List.replicate_succ]

theorem types_map {k e:Int}:∀ (n:Nat) {l:List Val} {i:Nat},l.length=2 * n→i % 2=0→rightL 13 k e i l=true→l.map Val.f0=pairs k e n
  | 0,l,i,hl,hi,h=>by
    have:l=[]:=List.eq_nil_of_length_eq_zero (by omega)
    subst this
    rfl
  | n+1,l,i,hl,hi,h=>by
    match l,hl with
    | v :: u :: l,hl =>
      simp only [rightL,Bool.and_eq_true,Bool.or_eq_true,decide_eq_true_eq] at h
      have h1:v.f0=k:=by
        rcases h.1.1 with h1 | h1
        · omega
        · rw [h1,if_pos ⟨trivial,hi⟩]
      have h2:u.f0=e:=by
        rcases h.2.1.1 with h1 | h1
        · omega
        · rw [h1,if_neg (by omega)]
      have hr:=types_map n (l:=l) (i:=i+1+1) (by simp only [List.length_cons] at hl;omega) (by omega) h.2.2
      rw [List.map_cons,List.map_cons,h1,h2,hr]
      rfl
    | [],hl=>simp at hl
    | [_],hl=>simp at hl;omega

theorem least_lst {C:Codec} {lst:Int→Int} (hl:∀ v,rightV v=true→lst v.f0≤((gen C v).length:Int)) {t k e:Int} (h13:t≠13) (h12:t≠12):∀ {l:List Val} {i:Nat},rightL t k e i l=true→(l.length:Int) * lst e≤((genL C l).length:Int)
  | [],i,h=>by simp [genL]
  | v :: l,i,h=>by
    simp only [rightL,Bool.and_eq_true,Bool.or_eq_true,decide_eq_true_eq] at h
    have h1:v.f0=e:=by
      rcases h.1.1 with h1 | h1
      · exact absurd h1 h12
      · rw [h1,if_neg (fun hh=>h13 hh.1)]
    have h2:=hl v h.1.2
    rw [h1] at h2
    have h3:=least_lst hl h13 h12 h.2
    simp only [genL,List.length_append,List.length_cons]
    have e1:((l.length+1:Nat):Int) * lst e=(l.length:Int) * lst e+lst e:=by rw [Int.natCast_add,Int.add_mul];simp
    rw [e1]
    omega

theorem least_map {C:Codec} {lst:Int→Int} (hl:∀ v,rightV v=true→lst v.f0≤((gen C v).length:Int)) {k e:Int}:∀ (n:Nat) {l:List Val} {i:Nat},l.length=2 * n→i % 2=0→rightL 13 k e i l=true→(n:Int) * (lst k+lst e)≤((genL C l).length:Int)
  | 0,l,i,hl0,hi,h=>by simp
  | n+1,l,i,hl0,hi,h=>by
    match l,hl0 with
    | v :: u :: l,hl0 =>
      simp only [rightL,Bool.and_eq_true,Bool.or_eq_true,decide_eq_true_eq] at h
      have h1:v.f0=k:=by
        rcases h.1.1 with h1 | h1
        · omega
        · rw [h1,if_pos ⟨trivial,hi⟩]
      have h2:u.f0=e:=by
        rcases h.2.1.1 with h1 | h1
        · omega
        · rw [h1,if_neg (by omega)]
      have hv:=hl v h.1.2
      have hu:=hl u h.2.1.2
      rw [h1] at hv
      rw [h2] at hu
      have hr:=least_map hl n (l:=l) (i:=i+1+1) (by simp only [List.length_cons] at hl0;omega) (by omega) h.2.2
      simp only [genL,List.length_append]
      have e1:((n+1:Nat):Int) * (lst k+lst e)=(n:Int) * (lst k+lst e)+(lst k+lst e):=by rw [Int.natCast_add,Int.add_mul];simp
      rw [e1]
      omega
    | [],hl0=>simp at hl0
    | [_],hl0=>simp at hl0;omega

theorem leaf_rop {t:Int} (h:isT t=true) (h12:t≠12) (h13:t≠13) (h14:¬ (t=14∨t=15)):∃ o,ropOf t=some o:=by
  rcases isT_is h with rfl | rfl | rfl | rfl | rfl | rfl | rfl | rfl | rfl | rfl | rfl | rfl <;> first | exact ⟨_,rfl⟩ | omega

theorem rop_none {t:Int} (h:t=12∨t=13∨t=14∨t=15):ropOf t=none:=by rcases h with rfl | rfl | rfl | rfl <;> rfl

section

variable {C:Codec} {lst:Int→Int} {run:(CSt × List UInt8)→ROp→Option (RGot × Nat × (CSt × List UInt8))} (B:Back C lst run)

mutual
theorem back:∀ (V:Val),rightV V=true→wfV V→tot V≤65536→∀ (f:Nat) (D:Int) (stk:List Int) (last:Int) (st:CSt),tot V < f→(deepV V:Int)≤D→stk.length+tot V≤1000000→B.Q stk last st →
 ∃ st',B.Q stk last st'∧∀ r,getV run f D V.f0 (st,gen C V++r)=some (plV C.inl V,0,(st',r))
 | ⟨t,n,s,k,e,ids,l⟩,hV,hw,ht,0,D,stk,last,st,hf,hD,hs,hQ=>by omega
 | ⟨t,n,s,k,e,ids,l⟩,hV,hw,ht,f+1,D,stk,last,st,hf,hD,hs,hQ=>by
  obtain ⟨hT,v12,v13,v14⟩:=right_is hV
  simp only [tot] at ht hf hs
  simp only [wfV] at hw
  have hll:=totL_len l
  have hD0:¬ D≤0:=by simp only [deepV] at hD;omega
  by_cases h12:t=12
  · subst h12
    obtain ⟨hn,hR⟩:=v12 rfl
    obtain ⟨st1,hQ1,he1⟩:=B.enter hQ (by omega)
    have hD1:(deepL l:Int)≤D - 1:=by simp [deepV] at hD;omega
    obtain ⟨st2,last2,hQ2,hF⟩:=backF l 12 k e 0 hR hw.2.2.2.2.2.2.2 (by omega) f f (D - 1) (last :: stk) 0 st1 ids hn (by omega) (by omega) hD1 (by simp only [List.length_cons];omega) ⟨by decide,by decide⟩ hQ1
    obtain ⟨st3,hQ3,he3⟩:=B.leave hQ2
    refine ⟨st3,hQ3,fun r=>?_⟩
    have hF:=hF r [] []
    rw [getV,if_neg hD0,rop_none (.inl rfl)]
    simp only [if_true]
    rw [he1,Option.bind_some]
    simp only [if_true]
    rw [gen,if_pos rfl,hF,he3]
    simp [plV,numO,txtO,ints]
  by_cases h13:t=13
  · subst h13
    obtain ⟨q1,q2,q3⟩:=v13 rfl
    have e1:¬ (13:Int)=12:=by decide
    have hD1:(deepL l:Int)≤D - 1:=by simp [deepV] at hD;omega
    have hke:(isT k=true∧isT e=true)∨(l.length / 2=0∧k=0∧e=0):=by
     simp only [rightV,Bool.and_eq_true,Bool.or_eq_true,Bool.not_eq_true',decide_eq_true_eq,Bool.and_eq_false_iff,decide_eq_false_iff_not] at hV
     obtain ⟨-,hr⟩:=hV
     rcases hr with (hr | hr) | hr
     · omega
     · right;omega
     · left
       refine ⟨?_,?_⟩
       · rcases hr.1.2 with h | h
         · exact (h trivial).elim
         · exact h
       · rcases hr.1.1 with h | h
         · omega
         · exact h
    obtain ⟨st2,hQ2,hL⟩:=backL l 13 k e 0 q3 hw.2.2.2.2.2.2.2 (by omega) f (D - 1) stk last st (by omega) hD1 (by omega) hQ
    refine ⟨st2,hQ2,fun r=>?_⟩
    have hlm:=least_map B.least (l.length / 2) (l:=l) (i:=0) (by omega) (by omega) q3
    obtain ⟨g,g1,g2,g3,g4⟩:=B.map hQ k e (l.length / 2) (genL C l++r) hke (by omega) (by rw [List.length_append];omega)
    have hty:=types_map (l.length / 2) (l:=l) (i:=0) (by omega) (by omega) q3
    have hL:=hL r []
    have hpl:g.k=(if C.inl=true∧l.length=0 then 0 else k)∧g.t=(if C.inl=true∧l.length=0 then 0 else e):=by
     rw [g1,g2]
     by_cases h0:l.length=0
     · simp [h0]
     · have h1:¬ l.length / 2=0:=by omega
       simp [h0,h1]
    have hpp:pairs g.k g.t (l.length / 2)=l.map Val.f0:=by
     rw [hty]
     by_cases h0:l.length / 2=0
     · rw [h0];rfl
     · rw [g1,g2,if_neg (fun hh=>h0 hh.2),if_neg (fun hh=>h0 hh.2)]
    rw [getV,if_neg hD0,rop_none (.inr (.inl rfl))]
    simp only [if_neg e1,if_true]
    rw [gen,if_neg e1,if_pos rfl,List.append_assoc,getMap,g4,Option.bind_some]
    simp only [if_true]
    rw [g3,if_neg (by omega),Int.toNat_natCast,hpp,hL,Option.bind_some]
    simp only [if_true]
    rw [B.ends _ .mapE (by simp),Option.map_some,hpl.1,hpl.2]
    simp only [plV,numO,txtO,List.nil_append]
    by_cases h0:C.inl=true∧l.length=0
    · simp [h0,ints]
    · have h1:¬ (C.inl=true∧l=[]):=fun h=>h0 ⟨h.1,by rw [h.2];rfl⟩
      have h2:C.inl=true→¬ l=[]:=fun a b=>h1 ⟨a,b⟩
      simp [ints]
      exact ⟨by rw [if_neg h1,if_pos h2],by rw [if_neg h1,if_pos h2]⟩
  have hrl:=fun (h:t=14∨t=15)=>v14 h
  by_cases h14:t=14∨t=15
  · obtain ⟨q1,q2⟩:=v14 h14
    have hD1:(deepL l:Int)≤D - 1:=by
     have:12≤t∧t≤15:=by omega
     simp [deepV,this] at hD;omega
    obtain ⟨st2,hQ2,hL⟩:=backL l t k e 0 q2 hw.2.2.2.2.2.2.2 (by omega) f (D - 1) stk last st (by omega) hD1 (by omega) hQ
    refine ⟨st2,hQ2,fun r=>?_⟩
    have hlm:=least_lst B.least (t:=t) (k:=k) (e:=e) h13 h12 q2
    have hty:=types_lst (t:=t) (k:=k) (e:=e) h13 h12 q2
    have hL:=hL r []
    rw [hty] at hL
    have key:∀ ob oe:ROp,(ob=.lstB∨ob=.setB)→(oe=.lstE∨oe=.setE)→getList run (getV run f (D - 1)) t ob oe (st,C.coll e l.length++(genL C l++r))=some (plV C.inl ⟨t,n,s,k,e,ids,l⟩,0,(st2,r)):=fun ob oe ho hoe=>by
     obtain ⟨g,g1,g2,g3⟩:=B.coll hQ e l.length ob (genL C l++r) ho q1 (by omega) (by rw [List.length_append];omega)
     rw [getList,g3,Option.bind_some]
     simp only [if_true]
     rw [g2,if_neg (by omega),Int.toNat_natCast,g1,hL,Option.bind_some]
     simp only [if_true]
     rw [B.ends _ oe (by rcases hoe with rfl | rfl <;> simp),Option.map_some]
     have h3:12≤t∧t≤15:=by omega
     have h2:numO t n=0:=by unfold numO;rw [if_neg (by omega),if_neg (by omega),if_neg (by omega),if_neg (by omega),if_neg (by omega)]
     have h4:txtO t (toB s)=[]:=by unfold txtO;rw [if_neg (by omega),if_neg (by omega)]
     simp only [plV,h2,h4,List.nil_append,if_pos h3,if_neg h12,if_pos (show (t=13∧¬ (C.inl=true∧l.length=0))∨t=14∨t=15 from .inr h14),if_neg (show ¬ (t=13∧¬ (C.inl=true∧l.length=0)) from fun hh=>h13 hh.1),ints,List.map_nil]
    rw [getV,if_neg hD0,rop_none (.inr (.inr h14))]
    simp only [if_neg h12,if_neg h13]
    rw [gen,if_neg h12,if_neg h13,if_pos h14,List.append_assoc]
    rcases h14 with rfl | rfl
    · simp only [if_true]
      exact key .setB .setE (.inr rfl) (.inr rfl)
    · simp only [if_true,show ¬ (15:Int)=14 by decide,if_false]
      exact key .lstB .lstE (.inl rfl) (.inl rfl)
  · obtain ⟨o,ho⟩:=leaf_rop hT h12 h13 h14
    refine ⟨st,hQ,fun r=>?_⟩
    rw [getV,if_neg hD0,ho]
    simp only [gen,if_neg h12,if_neg h13,if_neg h14]
    rw [B.leaf hQ t n (toB s) o r ho hw.2.1 (by rw [toB_len];omega),Option.map_some]
    have hn:¬ (12≤t∧t≤15):=by omega
    have hno:(if t=11∨t=16 then 0 else numO t n)=numO t n:=by
     by_cases h:t=11∨t=16
     · rw [if_pos h];unfold numO;rw [if_neg (by omega),if_neg (by omega),if_neg (by omega),if_neg (by omega),if_neg (by omega)]
     · rw [if_neg h]
    have hto:(if t=11∨t=16 then ints (txtO t (toB s)) else [])=ints (txtO t (toB s)):=by
     by_cases h:t=11∨t=16
     · rw [if_pos h]
     · rw [if_neg h];unfold txtO;rw [if_neg (by omega),if_neg (by omega)];rfl
    dsimp only
    rw [hno,hto]
    simp only [plV,if_neg hn,if_neg h12,if_neg (show ¬ (t=13∧¬ (C.inl=true∧l.length=0)) from fun hh=>h13 hh.1),if_neg (show ¬ ((t=13∧¬ (C.inl=true∧l.length=0))∨t=14∨t=15) from fun hh=>hh.elim (fun h=>h13 h.1) h14)]
theorem backL:∀ (l:List Val) (t k e:Int) (i:Nat),rightL t k e i l=true→wfL l→totL l≤65536→∀ (f:Nat) (D:Int) (stk:List Int) (last:Int) (st:CSt),totL l < f→(deepL l:Int)≤D→stk.length+totL l≤1000000→B.Q stk last st →
    ∃ st',B.Q stk last st'∧∀ r acc,getL (getV run f D) (l.map Val.f0) acc (st,genL C l++r)=some (acc++plL C.inl l,0,(st',r))
  | [],t,k,e,i,hr,hw,ht,f,D,stk,last,st,hf,hD,hs,hQ=>⟨st,hQ,fun r acc=>by simp [getL,genL,plL]⟩
  | v :: l,t,k,e,i,hr,hw,ht,f,D,stk,last,st,hf,hD,hs,hQ=>by
    simp only [rightL,Bool.and_eq_true] at hr
    simp only [totL] at ht hf hs
    simp only [wfL] at hw
    simp only [deepL] at hD
    obtain ⟨st1,hQ1,h1⟩:=back v hr.1.2 hw.1 (by omega) f D stk last st (by omega) (by omega) (by omega) hQ
    obtain ⟨st2,hQ2,h2⟩:=backL l t k e (i+1) hr.2 hw.2 (by omega) f D stk last st1 (by omega) (by omega) (by omega) hQ1
    refine ⟨st2,hQ2,fun r acc=>?_⟩
    rw [List.map_cons,getL,genL,List.append_assoc,h1,Option.bind_some]
    simp only [if_true]
    rw [h2,plL,List.append_assoc]
    rfl
theorem backF:∀ (l:List Val) (t k e:Int) (i:Nat),rightL t k e i l=true→wfL l→totL l≤65536→∀ (f g:Nat) (D:Int) (stk:List Int) (last:Int) (st:CSt) (ids:List Int),ids.length=l.length→totL l < f→l.length < g→(deepL l:Int)≤D→stk.length+totL l≤1000000→in16 last→B.Q stk last st →
    ∃ st' last',B.Q stk last' st'∧∀ r is acc,getF run (getV run f D) g is acc (st,genF C last l ids++r)=(run (st',r) .strE).map fun b=>(⟨12,0,[],0,0,is++ids.map w16,acc++plL C.inl l⟩,b.2.1,b.2.2)
  | l,t,k,e,i,hr,hw,ht,f,0,D,stk,last,st,ids,hn,hf,hg,hD,hs,h0,hQ=>by omega
  | [],t,k,e,i,hr,hw,ht,f,g+1,D,stk,last,st,[],hn,hf,hg,hD,hs,h0,hQ=>⟨st,last,hQ,fun r is acc=>by
    obtain ⟨gg,h1,h2⟩:=B.stop hQ r
    rw [getF,genF,List.cons_append,List.nil_append,h2,Option.bind_some]
    simp only [if_true,h1]
    simp [plL]⟩
  | [],t,k,e,i,hr,hw,ht,f,g+1,D,stk,last,st,x :: ids,hn,hf,hg,hD,hs,h0,hQ=>by simp at hn
  | v :: l,t,k,e,i,hr,hw,ht,f,g+1,D,stk,last,st,[],hn,hf,hg,hD,hs,h0,hQ=>by simp at hn
  | v :: l,t,k,e,i,hr,hw,ht,f,g+1,D,stk,last,st,x :: ids,hn,hf,hg,hD,hs,h0,hQ=>by
    simp only [rightL,Bool.and_eq_true] at hr
    simp only [totL] at ht hf hs
    simp only [wfL] at hw
    simp only [deepL] at hD
    simp only [List.length_cons] at hn hg
    have hT:=right_type hr.1.2
    have hT0:¬ v.f0=0:=by have:=isT_is hT;omega
    have h16:=w16_in x
    by_cases hb:C.inl=true∧v.f0=2
    · obtain ⟨st1,st2,hQ2,h1⟩:=B.fieldB hb.1 hQ (w16 x) v.f1 h16 h0
      obtain ⟨st3,last3,hQ3,h3⟩:=backF l t k e (i+1) hr.2 hw.2 (by omega) f g D stk (w16 x) st2 ids (by omega) (by omega) (by omega) (by omega) (by omega) h16 hQ2
      refine ⟨st3,last3,hQ3,fun r is acc=>?_⟩
      obtain ⟨⟨gg,g1,g2,g3⟩,g4⟩:=h1 (genF C (w16 x) l ids++r)
      have hv:getV run f D 2 (st1,genF C (w16 x) l ids++r)=some (plV C.inl v,0,(st2,genF C (w16 x) l ids++r)):=by
        obtain ⟨t',n',s',k',e',ids',l'⟩:=v
        have ht2:t'=2:=hb.2
        subst ht2
        obtain ⟨f,rfl⟩:∃ f',f=f'+1:=⟨f - 1,by simp only [tot] at hf;omega⟩
        have hDD:¬ D≤0:=by simp only [deepV] at hD;omega
        rw [getV,if_neg hDD]
        show (run (st1,_) .bool).map _=_
        rw [g4,Option.map_some]
        simp [plV,txtO,ints]
      rw [getF,genF,if_pos hb,List.nil_append,List.append_assoc,hb.2,g3,Option.bind_some]
      simp only [if_true,g1,g2,show ¬ (2:Int)=0 by decide,if_false]
      rw [hv,Option.bind_some]
      simp only [if_true]
      rw [B.ends _ .fldE (by simp),Option.bind_some]
      simp only [if_true]
      rw [h3]
      simp [plL]
    · obtain ⟨st1,hQ1,h1⟩:=B.field hQ v.f0 (w16 x) v.f1 hT h16 h0 hb
      obtain ⟨st2,hQ2,h2⟩:=back v hr.1.2 hw.1 (by omega) f D stk (w16 x) st1 (by omega) (by omega) (by omega) hQ1
      obtain ⟨st3,last3,hQ3,h3⟩:=backF l t k e (i+1) hr.2 hw.2 (by omega) f g D stk (w16 x) st2 ids (by omega) (by omega) (by omega) (by omega) (by omega) h16 hQ2
      refine ⟨st3,last3,hQ3,fun r is acc=>?_⟩
      obtain ⟨gg,g1,g2,g3⟩:=h1 (gen C v++(genF C (w16 x) l ids++r))
      rw [getF,genF,if_neg hb,List.append_assoc,List.append_assoc,g3,Option.bind_some]
      simp only [if_true,g1,g2,hT0,if_false]
      rw [h2,Option.bind_some]
      simp only [if_true]
      rw [B.ends _ .fldE (by simp),Option.bind_some]
      simp only [if_true]
      rw [h3]
      simp [plL]
end

end

end Go.Proofs.YtmjcnomgpikncaaGreatDoor

namespace Go.Proofs.YtmjcnomgpikncaaGreatDoor

open Go.RowKit Go.Deep



theorem rdC_1 (c:Cfg) (s:CSt × List UInt8) (o:ROp):rdC 1 c s o=cmpRd c s o:=by unfold rdC;rw [if_pos rfl]

theorem cmpRd_st (c:Cfg) (st:CSt) (l:List UInt8) (o:ROp) (ho:o=.byte∨o=.i16∨o=.i32∨o=.i64∨o=.dbl∨o=.str∨o=.uuid):cmpRd c (st,l) o=(cmpRd c (CR0,l) o).map fun r=>(r.1,r.2.1,(st,r.2.2.2)):=by
  rcases ho with rfl | rfl | rfl | rfl | rfl | rfl | rfl
  · cases l <;> rfl
  · show (v64 l).map _=((v64 l).map _).map _
    cases v64 l <;> rfl
  · show (v64 l).map _=((v64 l).map _).map _
    cases v64 l <;> rfl
  · show (v64 l).map _=((v64 l).map _).map _
    cases v64 l <;> rfl
  · show (takeN 8 l).map _=((takeN 8 l).map _).map _
    cases takeN 8 l <;> rfl
  · show (cRdStr c l).map _=((cRdStr c l).map _).map _
    cases cRdStr c l <;> rfl
  · show (takeN 16 l).map _=((takeN 16 l).map _).map _
    cases takeN 16 l <;> rfl

theorem contK_any (c:Cfg) (n m rem:Int) (hc:65536≤c.container) (hm:1048576≤c.message) (h0:0≤n) (h1:n≤65536) (h2:0≤n * m) (h3:n * m≤1048576) (hr:n * m≤rem):contK c n m rem=0:=by
  unfold contK sizeK
  rw [if_neg (by omega),if_neg (by omega),if_neg (by omega),if_neg (by omega),if_neg (by omega),if_neg (by omega),if_neg (by omega)]

theorem b8_nat (x:Nat) (h:x < 256):x.toUInt8.toNat=x:=by
  simp only [Nat.toUInt8,UInt8.toNat_ofNat']
  omega

theorem cType_cc {t:Int} (h:isT t=true):cType (cCode t:Int)=some t∧1≤cCode t∧cCode t≤13:=by
  rcases isT_is h with rfl | rfl | rfl | rfl | rfl | rfl | rfl | rfl | rfl | rfl | rfl | rfl <;> exact ⟨by decide,by decide,by decide⟩

theorem minC_least (t:Int):minC t=leastOf 1 t:=by unfold minC leastOf;rw [if_pos rfl]

theorem fld_back (c:Cfg) (st:CSt) {last id:Int} {code:Nat} {t:Int} (hl:st.last=last) (h0:in16 last) (h1:in16 id) (hc:1≤code∧code≤13) (ht:cType (code:Int)=some t) (r:List UInt8) :
    cmpRd c (st,cHead last id code++r) .fldB=some ({ t:=t,id:=id },0,(st.at_ (code:Int) id,r)):=by
  unfold in16 at h0 h1
  unfold cHead
  by_cases hn:last < id∧id - last≤15
  · rw [if_pos hn]
    show cRdFld st _ r=_
    have hx:((id - last).toNat * 16+code).toUInt8.toNat=(id - last).toNat * 16+code:=b8_nat _ (by omega)
    unfold cRdFld
    rw [hx,show ((((id - last).toNat * 16+code:Nat):Int)) % 16=code by omega,show ((((id - last).toNat * 16+code:Nat):Int)) / 16=id - last by omega,if_neg (by omega),ht,Option.bind_some,if_neg (by omega),hl]
    have e:IntKind.i16.wrap (IntKind.i16.wrap last+(id - last))=id:=by rw [wrap_i16,wrap_i16];omega
    rw [e]
  · rw [if_neg hn]
    show cRdFld st _ (Lib.uvarint (Lib.zigzag id)++r)=_
    have hx:code.toUInt8.toNat=code:=b8_nat _ (by omega)
    unfold cRdFld
    rw [hx,show ((code:Int)) % 16=code by omega,show ((code:Int)) / 16=0 by omega,if_neg (by omega),ht,Option.bind_some,if_pos rfl,v64_uvarint _ _ (zz_lt64 id (by omega) (by omega)),Option.map_some]
    dsimp only
    rw [unz32_zz id (by omega) (by omega)]
    have e:IntKind.i16.wrap id=id:=by rw [wrap_i16];omega
    rw [e]

theorem cmp_coll (c:Cfg) (hc:65536≤c.container) (hm:1048576≤c.message) (st:CSt) (e:Int) (n:Nat) (r:List UInt8) (he:isT e=true) (hn:n≤65536) (hr:(n:Int) * leastOf 1 e≤r.length) :
    ∃ x l,CC.coll e n++r=x :: l∧cRdLst c st x l=some ({ t:=e,size:=n },0,(st,r)):=by
  obtain ⟨ht,h1,h2⟩:=cType_cc he
  have hl:=leastOf_pos 1 e
  have h3:(n:Int) * leastOf 1 e≤(n:Int) * 16:=Int.mul_le_mul_of_nonneg_left hl.2 (by omega)
  have h4:0≤(n:Int) * leastOf 1 e:=Int.mul_nonneg (by omega) hl.1
  have hC:contK c (n:Int) (minC e) r.length=0:=by rw [minC_least];exact contK_any c n _ _ hc hm (by omega) (by omega) h4 (by omega) hr
  simp only [CC]
  by_cases h14:n≤14
  · rw [if_pos h14]
    refine ⟨_,r,rfl,?_⟩
    have hx:(n * 16+cCode e).toUInt8.toNat=n * 16+cCode e:=b8_nat _ (by omega)
    unfold cRdLst cSize
    rw [hx,if_neg (by omega),Option.bind_some,show ((n * 16+cCode e:Nat):Int) % 16=(cCode e:Int) by omega,ht,Option.map_some,show (n * 16+cCode e) / 16=n by omega]
    dsimp only
    rw [hC]
  · rw [if_neg h14]
    refine ⟨(240+cCode e).toUInt8,Lib.uvarint n++r,rfl,?_⟩
    have hx:(240+cCode e).toUInt8.toNat=240+cCode e:=b8_nat _ (by omega)
    unfold cRdLst cSize
    rw [hx,if_pos (by omega),v64_nat n (Nat.le_trans hn (by decide)),Option.map_some,Option.bind_some,show ((240+cCode e:Nat):Int) % 16=(cCode e:Int) by omega,ht,Option.map_some]
    dsimp only
    rw [show wrap32 (n:Int)=n by unfold wrap32;omega,hC]

theorem cmp_map (c:Cfg) (hc:65536≤c.container) (hm:1048576≤c.message) (st:CSt) (k e:Int) (n:Nat) (r:List UInt8) (hke:(isT k=true∧isT e=true)∨(n=0∧k=0∧e=0)) (hn:n≤32768) (hr:(n:Int) * (leastOf 1 k+leastOf 1 e)≤r.length) :
    ∃ g:RGot,g.k=(if n=0 then 0 else k)∧g.t=(if n=0 then 0 else e)∧g.size=n∧cmpRd c (st,CC.map k e n++r) .mapB=some (g,0,(st,r)):=by
  have hlk:=leastOf_pos 1 k
  have hle:=leastOf_pos 1 e
  have h3:(n:Int) * (leastOf 1 k+leastOf 1 e)≤(n:Int) * 32:=Int.mul_le_mul_of_nonneg_left (by omega) (by omega)
  have h4:0≤(n:Int) * (leastOf 1 k+leastOf 1 e):=Int.mul_nonneg (by omega) (by omega)
  have hC:contK c (n:Int) (minC k+minC e) r.length=0:=by rw [minC_least,minC_least];exact contK_any c n _ _ hc hm (by omega) (by omega) h4 (by omega) hr
  have hrd:∀ L,cmpRd c (st,L) .mapB=(v64 L).bind fun a=>cRdMap c st a.1 a.2:=fun L=>rfl
  simp only [CC]
  by_cases h0:n=0
  · subst h0
    refine ⟨{},rfl,rfl,rfl,?_⟩
    simp only [if_true]
    have e0:v64 ([0]++r)=some (0,r):=by
      have h:=v64_nat 0 (by omega) r
      rw [Lib.uvarint_small (by omega)] at h
      exact h
    rw [hrd,e0,Option.bind_some]
    unfold cRdMap
    dsimp only
    rw [if_pos (show wrap32 0=0 by unfold wrap32;omega),contK_any c 0 _ _ hc hm (by omega) (by omega) (by omega) (by omega) (by omega)]
  · obtain ⟨hk,he⟩:isT k=true∧isT e=true:=by
      rcases hke with h | h
      · exact h
      · exact absurd h.1 h0
    obtain ⟨tk,k1,k2⟩:=cType_cc hk
    obtain ⟨te,e1,e2⟩:=cType_cc he
    have hn0:¬ (n:Int)=0:=by omega
    have d1:((cCode k * 16+cCode e:Nat):Int) / 16=(cCode k:Int):=by omega
    have d2:((cCode k * 16+cCode e:Nat):Int) % 16=(cCode e:Int):=by omega
    have hlt:cCode k * 16+cCode e < 256:=by omega
    have hw:wrap32 (n:Int)=n:=by unfold wrap32;omega
    refine ⟨{ k:=k,t:=e,size:=n },(if_neg h0).symm,(if_neg h0).symm,rfl,?_⟩
    have hx:(cCode k * 16+cCode e).toUInt8.toNat=cCode k * 16+cCode e:=b8_nat _ hlt
    rw [if_neg h0,List.append_assoc,hrd,v64_nat n (Nat.le_trans hn (by decide)),Option.bind_some]
    unfold cRdMap
    dsimp only [List.cons_append,List.nil_append]
    rw [hw,if_neg hn0,hx,d1,d2,tk,te,Option.bind_some,Option.map_some,hC]

theorem cmp_leaf (c:Cfg) (hm:1048576≤c.message) (st:CSt) (hb:st.bn=false) (t n:Int) (s:List UInt8) (o:ROp) (r:List UInt8) (ho:ropOf t=some o) (hn:i64r n) (hs:s.length≤65536) :
    cmpRd c (st,CC.leaf t n s++r) o=some ({ n:=numO t n,s:=txtO t s },0,(st,r)):=by
  have hh:=hn
  unfold i64r at hh
  have key:∀ (o':ROp) (l:List UInt8) (g:RGot),(o'=.byte∨o'=.i16∨o'=.i32∨o'=.i64∨o'=.dbl∨o'=.str∨o'=.uuid)→rdC 1 c (CR0,l++r) o'=some (g,0,(CR0,r))→cmpRd c (st,l++r) o'=some (g,0,(st,r)):=fun o' l g h1 h2=>by
    rw [rdC_1] at h2
    rw [cmpRd_st c st _ o' h1,h2]
    rfl
  unfold ropOf at ho
  by_cases h2:t=2
  · subst h2
    rw [if_pos rfl] at ho
    injection ho with ho
    subst ho
    by_cases h0:n=0
    · subst h0
      show (if st.bn=true then _ else _)=_
      rw [hb]
      rfl
    · have hl:CC.leaf 2 n s=[1]:=by simp [CC,h0]
      rw [hl]
      show (if st.bn=true then _ else _)=_
      rw [hb]
      simp [numO,txtO,h0]
  rw [if_neg h2] at ho
  by_cases h3:t=3
  · subst h3
    rw [if_pos rfl] at ho
    injection ho with ho
    subst ho
    exact key .byte _ _ (by simp) (rd_byte c (w8 n) (by unfold w8;omega) (by unfold w8;omega) r)
  rw [if_neg h3] at ho
  by_cases h4:t=4
  · subst h4
    rw [if_pos rfl] at ho
    injection ho with ho
    subst ho
    exact key .dbl _ _ (by simp) (rd_dbl c n hh.1 hh.2 r)
  rw [if_neg h4] at ho
  by_cases h6:t=6
  · subst h6
    rw [if_pos rfl] at ho
    injection ho with ho
    subst ho
    exact key .i16 _ _ (by simp) (rd_i16 c (w16 n) (by unfold w16;omega) (by unfold w16;omega) r)
  rw [if_neg h6] at ho
  by_cases h8:t=8
  · subst h8
    rw [if_pos rfl] at ho
    injection ho with ho
    subst ho
    exact key .i32 _ _ (by simp) (rd_i32 c (wrap32 n) (by unfold wrap32;omega) (by unfold wrap32;omega) r)
  rw [if_neg h8] at ho
  by_cases h10:t=10
  · subst h10
    rw [if_pos rfl] at ho
    injection ho with ho
    subst ho
    exact key .i64 _ _ (by simp) (rd_i64 c n hh.1 hh.2 r)
  rw [if_neg h10] at ho
  by_cases h11:t=11
  · subst h11
    rw [if_pos rfl] at ho
    injection ho with ho
    subst ho
    refine key .str _ _ (by simp) ?_
    rw [rdC_1]
    show (cRdStr c (cText s++r)).map (fun b=>(({ s:=b.1 }:RGot),b.2.1,(CR0,b.2.2)))=_
    rw [rdStr_any c hm s (by omega)]
    rfl
  rw [if_neg h11] at ho
  by_cases h16:t=16
  · subst h16
    rw [if_pos rfl] at ho
    injection ho with ho
    subst ho
    refine key .uuid _ _ (by simp) ?_
    rw [rdC_1]
    show (takeN 16 (u16 s++r)).map (fun a=>(({ s:=a.1 }:RGot),0,(CR0,a.2)))=_
    unfold takeN
    rw [if_pos (by rw [List.length_append,u16_length];omega),Option.map_some,List.take_left' (u16_length s),List.drop_left' (u16_length s)]
    rfl
  rw [if_neg h16] at ho
  cases ho

def backC (c:Cfg) (hc:65536≤c.container) (hm:1048576≤c.message):Back CC (leastOf 1) (rdC 1 c) where
  Q:=fun stk last st=>st.stk=stk.reverse∧st.last=last∧st.bn=false
  leaf:=fun hQ t n s o r ho hn hs=>by rw [rdC_1];exact cmp_leaf c hm _ hQ.2.2 t n s o r ho hn hs
  enter:=fun {stk last st} hQ hs=>by
    refine ⟨{ st with stk:=st.stk++[st.last],last:=0 },⟨by simp [hQ.1,hQ.2.1],rfl,hQ.2.2⟩,fun r=>?_⟩
    rw [rdC_1]
    show (if st.stk.length < 5000000000000 then _ else _)=_
    rw [if_pos (by rw [hQ.1,List.length_reverse];omega)]
  leave:=fun {stk last x st} hQ=>by
    refine ⟨{ st with stk:=st.stk.dropLast,last:=x },⟨by simp [hQ.1],rfl,hQ.2.2⟩,fun r=>?_⟩
    have e:st.stk.getLast?=some x:=by rw [hQ.1];simp
    rw [rdC_1]
    show (match st.stk.getLast? with | some x=>_ | none=>_)=_
    rw [e]
  stop:=fun hQ r=>⟨{},rfl,by rw [rdC_1];rfl⟩
  field:=fun {stk last st} hQ t id n ht hid hl hb=>by
    obtain ⟨h1,h2,h3⟩:=cType_cc ht
    refine ⟨{ st with last:=id },⟨hQ.1,rfl,hQ.2.2⟩,fun r=>⟨{ t:=t,id:=id },rfl,rfl,?_⟩⟩
    have ht2:¬ t=2:=fun h=>hb ⟨rfl,h⟩
    have hcf:CC.field last t id n=cHead last id (cCode t):=by simp only [CC];rw [if_neg ht2]
    have ha:st.at_ (cCode t:Int) id={ st with last:=id }:=by
      unfold CSt.at_
      rw [if_neg]
      intro h
      rcases isT_is ht with rfl | rfl | rfl | rfl | rfl | rfl | rfl | rfl | rfl | rfl | rfl | rfl <;> first | exact ht2 rfl | (revert h;decide)
    rw [rdC_1,hcf,fld_back c st hQ.2.1 hl hid ⟨h2,h3⟩ h1 r,ha]
  fieldB:=fun _ {stk last st} hQ id n hid hl=>by
    by_cases h0:n=0
    · subst h0
      refine ⟨st.at_ 2 id,{ st.at_ 2 id with bn:=false },⟨hQ.1,rfl,rfl⟩,fun r=>⟨⟨{ t:=2,id:=id },rfl,rfl,?_⟩,?_⟩⟩
      · rw [rdC_1]
        exact fld_back c st hQ.2.1 hl hid ⟨by decide,by decide⟩ (code:=2) (by decide) r
      · rw [rdC_1]
        rfl
    · refine ⟨st.at_ 1 id,{ st.at_ 1 id with bn:=false },⟨hQ.1,rfl,rfl⟩,fun r=>⟨⟨{ t:=2,id:=id },rfl,rfl,?_⟩,?_⟩⟩
      · have hcf:CC.field last 2 id n=cHead last id 1:=by simp [CC,h0]
        rw [rdC_1,hcf]
        exact fld_back c st hQ.2.1 hl hid ⟨by decide,by decide⟩ (code:=1) (by decide) r
      · rw [rdC_1]
        have hno:numO 2 n=1:=by simp [numO,h0]
        rw [hno]
        rfl
  ends:=fun s o ho=>by
    rw [rdC_1]
    rcases ho with rfl | rfl | rfl | rfl <;> rfl
  coll:=fun {stk last st} hQ e n o r ho he hn hr=>by
    obtain ⟨x,l,h1,h2⟩:=cmp_coll c hc hm st e n r he hn hr
    refine ⟨{ t:=e,size:=n },rfl,rfl,?_⟩
    rw [h1,rdC_1]
    rcases ho with rfl | rfl <;> exact h2
  map:=fun {stk last st} hQ k e n r hke hn hr=>by
    obtain ⟨g,h1,h2,h3,h4⟩:=cmp_map c hc hm st k e n r hke hn hr
    refine ⟨g,?_,?_,h3,by rw [rdC_1];exact h4⟩
    · rw [h1];simp [CC]
    · rw [h2];simp [CC]
  lst0:=fun t=>(leastOf_pos 1 t).1
  least:=fun v hv=>by
    have h:=gen_least 1 v hv
    exact h

end Go.Proofs.YtmjcnomgpikncaaGreatDoor

namespace Go.Proofs.YtmjcnomgpikncaaGreatDoor

open Go.RowKit Go.Deep



theorem rdC_0 (c:Cfg) (s:CSt × List UInt8) (o:ROp):rdC 0 c s o=(binRd c s.2 o).map fun r=>(r.1,r.2.1,(s.1,r.2.2)):=by unfold rdC;rw [if_neg (by decide)]

theorem be_back (k N:Nat) (n:Int) (hN:n % (256:Int) ^ k=N) (hk:N < 256 ^ k) (R:List UInt8):takeN k (be k n++R)=some (be k n,R)∧Lib.beNat (be k n)=N:=by
  have e1:be k n=Lib.beBytes k N:=by unfold be;rw [hN,Int.toNat_natCast]
  have hl:(be k n).length=k:=by rw [e1];exact Lib.beBytes_length k N
  refine ⟨?_,?_⟩
  · unfold takeN
    rw [if_pos (by rw [List.length_append,hl];omega),List.take_left' hl,List.drop_left' hl]
  · rw [e1,Lib.beNat_beBytes k N hk]

theorem be2_back (n:Int) (h0:-32768≤n) (h1:n < 32768) (R:List UInt8):takeN 2 (be 2 n++R)=some (be 2 n,R)∧i16w (be 2 n)=n:=by
  obtain ⟨N,hN⟩:∃ N:Nat,n % 65536=N:=⟨(n % 65536).toNat,by omega⟩
  obtain ⟨h2,h3⟩:=be_back 2 N n hN (by show N < 65536;omega) R
  refine ⟨h2,?_⟩
  unfold i16w
  rw [h3,wrap_i16]
  omega

theorem be4_back (n:Int) (h0:-2147483648≤n) (h1:n < 2147483648) (R:List UInt8):takeN 4 (be 4 n++R)=some (be 4 n,R)∧wrap32 (Lib.beNat (be 4 n))=n:=by
  obtain ⟨N,hN⟩:∃ N:Nat,n % 4294967296=N:=⟨(n % 4294967296).toNat,by omega⟩
  obtain ⟨h2,h3⟩:=be_back 4 N n hN (by show N < 4294967296;omega) R
  refine ⟨h2,?_⟩
  rw [h3]
  unfold wrap32
  omega

theorem be8_back (n:Int) (R:List UInt8):takeN 8 (be 8 n++R)=some (be 8 n,R)∧wrap64 (Lib.beNat (be 8 n))=wrap64 n:=by
  obtain ⟨N,hN⟩:∃ N:Nat,n % 18446744073709551616=N:=⟨(n % 18446744073709551616).toNat,by omega⟩
  obtain ⟨h2,h3⟩:=be_back 8 N n hN (by show N < 18446744073709551616;omega) R
  refine ⟨h2,?_⟩
  rw [h3]
  unfold wrap64
  omega

theorem u8_nat {t:Int} (h:0≤t∧t < 256):(((u8 t).toNat:Nat):Int)=t:=by
  unfold u8
  rw [b8_nat _ (by omega)]
  omega

theorem minB_least (t:Int):minB t=leastOf 0 t:=by unfold minB leastOf;rw [if_neg (show ¬ (0:Int)=1 by decide)]

theorem bin_leaf (c:Cfg) (hm:1048576≤c.message) (t n:Int) (s:List UInt8) (o:ROp) (r:List UInt8) (ho:ropOf t=some o) (hn:i64r n) (hs:s.length≤65536) :
    binRd c (CB.leaf t n s++r) o=some ({ n:=numO t n,s:=txtO t s },0,r):=by
  have hh:=hn
  unfold i64r at hh
  have hw64:wrap64 n=n:=by unfold wrap64;omega
  unfold ropOf at ho
  by_cases h2:t=2
  · subst h2
    rw [if_pos rfl] at ho
    injection ho with ho
    subst ho
    by_cases h0:n=0
    · subst h0
      rfl
    · have hl:CB.leaf 2 n s=[1]:=by simp [CB,h0]
      rw [hl]
      show some (({ n:=if (1:UInt8)=1 then 1 else 0 }:RGot),0,r)=_
      simp [numO,txtO,h0]
  rw [if_neg h2] at ho
  by_cases h3:t=3
  · subst h3
    rw [if_pos rfl] at ho
    injection ho with ho
    subst ho
    show some (({ n:=i8w (u8 (w8 n)) }:RGot),0,r)=_
    have e:i8w (u8 (w8 n))=w8 n:=by
      have e1:(u8 (w8 n)).toNat=(w8 n % 256).toNat:=by unfold u8;exact b8_nat _ (by omega)
      unfold i8w
      rw [e1,wrap_i8]
      unfold w8
      omega
    rw [e]
    rfl
  rw [if_neg h3] at ho
  by_cases h4:t=4
  · subst h4
    rw [if_pos rfl] at ho
    injection ho with ho
    subst ho
    obtain ⟨e1,e2⟩:=be8_back ((IntKind.u64.wrap n).toNat:Nat) r
    show (takeN 8 (be 8 ((IntKind.u64.wrap n).toNat:Nat)++r)).map (fun a=>(({ n:=wrap64 (Lib.beNat a.1) }:RGot),0,a.2))=_
    rw [e1,Option.map_some,e2]
    have e3:wrap64 ((IntKind.u64.wrap n).toNat:Nat)=n:=by
      rw [IntKind.wrap_u64]
      unfold wrap64
      omega
    rw [e3]
    rfl
  rw [if_neg h4] at ho
  by_cases h6:t=6
  · subst h6
    rw [if_pos rfl] at ho
    injection ho with ho
    subst ho
    obtain ⟨e1,e2⟩:=be2_back (w16 n) (by unfold w16;omega) (by unfold w16;omega) r
    show (takeN 2 (be 2 (w16 n)++r)).map (fun a=>(({ n:=i16w a.1 }:RGot),0,a.2))=_
    rw [e1,Option.map_some,e2]
    rfl
  rw [if_neg h6] at ho
  by_cases h8:t=8
  · subst h8
    rw [if_pos rfl] at ho
    injection ho with ho
    subst ho
    obtain ⟨e1,e2⟩:=be4_back (wrap32 n) (by unfold wrap32;omega) (by unfold wrap32;omega) r
    show (takeN 4 (be 4 (wrap32 n)++r)).map (fun a=>(({ n:=wrap32 (Lib.beNat a.1) }:RGot),0,a.2))=_
    rw [e1,Option.map_some,e2]
    rfl
  rw [if_neg h8] at ho
  by_cases h10:t=10
  · subst h10
    rw [if_pos rfl] at ho
    injection ho with ho
    subst ho
    obtain ⟨e1,e2⟩:=be8_back n r
    show (takeN 8 (be 8 n++r)).map (fun a=>(({ n:=wrap64 (Lib.beNat a.1) }:RGot),0,a.2))=_
    rw [e1,Option.map_some,e2,hw64]
    rfl
  rw [if_neg h10] at ho
  by_cases h11:t=11
  · subst h11
    rw [if_pos rfl] at ho
    injection ho with ho
    subst ho
    obtain ⟨e1,e2⟩:=be4_back (s.length:Int) (by omega) (by omega) (s++r)
    have hk:sizeK c (s.length:Int)=0:=by unfold sizeK;rw [if_neg (by omega),if_neg (by omega)]
    have hl:CB.leaf 11 n s=be 4 s.length++s:=rfl
    rw [hl,List.append_assoc]
    show ((takeN 4 (be 4 s.length++(s++r))).bind fun a=>if sizeK c (wrap32 (Lib.beNat a.1))=0 then (takeN (wrap32 (Lib.beNat a.1)).toNat a.2).map fun b=>(({ s:=b.1 }:RGot),0,b.2) else some ({},sizeK c (wrap32 (Lib.beNat a.1)),a.2))=_
    rw [e1,Option.bind_some]
    dsimp only
    rw [e2,if_pos hk,Int.toNat_natCast]
    unfold takeN
    rw [if_pos (by rw [List.length_append];omega),Option.map_some,List.take_left' rfl,List.drop_left' rfl]
    rfl
  rw [if_neg h11] at ho
  by_cases h16:t=16
  · subst h16
    rw [if_pos rfl] at ho
    injection ho with ho
    subst ho
    show (takeN 16 (u16 s++r)).map (fun a=>(({ s:=a.1 }:RGot),0,a.2))=_
    unfold takeN
    rw [if_pos (by rw [List.length_append,u16_length];omega),Option.map_some,List.take_left' (u16_length s),List.drop_left' (u16_length s)]
    rfl
  rw [if_neg h16] at ho
  cases ho

theorem bin_coll (c:Cfg) (hc:65536≤c.container) (hm:1048576≤c.message) (e:Int) (n:Nat) (o:ROp) (r:List UInt8) (ho:o=.lstB∨o=.setB) (he:isT e=true) (hn:n≤65536) (hr:(n:Int) * leastOf 0 e≤r.length) :
    binRd c (CB.coll e n++r) o=some ({ t:=e,size:=n },0,r):=by
  have hl:=leastOf_pos 0 e
  have h3:(n:Int) * leastOf 0 e≤(n:Int) * 16:=Int.mul_le_mul_of_nonneg_left hl.2 (by omega)
  have h4:0≤(n:Int) * leastOf 0 e:=Int.mul_nonneg (by omega) hl.1
  have hu:=u8_nat (isT_lt he)
  have hC:contK c (n:Int) (minB ((u8 e).toNat:Nat)) r.length=0:=by rw [hu,minB_least];exact contK_any c n _ _ hc hm (by omega) (by omega) h4 (by omega) hr
  obtain ⟨e1,e2⟩:=be4_back (n:Int) (by omega) (by omega) r
  have key:((takeN 4 (be 4 (n:Int)++r)).map fun a =>
        let n:=wrap32 (Lib.beNat a.1)
        let k:=contK c n (minB (u8 e).toNat) a.2.length
        ((if k=0 then { t:=(u8 e).toNat,size:=n } else { t:=(u8 e).toNat }:RGot),k,a.2))=some ({ t:=e,size:=n },0,r):=by
    rw [e1,Option.map_some]
    dsimp only
    rw [e2,hC,if_pos rfl,hu]
  rcases ho with rfl | rfl <;> exact key

theorem bin_map (c:Cfg) (hc:65536≤c.container) (hm:1048576≤c.message) (k e:Int) (n:Nat) (r:List UInt8) (hke:(isT k=true∧isT e=true)∨(n=0∧k=0∧e=0)) (hn:n≤32768) (hr:(n:Int) * (leastOf 0 k+leastOf 0 e)≤r.length) :
    binRd c (CB.map k e n++r) .mapB=some ({ k:=k,t:=e,size:=n },0,r):=by
  have hlk:=leastOf_pos 0 k
  have hle:=leastOf_pos 0 e
  have h3:(n:Int) * (leastOf 0 k+leastOf 0 e)≤(n:Int) * 32:=Int.mul_le_mul_of_nonneg_left (by omega) (by omega)
  have h4:0≤(n:Int) * (leastOf 0 k+leastOf 0 e):=Int.mul_nonneg (by omega) (by omega)
  have hb:(0≤k∧k < 256)∧(0≤e∧e < 256):=by
    rcases hke with h | h
    · exact ⟨isT_lt h.1,isT_lt h.2⟩
    · omega
  have hu:=u8_nat hb.1
  have hv:=u8_nat hb.2
  have hC:contK c (n:Int) (minB ((u8 k).toNat:Nat)+minB ((u8 e).toNat:Nat)) r.length=0:=by rw [hu,hv,minB_least,minB_least];exact contK_any c n _ _ hc hm (by omega) (by omega) h4 (by omega) hr
  obtain ⟨e1,e2⟩:=be4_back (n:Int) (by omega) (by omega) r
  show ((takeN 4 (be 4 (n:Int)++r)).map fun a =>
        let n:=wrap32 (Lib.beNat a.1)
        let q:=contK c n (minB (u8 k).toNat+minB (u8 e).toNat) a.2.length
        ((if q=0 then { k:=(u8 k).toNat,t:=(u8 e).toNat,size:=n } else { k:=(u8 k).toNat,t:=(u8 e).toNat }:RGot),q,a.2))=_
  rw [e1,Option.map_some]
  dsimp only
  rw [e2,hC,if_pos rfl,hu,hv]

def backB (c:Cfg) (hc:65536≤c.container) (hm:1048576≤c.message):Back CB (leastOf 0) (rdC 0 c) where
  Q:=fun stk last st=>True
  leaf:=fun hQ t n s o r ho hn hs=>by rw [rdC_0];dsimp only;rw [bin_leaf c hm t n s o r ho hn hs];rfl
  enter:=fun {stk last st} hQ hs=>⟨st,trivial,fun r=>by rw [rdC_0];rfl⟩
  leave:=fun {stk last x st} hQ=>⟨st,trivial,fun r=>by rw [rdC_0];rfl⟩
  stop:=fun hQ r=>⟨{},rfl,by rw [rdC_0];rfl⟩
  field:=fun {stk last st} hQ t id n ht hid hl hb=>by
    refine ⟨st,trivial,fun r=>⟨{ t:=t,id:=id },rfl,rfl,?_⟩⟩
    unfold in16 at hid
    obtain ⟨e1,e2⟩:=be2_back id hid.1 hid.2 r
    have hu:=u8_nat (isT_lt ht)
    have hn0:¬ u8 t=0:=fun h=>by
      rw [h] at hu
      have:=isT_is ht
      have h0:(((0:UInt8).toNat:Nat):Int)=0:=rfl
      omega
    rw [rdC_0]
    show ((if u8 t=0 then some (({}:RGot),0,be 2 id++r) else (takeN 2 (be 2 id++r)).map fun a=>(({ t:=(u8 t).toNat,id:=i16w a.1 }:RGot),0,a.2))).map _=_
    rw [if_neg hn0,e1,Option.map_some,Option.map_some,e2,hu]
  fieldB:=fun h=>by cases h
  ends:=fun s o ho=>by
    rw [rdC_0]
    rcases ho with rfl | rfl | rfl | rfl <;> rfl
  coll:=fun {stk last st} hQ e n o r ho he hn hr=>by
    refine ⟨{ t:=e,size:=n },rfl,rfl,?_⟩
    rw [rdC_0]
    dsimp only
    rw [bin_coll c hc hm e n o r ho he hn hr]
    rfl
  map:=fun {stk last st} hQ k e n r hke hn hr=>by
    refine ⟨{ k:=k,t:=e,size:=n },by simp [CB],by simp [CB],rfl,?_⟩
    rw [rdC_0]
    dsimp only
    rw [bin_map c hc hm k e n r hke hn hr]
    rfl
  lst0:=fun t=>(leastOf_pos 0 t).1
  least:=fun v hv=>gen_least 0 v hv

theorem back_rd (proto:Int) (hp:proto=0∨proto=1) (c:Cfg) (hc:65536≤c.container) (hm:1048576≤c.message) (V:Val) (hV:rightV V=true) (hw:wfV V) (ht:tot V≤65536) (f:Nat) (D:Int) (hf:tot V < f) (hD:(deepV V:Int)≤D) (r:List UInt8) :
    ∃ st',getV (rdC proto c) f D V.f0 (CR0,gen (codec proto) V++r)=some (plV (decide (proto=1)) V,0,(st',r)):=by
  rcases hp with rfl | rfl
  · obtain ⟨st',-,h⟩:=back (backB c hc hm) V hV hw ht f D [] 0 CR0 hf hD (by simp;omega) trivial
    exact ⟨st',h r⟩
  · obtain ⟨st',-,h⟩:=back (backC c hc hm) V hV hw ht f D [] 0 CR0 hf hD (by simp;omega) ⟨rfl,rfl,rfl⟩
    exact ⟨st',h r⟩

end Go.Proofs.YtmjcnomgpikncaaGreatDoor

namespace Go.Proofs.YtmjcnomgpikncaaGreatDoor

open Go.RowKit Go.Deep



section

variable {σ τ:Type} {run:σ→ROp→Option (RGot × Nat × σ)} {run':τ→ROp→Option (RGot × Nat × τ)} (f:σ→τ) (hrun:∀ s o,run' (f s) o=(run s o).map fun r=>(r.1,r.2.1,f r.2.2))

theorem getL_sim {gv:Int→σ→Option (Val × Nat × σ)} {gv':Int→τ→Option (Val × Nat × τ)} (h:∀ t s,gv' t (f s)=(gv t s).map fun r=>(r.1,r.2.1,f r.2.2)) :
    ∀ ts l s,getL gv' ts l (f s)=(getL gv ts l s).map fun r=>(r.1,r.2.1,f r.2.2)
  | [],l,s=>rfl
  | t :: ts,l,s=>by
    rw [getL,getL,h t s]
    cases gv t s with
    | none=>rfl
    | some r =>
      obtain ⟨v,k,s1⟩:=r
      simp only [Option.map_some,Option.bind_some]
      by_cases hk:k=0
      · simp only [hk,if_true]
        exact getL_sim h ts _ s1
      · simp only [if_neg hk,Option.map_some]

include hrun in
theorem getF_sim {gv:Int→σ→Option (Val × Nat × σ)} {gv':Int→τ→Option (Val × Nat × τ)} (h:∀ t s,gv' t (f s)=(gv t s).map fun r=>(r.1,r.2.1,f r.2.2)) :
    ∀ n ids l s,getF run' gv' n ids l (f s)=(getF run gv n ids l s).map fun r=>(r.1,r.2.1,f r.2.2)
  | 0,ids,l,s=>rfl
  | n+1,ids,l,s=>by
    rw [getF,getF,hrun]
    cases run s .fldB with
    | none=>rfl
    | some a =>
      obtain ⟨g,k,s1⟩:=a
      simp only [Option.map_some,Option.bind_some]
      by_cases hk:k=0
      · simp only [hk,if_true]
        by_cases ht:g.t=0
        · simp only [ht,if_true]
          rw [hrun]
          cases run s1 .strE <;> rfl
        · simp only [if_neg ht]
          rw [h]
          cases gv g.t s1 with
          | none=>rfl
          | some r =>
            obtain ⟨v,k2,s2⟩:=r
            simp only [Option.map_some,Option.bind_some]
            by_cases hk2:k2=0
            · simp only [hk2,if_true]
              rw [hrun]
              cases run s2 .fldE with
              | none=>rfl
              | some b =>
                obtain ⟨g3,k3,s3⟩:=b
                simp only [Option.map_some,Option.bind_some]
                by_cases hk3:k3=0
                · simp only [hk3,if_true]
                  exact getF_sim h n _ _ s3
                · simp only [if_neg hk3,Option.map_some]
            · simp only [if_neg hk2,Option.map_some]
      · simp only [if_neg hk,Option.map_some]

include hrun in
theorem getList_sim {gv:Int→σ→Option (Val × Nat × σ)} {gv':Int→τ→Option (Val × Nat × τ)} (h:∀ t s,gv' t (f s)=(gv t s).map fun r=>(r.1,r.2.1,f r.2.2)) (t:Int) (ob oe:ROp) (s:σ) :
    getList run' gv' t ob oe (f s)=(getList run gv t ob oe s).map fun r=>(r.1,r.2.1,f r.2.2):=by
  rw [getList,getList,hrun]
  cases run s ob with
  | none=>rfl
  | some a =>
    obtain ⟨g,k,s1⟩:=a
    simp only [Option.map_some,Option.bind_some]
    by_cases hk:k=0
    · simp only [hk,if_true]
      by_cases hs:100000 < g.size
      · simp only [if_pos hs,Option.map_some]
      · simp only [if_neg hs]
        rw [getL_sim f h]
        cases getL gv (List.replicate g.size.toNat g.t) [] s1 with
        | none=>rfl
        | some r =>
          obtain ⟨v,k2,s2⟩:=r
          simp only [Option.map_some,Option.bind_some]
          by_cases hk2:k2=0
          · simp only [hk2,if_true]
            rw [hrun]
            cases run s2 oe <;> rfl
          · simp only [if_neg hk2,Option.map_some]
    · simp only [if_neg hk,Option.map_some]

include hrun in
theorem getMap_sim {gv:Int→σ→Option (Val × Nat × σ)} {gv':Int→τ→Option (Val × Nat × τ)} (h:∀ t s,gv' t (f s)=(gv t s).map fun r=>(r.1,r.2.1,f r.2.2)) (s:σ) :
    getMap run' gv' (f s)=(getMap run gv s).map fun r=>(r.1,r.2.1,f r.2.2):=by
  rw [getMap,getMap,hrun]
  cases run s .mapB with
  | none=>rfl
  | some a =>
    obtain ⟨g,k,s1⟩:=a
    simp only [Option.map_some,Option.bind_some]
    by_cases hk:k=0
    · simp only [hk,if_true]
      by_cases hs:100000 < g.size
      · simp only [if_pos hs,Option.map_some]
      · simp only [if_neg hs]
        rw [getL_sim f h]
        cases getL gv (pairs g.k g.t g.size.toNat) [] s1 with
        | none=>rfl
        | some r =>
          obtain ⟨v,k2,s2⟩:=r
          simp only [Option.map_some,Option.bind_some]
          by_cases hk2:k2=0
          · simp only [hk2,if_true]
            rw [hrun]
            cases run s2 .mapE <;> rfl
          · simp only [if_neg hk2,Option.map_some]
    · simp only [if_neg hk,Option.map_some]

include hrun in
theorem getV_sim:∀ (n:Nat) (D t:Int) (s:σ),getV run' n D t (f s)=(getV run n D t s).map fun r=>(r.1,r.2.1,f r.2.2)
  | 0,D,t,s=>rfl
  | n+1,D,t,s=>by
    rw [getV,getV]
    by_cases hD:D≤0
    · simp only [if_pos hD,Option.map_some]
    simp only [if_neg hD]
    cases ropOf t with
    | some o =>
      dsimp only
      rw [hrun]
      cases run s o <;> rfl
    | none =>
      dsimp only
      by_cases h12:t=12
      · simp only [if_pos h12]
        rw [hrun]
        cases run s .strB with
        | none=>rfl
        | some a =>
          obtain ⟨g,k,s1⟩:=a
          simp only [Option.map_some,Option.bind_some]
          by_cases hk:k=0
          · simp only [hk,if_true]
            exact getF_sim f hrun (fun t s=>getV_sim n (D - 1) t s) n [] [] s1
          · simp only [if_neg hk,Option.map_some]
      simp only [if_neg h12]
      by_cases h13:t=13
      · simp only [if_pos h13]
        exact getMap_sim f hrun (fun t s=>getV_sim n (D - 1) t s) s
      simp only [if_neg h13]
      by_cases h14:t=14
      · simp only [if_pos h14]
        exact getList_sim f hrun (fun t s=>getV_sim n (D - 1) t s) 14 .setB .setE s
      simp only [if_neg h14]
      by_cases h15:t=15
      · simp only [if_pos h15]
        exact getList_sim f hrun (fun t s=>getV_sim n (D - 1) t s) 15 .lstB .lstE s
      simp only [if_neg h15,Option.map_some]

end

end Go.Proofs.YtmjcnomgpikncaaGreatDoor

namespace Go.Proofs.YtmjcnomgpikncaaGreatDoor

open Go.RowKit Go.Proofs.YtmjcnomgpikncaaGreatDoorW.PrintWords Go.Proofs.YtmjcnomgpikncaaGreatDoorW.PrintLast Go.Proofs.YtmjcnomgpikncaaGreatDoorW.PrintMore

attribute [local go_sem] max2_int min2_int max_two min_two max_three min_three max_four min_four



mutual
def laws_deepness.j0:Nat→Int→Bool→Int→Int→List Int→Int→Int→List Int→List (Val)→Option (Int)
  | 0,_,_,_,_,_,_,_,_,_=>none
  | k+1,x3,x12,x128000,x128001,x128002,x128003,x128004,x128005,x128006=>if x12=true then (laws_deepness.l0 k x3 0 x128000 x128001 x128002 x128003 x128004 x128005 x128006) else (some (wrap64 (x3+1)))
def laws_deepness.l0:Nat→Int→Int→Int→Int→List Int→Int→Int→List Int→List (Val)→Option (Int)
  | 0,_,_,_,_,_,_,_,_,_=>none
  | k+1,x3,x4,x128000,x128001,x128002,x128003,x128004,x128005,x128006=>if x4 < (x128006.length:Int) then (if 0≤x4 then ((laws_deepness.f k ((rd_Val x128006 x4).f0) ((rd_Val x128006 x4).f1) ((rd_Val x128006 x4).f2) ((rd_Val x128006 x4).f3) ((rd_Val x128006 x4).f4) ((rd_Val x128006 x4).f5) ((rd_Val x128006 x4).f6)).bind fun t129=>(laws_deepness.l0 k (mx x3 t129) (wrap64 (x4+1)) x128000 x128001 x128002 x128003 x128004 x128005 x128006)) else (none)) else (some (wrap64 (x3+1)))
def laws_deepness.f:Nat→Int→Int→List Int→Int→Int→List Int→List (Val)→Option (Int)
  | 0,_,_,_,_,_,_,_=>none
  | k+1,a0_0,a0_1,l0_2,a0_3,a0_4,l0_5,l0_6=>if a0_0 ≥ 12 then (laws_deepness.j0 k 0 (decide (a0_0≤15)) a0_0 a0_1 l0_2 a0_3 a0_4 l0_5 l0_6) else (laws_deepness.j0 k 0 false a0_0 a0_1 l0_2 a0_3 a0_4 l0_5 l0_6)
end

theorem laws_deepness.mono_l:∀ k,(∀ y0 y1 y2 y3 y4 y5 y6,LeO (laws_deepness.f k y0 y1 y2 y3 y4 y5 y6) (laws_deepness.f (k+1) y0 y1 y2 y3 y4 y5 y6))∧(∀ y0 y1 y2 y3 y4 y5 y6 y7 y8,LeO (laws_deepness.j0 k y0 y1 y2 y3 y4 y5 y6 y7 y8) (laws_deepness.j0 (k+1) y0 y1 y2 y3 y4 y5 y6 y7 y8))∧(∀ y0 y1 y2 y3 y4 y5 y6 y7 y8,LeO (laws_deepness.l0 k y0 y1 y2 y3 y4 y5 y6 y7 y8) (laws_deepness.l0 (k+1) y0 y1 y2 y3 y4 y5 y6 y7 y8))
  | 0=>⟨fun _ _ _ _ _ _ _ r h=>by simp [laws_deepness.f] at h,fun _ _ _ _ _ _ _ _ _ r h=>by simp [laws_deepness.j0] at h,fun _ _ _ _ _ _ _ _ _ r h=>by simp [laws_deepness.l0] at h⟩
  | k+1=>by
    obtain ⟨ih0,ih1,ih2⟩:=laws_deepness.mono_l k
    refine ⟨?_,?_,?_⟩
    · intro y0 y1 y2 y3 y4 y5 y6
      unfold laws_deepness.f
      repeat' first
      | (with_reducible exact ih0 _ _ _ _ _ _ _)
      | (with_reducible exact ih1 _ _ _ _ _ _ _ _ _)
      | (with_reducible exact ih2 _ _ _ _ _ _ _ _ _)
      | (with_reducible exact LeO.refl _)
      | (with_reducible exact LeO.none _)
      | (with_reducible refine LeO.ite ?_ ?_)
      | (with_reducible refine LeO.bind ?_ (fun _=>?_))
      | exact ih0 _ _ _ _ _ _ _
      | exact ih1 _ _ _ _ _ _ _ _ _
      | exact ih2 _ _ _ _ _ _ _ _ _
      | exact LeO.none _
      | refine LeO.ite ?_ ?_
      | refine LeO.bind ?_ (fun _=>?_)
    · intro y0 y1 y2 y3 y4 y5 y6 y7 y8
      unfold laws_deepness.j0
      repeat' first
      | (with_reducible exact ih0 _ _ _ _ _ _ _)
      | (with_reducible exact ih1 _ _ _ _ _ _ _ _ _)
      | (with_reducible exact ih2 _ _ _ _ _ _ _ _ _)
      | (with_reducible exact LeO.refl _)
      | (with_reducible exact LeO.none _)
      | (with_reducible refine LeO.ite ?_ ?_)
      | (with_reducible refine LeO.bind ?_ (fun _=>?_))
      | exact ih0 _ _ _ _ _ _ _
      | exact ih1 _ _ _ _ _ _ _ _ _
      | exact ih2 _ _ _ _ _ _ _ _ _
      | exact LeO.none _
      | refine LeO.ite ?_ ?_
      | refine LeO.bind ?_ (fun _=>?_)
    · intro y0 y1 y2 y3 y4 y5 y6 y7 y8
      unfold laws_deepness.l0
      repeat' first
      | (with_reducible exact ih0 _ _ _ _ _ _ _)
      | (with_reducible exact ih1 _ _ _ _ _ _ _ _ _)
      | (with_reducible exact ih2 _ _ _ _ _ _ _ _ _)
      | (with_reducible exact LeO.refl _)
      | (with_reducible exact LeO.none _)
      | (with_reducible refine LeO.ite ?_ ?_)
      | (with_reducible refine LeO.bind ?_ (fun _=>?_))
      | exact ih0 _ _ _ _ _ _ _
      | exact ih1 _ _ _ _ _ _ _ _ _
      | exact ih2 _ _ _ _ _ _ _ _ _
      | exact LeO.none _
      | refine LeO.ite ?_ ?_
      | refine LeO.bind ?_ (fun _=>?_)

theorem laws_deepness.mono:∀ a0 a1 a2 a3 a4 a5 a6 k,LeO (laws_deepness.f k a0 a1 a2 a3 a4 a5 a6) (laws_deepness.f (k+1) a0 a1 a2 a3 a4 a5 a6):=by
  intro a0 a1 a2 a3 a4 a5 a6 k
  obtain ⟨ih0,ih1,ih2⟩:=laws_deepness.mono_l k
  exact ih0 a0 a1 a2 a3 a4 a5 a6

set_option maxHeartbeats 8000000 in
set_option maxRecDepth 100000 in
theorem laws_deepness.calls (k:Nat):∀ (a0_0:Int) (a0_1:Int) (A0_2:Option Addr) (c0_2:Nat) (l0_2:List Int) (a0_3:Int) (a0_4:Int) (A0_5:Option Addr) (c0_5:Nat) (l0_5:List Int) (A0_6:Option Addr) (c0_6:Nat) (l0_6:List (Val)) (r:Int) (w:World) (hr0_2:Kd.C (Kd.int .u8) w A0_2 l0_2.length l0_2) (hc0_2:l0_2.length≤c0_2) (hr0_5:Kd.C (Kd.int .i64) w A0_5 l0_5.length l0_5) (hc0_5:l0_5.length≤c0_5) (hr0_6:Kd.C kVal w A0_6 l0_6.length l0_6) (hc0_6:l0_6.length≤c0_6) (h:laws_deepness.f k a0_0 a0_1 l0_2 a0_3 a0_4 l0_5 l0_6=some r),
 Calls Tryz.prog 20 #[.agg #[.int .i64 a0_0,.int .i64 a0_1,.slice A0_2 l0_2.length c0_2,.int .i64 a0_3,.int .i64 a0_4,.slice A0_5 l0_5.length c0_5,.slice A0_6 l0_6.length c0_6]] w fun e w'=>e=.returned (.int .i64 r)∧Below w.heap.size w w':=by
 induction k using Nat.strongRecOn with
 | _ k ih =>
 intro a0_0 a0_1 A0_2 c0_2 l0_2 a0_3 a0_4 A0_5 c0_5 l0_5 A0_6 c0_6 l0_6 r w hr0_2 hc0_2 hr0_5 hc0_5 hr0_6 hc0_6 h
 cases k with
 | zero=>exact absurd h (by simp [laws_deepness.f])
 | succ k =>
 simp only [laws_deepness.f] at h
 have hu28:=Tryz.underlying28
 have HR0_2:=Aside0.mk hr0_2
 have HC0_2:=Aside0.mk hc0_2
 clear hr0_2 hc0_2
 have HR0_5:=Aside0.mk hr0_5
 have HC0_5:=Aside0.mk hc0_5
 clear hr0_5 hc0_5
 have HR0_6:=Aside0.mk hr0_6
 have HC0_6:=Aside0.mk hc0_6
 clear hr0_6 hc0_6
 have HB:=Aside0.mk (Below.refl w.heap.size w)
 have H:(if a0_0 ≥ 12 then (laws_deepness.j0 k 0 (decide (a0_0≤15)) a0_0 a0_1 l0_2 a0_3 a0_4 l0_5 l0_6) else (laws_deepness.j0 k 0 false a0_0 a0_1 l0_2 a0_3 a0_4 l0_5 l0_6))=some r:=h
 clear h
 have HC2:=Aside0.mk H
 clear H
 go_enter Tryz.func20,Tryz.ntmps20
 go_upto_region 2 with (first | ((with_reducible refine gate_dst (N:=1) rfl ?_);refine box_event ?hg (N:=1) ?hd (cs:=#[.int .i64 a0_0,.int .i64 a0_1,.slice A0_2 l0_2.length c0_2,.int .i64 a0_3,.int .i64 a0_4,.slice A0_5 l0_5.length c0_5,.slice A0_6 l0_6.length c0_6]) (t:=28) ?hr ?_;(case hd=>rfl);(case hg=>rfl);(case hr=>first | (go_simp;done) | (go_simp;rfl));intro gb127 hg w3 hbox hb;have n0_:=Aside0.mk (below_step (by repeat (first | (with_reducible first | exact HB.out | apply below_alloc | apply pw_below_drewN | apply below_drew1) | exact HB.out)) hb);have n1_:=Aside0.mk (hbox);have n2_:=Aside0.mk ((by rw [hg];exact (below_size (by repeat (first | (with_reducible first | exact HB.out | apply below_alloc | apply pw_below_drewN | apply below_drew1) | exact HB.out))):w.heap.size≤gb127));have n3_:=Aside0.mk ((by rw [hg];exact (below_size (by repeat (first | (with_reducible first | exact HB.out | apply below_alloc | apply pw_below_drewN | apply below_drew1) | exact HB.out))):w.heap.size≤gb127));clear HB;have HB:=n0_;have BK127:=n1_;have GW127:=n2_;have GE127:=n3_;clear n0_ n1_ n2_ n3_;clear hb hbox hg))
 (try simp only [Act.put,List.setIfInBounds_toArray,List.set_cons_zero,List.set_cons_succ])
 go_cut [12] (fun v12 wc=>∃ (kq:Nat) (x12_1:Bool),v12=.bool x12_1∧Aside0 (laws_deepness.j0 kq 0 x12_1 a0_0 a0_1 l0_2 a0_3 a0_4 l0_5 l0_6=some r)∧Aside0 (kq≤k)∧Aside0 (wc.heap[gb127]?=some (.cells #[.int .i64 a0_0,.int .i64 a0_1,(.slice A0_2 l0_2.length c0_2),.int .i64 a0_3,.int .i64 a0_4,(.slice A0_5 l0_5.length c0_5),(.slice A0_6 l0_6.length c0_6)] 28 (0,0)))∧Aside0 (Below w.heap.size w wc))
 case first =>
  have H:=HC2.out
  clear HC2
  by_cases c4:a0_0 ≥ 12
  · rw [if_pos c4] at H
    have c4b0:decide (12≤a0_0)=true:=decide_eq_true c4
    clear c4
    (first | rw [c4b0] | (simp only [i64_w,i32_w];rw [c4b0]) | skip)
    have H':=Aside0.mk H
    clear H
    have hcz5_0:w3.cell? ⟨gb127,0,none⟩=some (.int .i64 a0_0):=(blk_cell BK127.out 0).trans rfl
    have hcz5_1:w3.cell? ⟨gb127,1,none⟩=some (.int .i64 a0_1):=(blk_cell BK127.out 1).trans rfl
    have hcz5_2:w3.cell? ⟨gb127,2,none⟩=some (.slice A0_2 l0_2.length c0_2):=(blk_cell BK127.out 2).trans rfl
    have hcz5_3:w3.cell? ⟨gb127,3,none⟩=some (.int .i64 a0_3):=(blk_cell BK127.out 3).trans rfl
    have hcz5_4:w3.cell? ⟨gb127,4,none⟩=some (.int .i64 a0_4):=(blk_cell BK127.out 4).trans rfl
    have hcz5_5:w3.cell? ⟨gb127,5,none⟩=some (.slice A0_5 l0_5.length c0_5):=(blk_cell BK127.out 5).trans rfl
    have hcz5_6:w3.cell? ⟨gb127,6,none⟩=some (.slice A0_6 l0_6.length c0_6):=(blk_cell BK127.out 6).trans rfl
    have hfz5_0:=blk_frozen BK127.out 0
    have hfz5_1:=blk_frozen BK127.out 1
    have hfz5_2:=blk_frozen BK127.out 2
    have hfz5_3:=blk_frozen BK127.out 3
    have hfz5_4:=blk_frozen BK127.out 4
    have hfz5_5:=blk_frozen BK127.out 5
    have hfz5_6:=blk_frozen BK127.out 6
    go_wp2
    go_meet
    case rel=>exact ⟨_,(decide (a0_0≤15)),(by first | rfl | (simp;done) | (simp [*];done)),H',⟨by first | omega | exact Nat.le_refl _⟩,⟨by (with_reducible repeat (first | refine blk_drewN ?_ _ | refine blk_drew ?_ | refine blk_alloc ?_ _));exact BK127.out⟩,⟨by repeat (first | (with_reducible first | exact HB.out | apply below_alloc | apply pw_below_drewN | apply below_drew1 | refine below_set ?_ GE127.out) | exact HB.out)⟩⟩
  · rw [if_neg c4] at H
    have c4b0:decide (12≤a0_0)=false:=decide_eq_false c4
    clear c4
    (first | rw [c4b0] | (simp only [i64_w,i32_w];rw [c4b0]) | skip)
    have H':=Aside0.mk H
    clear H
    have hcz6_0:w3.cell? ⟨gb127,0,none⟩=some (.int .i64 a0_0):=(blk_cell BK127.out 0).trans rfl
    have hcz6_1:w3.cell? ⟨gb127,1,none⟩=some (.int .i64 a0_1):=(blk_cell BK127.out 1).trans rfl
    have hcz6_2:w3.cell? ⟨gb127,2,none⟩=some (.slice A0_2 l0_2.length c0_2):=(blk_cell BK127.out 2).trans rfl
    have hcz6_3:w3.cell? ⟨gb127,3,none⟩=some (.int .i64 a0_3):=(blk_cell BK127.out 3).trans rfl
    have hcz6_4:w3.cell? ⟨gb127,4,none⟩=some (.int .i64 a0_4):=(blk_cell BK127.out 4).trans rfl
    have hcz6_5:w3.cell? ⟨gb127,5,none⟩=some (.slice A0_5 l0_5.length c0_5):=(blk_cell BK127.out 5).trans rfl
    have hcz6_6:w3.cell? ⟨gb127,6,none⟩=some (.slice A0_6 l0_6.length c0_6):=(blk_cell BK127.out 6).trans rfl
    have hfz6_0:=blk_frozen BK127.out 0
    have hfz6_1:=blk_frozen BK127.out 1
    have hfz6_2:=blk_frozen BK127.out 2
    have hfz6_3:=blk_frozen BK127.out 3
    have hfz6_4:=blk_frozen BK127.out 4
    have hfz6_5:=blk_frozen BK127.out 5
    have hfz6_6:=blk_frozen BK127.out 6
    go_wp2
    go_meet
    case rel=>exact ⟨_,(false),(by first | rfl | (simp;done) | (simp [*];done)),H',⟨by first | omega | exact Nat.le_refl _⟩,⟨by (with_reducible repeat (first | refine blk_drewN ?_ _ | refine blk_drew ?_ | refine blk_alloc ?_ _));exact BK127.out⟩,⟨by repeat (first | (with_reducible first | exact HB.out | apply below_alloc | apply pw_below_drewN | apply below_drew1 | refine below_set ?_ GE127.out) | exact HB.out)⟩⟩
 case rest =>
  clear HC2
  try clear c2
  try clear p2
  try clear c4
  try clear c4b0
  try clear hcz5_0
  try clear hcz5_1
  try clear hcz5_2
  try clear hcz5_3
  try clear hcz5_4
  try clear hcz5_5
  try clear hcz5_6
  try clear hcz6_0
  try clear hcz6_1
  try clear hcz6_2
  try clear hcz6_3
  try clear hcz6_4
  try clear hcz6_5
  try clear hcz6_6
  try clear hfz5_0
  try clear hfz5_1
  try clear hfz5_2
  try clear hfz5_3
  try clear hfz5_4
  try clear hfz5_5
  try clear hfz5_6
  try clear hfz6_0
  try clear hfz6_1
  try clear hfz6_2
  try clear hfz6_3
  try clear hfz6_4
  try clear hfz6_5
  try clear hfz6_6
  obtain ⟨kq,x12_1,rfl,HA,HJ1,BK127,HB⟩:=hcut
  cases kq with
  | zero=>exact absurd HA.out (by simp [laws_deepness.j0])
  | succ kj1 =>
   have H:=HA.out
   clear HA
   simp only [laws_deepness.j0] at H
   by_cases c7:x12_1=true
   · subst c7
     have H1:(laws_deepness.l0 kj1 0 0 a0_0 a0_1 l0_2 a0_3 a0_4 l0_5 l0_6)=some r:=by rw [if_pos rfl] at H;exact H
     clear H
     have H:=H1
     clear H1
     have H':=Aside0.mk H
     clear H
     go_wp2
     go_loopg [3,4] kj1 (fun kq v3 v4 w'=>∃ (x3_2:Int) (x4_2:Int),v3=.int .i64 x3_2∧v4=.int .i64 x4_2∧Aside0 (laws_deepness.l0 kq x3_2 x4_2 a0_0 a0_1 l0_2 a0_3 a0_4 l0_5 l0_6=some r)∧Aside0 (kq≤kj1)∧Aside0 (w'.heap[gb127]?=some (.cells #[.int .i64 a0_0,.int .i64 a0_1,(.slice A0_2 l0_2.length c0_2),.int .i64 a0_3,.int .i64 a0_4,(.slice A0_5 l0_5.length c0_5),(.slice A0_6 l0_6.length c0_6)] 28 (0,0)))∧Aside0 (Below w.heap.size w w'))
     case atStart=>exact ⟨(0),(0),(by first | rfl | (simp;done) | (simp [*];done)),(by first | rfl | (simp;done) | (simp [*];done)),H',⟨Nat.le_refl _⟩,⟨by (with_reducible repeat (first | refine blk_drewN ?_ _ | refine blk_drew ?_ | refine blk_alloc ?_ _));exact BK127.out⟩,⟨by repeat (first | (with_reducible first | exact HB.out | apply below_alloc | apply pw_below_drewN | apply below_drew1 | refine below_set ?_ GE127.out) | exact HB.out)⟩⟩
     case round =>
      clear H'
      try clear c2
      try clear p2
      try clear c4
      try clear c4b0
      try clear c7
      try clear hcz5_0
      try clear hcz5_1
      try clear hcz5_2
      try clear hcz5_3
      try clear hcz5_4
      try clear hcz5_5
      try clear hcz5_6
      try clear hcz6_0
      try clear hcz6_1
      try clear hcz6_2
      try clear hcz6_3
      try clear hcz6_4
      try clear hcz6_5
      try clear hcz6_6
      try clear hfz5_0
      try clear hfz5_1
      try clear hfz5_2
      try clear hfz5_3
      try clear hfz5_4
      try clear hfz5_5
      try clear hfz5_6
      try clear hfz6_0
      try clear hfz6_1
      try clear hfz6_2
      try clear hfz6_3
      try clear hfz6_4
      try clear hfz6_5
      try clear hfz6_6
      try clear p2
      obtain ⟨x3_2,x4_2,rfl,rfl,HA,HK2,BK127,HB⟩:=hrel
      cases gk with
      | zero=>exact absurd HA.out (by simp [laws_deepness.l0])
      | succ k2 =>
       have H:=HA.out
       clear HA
       simp only [laws_deepness.l0] at H
       by_cases c8:x4_2 < (l0_6.length:Int)
       · rw [if_pos c8] at H
         have c8b0:decide (x4_2 < (l0_6.length:Int))=true:=decide_eq_true c8
         clear c8
         by_cases c9:0≤x4_2
         · rw [if_pos c9] at H
           have c9b0:decide (0≤x4_2)=true:=decide_eq_true c9
           clear c9
           replace H:=Option.bind_eq_some_iff.mp H
           obtain ⟨t129,A100,H⟩:=H
           replace H:(laws_deepness.l0 k2 (mx x3_2 t129) (wrap64 (x4_2+1)) a0_0 a0_1 l0_2 a0_3 a0_4 l0_5 l0_6)=some r:=H
           have A10:=Aside0.mk A100
           clear A100
           obtain ⟨ji11,hji11⟩:∃ j_:Int,(mx x3_2 t129)=j_:=⟨_,rfl⟩
           replace H:(laws_deepness.l0 k2 ji11 (wrap64 (x4_2+1)) a0_0 a0_1 l0_2 a0_3 a0_4 l0_5 l0_6)=some r:=by first | (rw [hji11] at H;exact H) | (simp only [hji11] at H ⊢;exact H)
           (try rw [hji11] at A10)
           have hji11_:(if x3_2 < t129 then t129 else x3_2)=ji11:=hji11
           have H':=Aside0.mk H
           clear H
           have hcz12_0:wr.cell? ⟨gb127,0,none⟩=some (.int .i64 a0_0):=(blk_cell BK127.out 0).trans rfl
           have hcz12_1:wr.cell? ⟨gb127,1,none⟩=some (.int .i64 a0_1):=(blk_cell BK127.out 1).trans rfl
           have hcz12_2:wr.cell? ⟨gb127,2,none⟩=some (.slice A0_2 l0_2.length c0_2):=(blk_cell BK127.out 2).trans rfl
           have hcz12_3:wr.cell? ⟨gb127,3,none⟩=some (.int .i64 a0_3):=(blk_cell BK127.out 3).trans rfl
           have hcz12_4:wr.cell? ⟨gb127,4,none⟩=some (.int .i64 a0_4):=(blk_cell BK127.out 4).trans rfl
           have hcz12_5:wr.cell? ⟨gb127,5,none⟩=some (.slice A0_5 l0_5.length c0_5):=(blk_cell BK127.out 5).trans rfl
           have hcz12_6:wr.cell? ⟨gb127,6,none⟩=some (.slice A0_6 l0_6.length c0_6):=(blk_cell BK127.out 6).trans rfl
           have hfz12_0:=blk_frozen BK127.out 0
           have hfz12_1:=blk_frozen BK127.out 1
           have hfz12_2:=blk_frozen BK127.out 2
           have hfz12_3:=blk_frozen BK127.out 3
           have hfz12_4:=blk_frozen BK127.out 4
           have hfz12_5:=blk_frozen BK127.out 5
           have hfz12_6:=blk_frozen BK127.out 6
           have p128:0≤(x4_2:Int):=of_decide_eq_true (by first | (with_reducible assumption) | assumption)
           have q128:x4_2 < (l0_6.length:Int):=of_decide_eq_true (by first | (with_reducible assumption) | assumption)
           obtain ⟨ad128,A128_2,c128_2,A128_5,c128_5,A128_6,c128_6,e128,hx128_0,hx128_1,hx128_2,hx128_3,hx128_4,hx128_5,hx128_6,hl128_2,hi128_2,hl128_5,hi128_5,hl128_6,hi128_6⟩:=at_Val HR0_6.out x4_2 p128 q128
           cases e128
           replace hx128_0:=(HB.out.cell (World.block_lt_of_cell? w _ hx128_0)).trans hx128_0
           replace hx128_1:=(HB.out.cell (World.block_lt_of_cell? w _ hx128_1)).trans hx128_1
           replace hx128_2:=(HB.out.cell (World.block_lt_of_cell? w _ hx128_2)).trans hx128_2
           replace hx128_3:=(HB.out.cell (World.block_lt_of_cell? w _ hx128_3)).trans hx128_3
           replace hx128_4:=(HB.out.cell (World.block_lt_of_cell? w _ hx128_4)).trans hx128_4
           replace hx128_5:=(HB.out.cell (World.block_lt_of_cell? w _ hx128_5)).trans hx128_5
           replace hx128_6:=(HB.out.cell (World.block_lt_of_cell? w _ hx128_6)).trans hx128_6
           have HR128_2:=Aside0.mk hi128_2
           have HC128_2:=Aside0.mk hl128_2
           clear hi128_2 hl128_2
           have HR128_5:=Aside0.mk hi128_5
           have HC128_5:=Aside0.mk hl128_5
           clear hi128_5 hl128_5
           have HR128_6:=Aside0.mk hi128_6
           have HC128_6:=Aside0.mk hl128_6
           clear hi128_6 hl128_6
           replace p128:=eq_true p128
           replace q128:=eq_true q128
           go_wp2_with (first | ((with_reducible refine gate_callee (f:=20) rfl ?_);refine goesL_ (some 26) rfl rfl Tryz.func20 (by kernel_rfl) rfl #[.agg #[.int .i64 ((rd_Val l0_6 x4_2).f0),.int .i64 ((rd_Val l0_6 x4_2).f1),.slice A128_2 ((rd_Val l0_6 x4_2).f2).length c128_2,.int .i64 ((rd_Val l0_6 x4_2).f3),.int .i64 ((rd_Val l0_6 x4_2).f4),.slice A128_5 ((rd_Val l0_6 x4_2).f5).length c128_5,.slice A128_6 ((rd_Val l0_6 x4_2).f6).length c128_6]] rfl (by (try simp only [List.map_toArray,List.map_cons,List.map_nil]);first | done | rfl | (simp only [List.length_drop,List.length_take];rfl)) ?_;(with_reducible refine (ih k2 (by have:=HJ1.out;have:=HK2.out;omega) ((rd_Val l0_6 x4_2).f0) ((rd_Val l0_6 x4_2).f1) _ _ ((rd_Val l0_6 x4_2).f2) ((rd_Val l0_6 x4_2).f3) ((rd_Val l0_6 x4_2).f4) _ _ ((rd_Val l0_6 x4_2).f5) _ _ ((rd_Val l0_6 x4_2).f6) t129 _ ?side1 ?side2 ?side3 ?side4 ?side5 ?side6 A10.out).mono ?_);(case side1=>repeat (first | exact (Kd.C_below HR128_2.out HB.out) | (with_reducible refine Kd.C_alloc ?_ _) | (with_reducible refine Kd.C_drewN ?_ _) | (with_reducible refine Kd.C_drew ?_)));(case side2=>exact HC128_2.out);(case side3=>repeat (first | exact (Kd.C_below HR128_5.out HB.out) | (with_reducible refine Kd.C_alloc ?_ _) | (with_reducible refine Kd.C_drewN ?_ _) | (with_reducible refine Kd.C_drew ?_)));(case side4=>exact HC128_5.out);(case side5=>repeat (first | exact (Kd.C_below HR128_6.out HB.out) | (with_reducible refine Kd.C_alloc ?_ _) | (with_reducible refine Kd.C_drewN ?_ _) | (with_reducible refine Kd.C_drew ?_)));(case side6=>exact HC128_6.out);rintro e w13 ⟨rfl,hb⟩;refine ⟨_,rfl,?_⟩;have n0_:=Aside0.mk (blk_below (g:=gb127) (o:=.cells #[.int .i64 a0_0,.int .i64 a0_1,.slice A0_2 l0_2.length c0_2,.int .i64 a0_3,.int .i64 a0_4,.slice A0_5 l0_5.length c0_5,.slice (some ad128) l0_6.length c0_6] 28 (0,0)) (by (with_reducible repeat (first | refine blk_drewN ?_ _ | refine blk_drew ?_ | refine blk_alloc ?_ _));exact BK127.out) hb);have n1_:=Aside0.mk (below_step (by repeat (first | (with_reducible first | exact HB.out | apply below_alloc | apply pw_below_drewN | apply below_drew1 | refine below_set ?_ GE127.out) | exact HB.out)) hb);clear BK127;clear HB;have BK127:=n0_;have HB:=n1_;clear n0_ n1_;(try clear hb);(try clear hb2);(try clear hk);(try clear hi)))
           go_roundg k2
           case measure=>have:=HJ1.out;have:=HK2.out;omega
           case rel=>exact ⟨(ji11),(wrap64 (x4_2+1)),(by first | rfl | (simp;done) | (simp only [← hji11] <;> (first | rfl | simp)) | (simp [*];done)),(by first | rfl | (simp;done) | (simp [*];done)),H',⟨by have:=HJ1.out;have:=HK2.out;omega⟩,⟨by (with_reducible repeat (first | refine blk_drewN ?_ _ | refine blk_drew ?_ | refine blk_alloc ?_ _));exact BK127.out⟩,⟨by repeat (first | (with_reducible first | exact HB.out | apply below_alloc | apply pw_below_drewN | apply below_drew1 | refine below_set ?_ GE127.out) | exact HB.out)⟩⟩
         · rw [if_neg c9] at H
           exact absurd H (by simp)
       · rw [if_neg c8] at H
         have c8b0:decide (x4_2 < (l0_6.length:Int))=false:=decide_eq_false c8
         clear c8
         obtain rfl:=Option.some.inj H
         have hcz14_0:wr.cell? ⟨gb127,0,none⟩=some (.int .i64 a0_0):=(blk_cell BK127.out 0).trans rfl
         have hcz14_1:wr.cell? ⟨gb127,1,none⟩=some (.int .i64 a0_1):=(blk_cell BK127.out 1).trans rfl
         have hcz14_2:wr.cell? ⟨gb127,2,none⟩=some (.slice A0_2 l0_2.length c0_2):=(blk_cell BK127.out 2).trans rfl
         have hcz14_3:wr.cell? ⟨gb127,3,none⟩=some (.int .i64 a0_3):=(blk_cell BK127.out 3).trans rfl
         have hcz14_4:wr.cell? ⟨gb127,4,none⟩=some (.int .i64 a0_4):=(blk_cell BK127.out 4).trans rfl
         have hcz14_5:wr.cell? ⟨gb127,5,none⟩=some (.slice A0_5 l0_5.length c0_5):=(blk_cell BK127.out 5).trans rfl
         have hcz14_6:wr.cell? ⟨gb127,6,none⟩=some (.slice A0_6 l0_6.length c0_6):=(blk_cell BK127.out 6).trans rfl
         have hfz14_0:=blk_frozen BK127.out 0
         have hfz14_1:=blk_frozen BK127.out 1
         have hfz14_2:=blk_frozen BK127.out 2
         have hfz14_3:=blk_frozen BK127.out 3
         have hfz14_4:=blk_frozen BK127.out 4
         have hfz14_5:=blk_frozen BK127.out 5
         have hfz14_6:=blk_frozen BK127.out 6
         go_wp2
         go_ret
         exact ⟨by first | rfl | (simp [Nat.add_zero] <;> rfl) | (simp [*,Nat.add_zero] <;> rfl) | (simp [wrap64];done) | (unfold wrap64;rfl),by repeat (first | (with_reducible first | exact HB.out | apply below_alloc | apply pw_below_drewN | apply below_drew1 | refine below_set ?_ GE127.out) | exact HB.out)⟩
   · replace c7:=Bool.eq_false_iff.mpr c7
     subst c7
     have H1:(some (wrap64 (0+1)))=some r:=by rw [if_neg (show ¬ (false=true) by decide)] at H;exact H
     clear H
     have H:=H1
     clear H1
     obtain rfl:=Option.some.inj H
     go_wp2
     go_ret
     exact ⟨by first | rfl | (simp [Nat.add_zero] <;> rfl) | (simp [*,Nat.add_zero] <;> rfl) | (simp [wrap64];done) | (unfold wrap64;rfl),by repeat (first | (with_reducible first | exact HB.out | apply below_alloc | apply pw_below_drewN | apply below_drew1 | refine below_set ?_ GE127.out) | exact HB.out)⟩

end Go.Proofs.YtmjcnomgpikncaaGreatDoor

namespace Go.Proofs.YtmjcnomgpikncaaGreatDoor

open Go.RowKit Go.Deep



open Go.Proofs.YtmjcnomgpikncaaGreatDoorW.PrintWords Go.Proofs.YtmjcnomgpikncaaGreatDoorW.PrintLast Go.Proofs.YtmjcnomgpikncaaGreatDoorW.PrintMore

theorem max_mx (a b:Nat):mx (a:Int) (b:Int)=((max a b:Nat):Int):=by unfold mx;split <;> omega

mutual
theorem deep_tot:∀ (v:Val),deepV v≤tot v
  | ⟨t,a,s,k,e,ids,L⟩=>by
    have:=deep_totL L
    simp only [deepV,tot]
    split <;> omega
theorem deep_totL:∀ (l:List Val),deepL l≤totL l
  | []=>by simp [deepL]
  | v :: l=>by
    have:=deep_tot v
    have:=deep_totL l
    simp only [deepL,totL]
    omega
end

mutual
theorem deepness_f:∀ (v:Val),okV v→tot v≤65536→∃ k,laws_deepness.f k v.f0 v.f1 v.f2 v.f3 v.f4 v.f5 v.f6=some (deepV v:Int)
  | ⟨t,a,s,k,e,ids,L⟩,h,ht=>by
    simp only [okV] at h
    simp only [tot] at ht
    obtain ⟨_,_,_,_,_,_,_,_,hl,hL⟩:=h
    by_cases hc:12≤t∧t≤15
    · obtain ⟨K,hK⟩:=deepness_l L hL (by omega) L 0 rfl hl 0 (by omega) t a s k e ids
      refine ⟨K+2,?_⟩
      rw [laws_deepness.f,if_pos hc.1,decide_eq_true hc.2,laws_deepness.j0,if_pos rfl]
      rw [show ((0:Nat):Int)=0 from rfl] at hK
      rw [hK]
      simp [deepV,hc]
    · refine ⟨2,?_⟩
      rw [laws_deepness.f]
      have e1:deepV ⟨t,a,s,k,e,ids,L⟩=1:=by simp only [deepV];rw [if_neg hc]
      rw [e1]
      by_cases h1:t ≥ 12
      · rw [if_pos h1,decide_eq_false (show ¬ t≤15 by omega),laws_deepness.j0,if_neg (by decide),w64i _ (by omega) (by omega)]
        rfl
      · rw [if_neg h1,laws_deepness.j0,if_neg (by decide),w64i _ (by omega) (by omega)]
        rfl
theorem deepness_l:∀ (l:List Val),okL l→totL l≤65536→∀ (L:List Val) (i:Nat),L.drop i=l→L.length≤9223372036854775807→∀ (x:Nat),x≤65536→∀ (t a:Int) (s:List Int) (k e:Int) (ids:List Int),
    ∃ K,laws_deepness.l0 K (x:Int) (i:Int) t a s k e ids L=some ((max x (deepL l)+1:Nat):Int)
  | [],_,_,L,i,hd,hl,x,hx,t,a,s,k,e,ids=>by
    have:=drop_nil hd
    refine ⟨1,?_⟩
    rw [laws_deepness.l0,if_neg (by omega),deepL,w64i _ (by omega) (by omega)]
    congr 1
    simp
  | v :: l,hk,ht,L,i,hd,hl,x,hx,t,a,s,k,e,ids=>by
    simp only [okL] at hk
    simp only [totL] at ht
    obtain ⟨hi,hv,hd'⟩:=drop_at hd
    have hb:=deep_tot v
    obtain ⟨k1,e1⟩:=deepness_f v hk.1 (by omega)
    obtain ⟨k2,e2⟩:=deepness_l l hk.2 (by omega) L (i+1) hd' hl (max x (deepV v)) (by omega) t a s k e ids
    have e1':=LeO_le (fun k=>laws_deepness.f k v.f0 v.f1 v.f2 v.f3 v.f4 v.f5 v.f6) (fun k=>laws_deepness.mono _ _ _ _ _ _ _ k) (show k1≤k1+k2 by omega) e1
    have e2':=LeO_le (fun q=>laws_deepness.l0 q ((max x (deepV v):Nat):Int) ((i+1:Nat):Int) t a s k e ids L) (fun q=>(laws_deepness.mono_l q).2.2 _ _ _ _ _ _ _ _ _) (show k2≤k1+k2 by omega) e2
    generalize k1+k2=m at e1' e2'
    replace e1':laws_deepness.f m v.f0 v.f1 v.f2 v.f3 v.f4 v.f5 v.f6=some (deepV v:Int):=e1'
    replace e2':laws_deepness.l0 m ((max x (deepV v):Nat):Int) ((i:Int)+1) t a s k e ids L=some ((max (max x (deepV v)) (deepL l)+1:Nat):Int):=by exact_mod_cast e2'
    refine ⟨m+1,?_⟩
    rw [laws_deepness.l0,if_pos (by omega),if_pos (by omega),hv,e1']
    simp only [Option.bind_some]
    rw [max_mx,w64i ((i:Int)+1) (by omega) (by omega),e2',deepL,Nat.max_assoc]
end

theorem deepness_any {V:Val} (hV:okV V) (ht:tot V≤65536) {w:World} {x0 x1 x2 x3 x4 x5 x6:Value} (hK:kVal.K w V [x0,x1,x2,x3,x4,x5,x6]) (W:World) (hB:Below w.heap.size w W) :
    Calls Tryz.prog 20 #[.agg #[x0,x1,x2,x3,x4,x5,x6]] W fun e w'=>e=.returned (.int .i64 (deepV V:Nat))∧Below W.heap.size W w':=by
  obtain ⟨k,hk⟩:=deepness_f V hV ht
  obtain ⟨A2,c2,A5,c5,A6,c6,he,l2,g2,l5,g5,l6,g6⟩:=kVal_open hK
  simp only [List.cons.injEq,and_true] at he
  obtain ⟨rfl,rfl,rfl,rfl,rfl,rfl,rfl⟩:=he
  exact laws_deepness.calls k V.f0 V.f1 A2 c2 V.f2 V.f3 V.f4 A5 c5 V.f5 A6 c6 V.f6 _ W (Kd.C_below g2 hB) l2 (Kd.C_below g5 hB) l5 (Kd.C_below g6 hB) l6 hk

theorem ints_ok (l:List UInt8):∀ x∈ints l,0≤x∧x < 256:=fun x hx=>by
  simp only [ints,List.mem_map] at hx
  obtain ⟨b,_,rfl⟩:=hx
  have:=b.toNat_lt
  omega

mutual
theorem pl_ok (z:Bool):∀ (v:Val),okV v→okV (plV z v)
  | ⟨t,n,s,k,e,ids,l⟩,h=>by
    simp only [okV] at h
    obtain ⟨h1,h2,h3,h4,h5,h6,h7,h8,h9,hL⟩:=h
    obtain ⟨g1,g2⟩:=pl_okL z l hL
    simp only [plV,okV]
    have hz:i64r 0:=⟨by decide,by decide⟩
    refine ⟨h1,?_,ints_ok _,?_,?_,?_,?_,?_,?_,?_⟩
    · unfold i64r at h2 ⊢
      unfold numO w8 w16 wrap32
      (repeat' split) <;> omega
    · split
      · exact h4
      · exact hz
    · split
      · exact h5
      · exact hz
    · split
      · intro x hx
        simp only [List.mem_map] at hx
        obtain ⟨y,_,rfl⟩:=hx
        unfold i64r w16
        omega
      · simp
    · rw [ints_length]
      unfold txtO
      split
      · rw [toB_len];exact h7
      · split
        · rw [u16_length];omega
        · simp
    · split
      · simpa using h8
      · simp
    · split
      · rw [g2];exact h9
      · simp
    · split
      · exact g1
      · simp [okL]
theorem pl_okL (z:Bool):∀ (l:List Val),okL l→okL (plL z l)∧(plL z l).length=l.length
  | [],h=>by simp [plL,okL]
  | v :: l,h=>by
    simp only [okL] at h
    have h1:=pl_ok z v h.1
    have h2:=pl_okL z l h.2
    simp only [plL,okL,List.length_cons]
    exact ⟨⟨h1,h2.1⟩,by omega⟩
end

end Go.Proofs.YtmjcnomgpikncaaGreatDoor
