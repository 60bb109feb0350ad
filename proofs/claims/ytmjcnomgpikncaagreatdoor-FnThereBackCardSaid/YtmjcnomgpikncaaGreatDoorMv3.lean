/- Texts, begins and steps are read by whatever protocol. No condition. -/
import Derived.Test.YtmjcnomgpikncaaGreatDoorMv2
import Derived.Test.YtmjcnomgpikncaaGreatDoorMt3
import Derived.Test.YtmjcnomgpikncaaGreatDoorMn
import Derived.Deep.AppendLies
import Derived.Test.YtmjcnomgpikncaaGreatDoorMa1
import Derived.Deep.Upon
set_option linter.unusedVariables false
set_option linter.unusedSimpArgs false
namespace Go.Proofs.YtmjcnomgpikncaaGreatDoor

open Go.RowKit Go.Deep



theorem conv_IsB2 {w:World} (l:List UInt8) {e:TypeId} {fz:Nat × Nat} {k cap:Nat} (h1:l.length≤cap) (h2:cap≤maxLen) (hw:w.heap[k]?=some (.cells (bytesRow ⟨l.toArray⟩ cap) e fz)):IsB (Lib.byteCells l) (.slice (some ⟨k,0,none⟩) l.length cap) k w:=by
  refine ⟨cap,.inr ⟨0,by rw [Lib.byteCells_length],by rw [Lib.byteCells_length];exact h1,h2,lt_heap hw,fun j x hj=>?_⟩⟩
  have hlt:j < l.length:=by have:=(List.getElem?_eq_some_iff.1 hj).1;rwa [Lib.byteCells_length] at this
  rw [cell_heap hw,Nat.zero_add,bytesRow_at _ _ j (by simpa using hlt)]
  rw [← hj]
  simp [Lib.byteCells,hlt]

abbrev gotV (g:RGot) (v:Value):Value:=.agg #[.int .i64 0,.int .i64 g.t,.int .i64 g.k,.int .i64 g.size,.int .i64 g.id,.int .i64 g.n,v]

def TellsG (P:PR) (g:RGot) (k:Nat) (s1:P.σ) (S:List Nat) (w:World) (e:Ending) (w':World):Prop :=
  ∃ ev v kb S',e=.returned (.tuple #[gotV g v,ev])∧IsB (Lib.byteCells g.s) v kb w'∧w.heap.size≤kb∧kb∉S'∧IsErr k ev w'∧P.Is S' s1 w'∧Step S S' w w'

set_option maxRecDepth 100000 in
set_option maxHeartbeats 2000000 in
theorem read_str (P:PR) (y1 y2 y3 y4 y5 y6:Value) {S:List Nat} {s:P.σ} {w:World} (h:P.Is S s w) {g:RGot} {k:Nat} {s1:P.σ} (hr:P.run s .str=some (g,k,s1)) :
    Calls Tryz.prog 73 #[.iface P.ty P.ptr,.agg #[.int .i64 19,y1,y2,y3,y4,y5,y6]] w (TellsG P { s:=g.s } k s1 S w):=by
  obtain ⟨hm,hn,hen⟩:=P.m_str
  have hc:=ctx_any
  have hfit:=P.fits hr
  have hg:g.s.length < 2147483648:=hfit.2.2.2.2.2.2.2.2.1
  obtain ⟨l,hgl⟩:∃ l,g.s=l:=⟨_,rfl⟩
  have hO:∀ W,Step [] [] w W→Calls Tryz.prog (P.fn "ReadString") #[P.ptr,ctxV] W (TellsV P.Is (fun ev=>.tuple #[strV g.s,ev]) k s1 S W):=fun W hW=>P.at_ h hr W hW
  rw [hgl] at hO hg ⊢
  have HO:=Lib.hid hO
  have HF:=Lib.hid (P.lt h)
  have hcv:=fun w s=>run_bytes_of_string (P:=Tryz.prog) w 9 24 5 s Tryz.underlying9 Tryz.underlying24 Tryz.underlying5
  clear hO hfit hr h hgl
  go_enter Tryz.func73,Tryz.ntmps73
  go_wp2_with (fail)
  go_region_held3 (fun _=>True) (trivial)
    (first
      | (go_at_call 53;refine (hc _).mono ?_;rintro e w' ⟨rfl,rfl⟩)
      | (refine (HO.out _ ?_).mono ?_;exact (((Step.refl _ _).alloc _).alloc _).drew;rintro e W1 ⟨ev,S1,rfl,he,hI,hs⟩;have hbx:=(hs.block (w.heap.size+1) (by simp) (fun hm=>by have:=HF.out _ hm;omega)).trans (heap_alloc_at (by simp) _);obtain ⟨c0,c1,c2,c3,c4,c5,c6⟩:=cells7 hbx;have hfz:=frozen_heap hbx;have hbl:=lt_heap hbx;have HX:=Lib.hid hbx;have HE:=Lib.hid he;have HI:=Lib.hid hI;have HS:=Lib.hid hs;clear he hI hs hbx))
  all_goals go_wp2
  all_goals (
    have hm:l.length≤maxLen:=by unfold maxLen;omega
    have hgc:=grownCap_ge W1 l.length 0 5
    have hgm:=grownCap_le_maxLen W1 l.length 0 5 hm
    obtain ⟨cap,hcap⟩:∃ c,grownCap W1 l.length 0 5=c:=⟨_,rfl⟩
    rw [hcap] at hgc hgm ⊢
    obtain ⟨W2,e2,h2,hs2⟩:=set7 HX.out (.int .i64 0) (.int .i64 0) (.int .i64 0) (.int .i64 0) (.int .i64 0) (.int .i64 0) (.slice (some ⟨W1.heap.size,0,none⟩) l.length cap)
    rw [e2]
    have hsz2:W2.heap.size=W1.heap.size:=by rw [← e2];simp
    obtain ⟨W3,hW3⟩:∃ W3,W3=(W2.alloc (.cells (bytesRow ⟨l.toArray⟩ cap) 5 ((bytesRow ⟨l.toArray⟩ cap).size,(bytesRow ⟨l.toArray⟩ cap).size+1))).drew:=⟨_,rfl⟩
    rw [← hW3]
    have h3:W3.heap[w.heap.size+1]?=some (.cells #[.int .i64 0,.int .i64 0,.int .i64 0,.int .i64 0,.int .i64 0,.int .i64 0,.slice (some ⟨W1.heap.size,0,none⟩) l.length cap] 49 (0,0)):=by rw [hW3];exact heap_alloc_old h2 _
    have hrow:W3.heap[W1.heap.size]?=some (.cells (bytesRow ⟨l.toArray⟩ cap) 5 ((bytesRow ⟨l.toArray⟩ cap).size,(bytesRow ⟨l.toArray⟩ cap).size+1)):=by rw [hW3,← hsz2];exact heap_alloc_new W2 _
    have hs3:Step [w.heap.size+1] [w.heap.size+1] W1 W3:=by rw [hW3];exact (hs2.alloc _).drew
    clear hW3
    obtain ⟨r0,r1,r2,r3,r4,r5,r6⟩:=cells7 h3
    refine bodyPost_ret (v:=.tuple #[gotV { s:=l } (.slice (some ⟨W1.heap.size,0,none⟩) l.length cap),ev]) (by simp [results,Tryz.results73,go_sem, *]) rfl ?_
    have hsz:∀ j,j∈S1→j∉[w.heap.size+1]:=fun j hj hm=>by
      simp only [List.mem_cons,List.not_mem_nil,or_false] at hm
      rcases HS.out.own j hj with h' | h'
      · have:=HF.out _ h';omega
      · simp at h';omega
    exact ⟨ev,_,W1.heap.size,S1,rfl,conv_IsB2 l hgc hgm hrow,by omega,fun hm=>Nat.lt_irrefl _ (P.lt HI.out _ hm),HE.out.step_at hs3 (fun b hb=>by simp only [List.mem_cons,List.not_mem_nil,or_false] at hb;subst hb;exact ⟨_,_,_,HX.out,by decide⟩),P.step HI.out hs3 hsz,(((((Step.refl _ _).alloc _).alloc _).drew).trans HS.out).fresh hs3 (by simp)⟩)

end Go.Proofs.YtmjcnomgpikncaaGreatDoor

namespace Go.Proofs.YtmjcnomgpikncaaGreatDoor

open Go.RowKit Go.Deep



end Go.Proofs.YtmjcnomgpikncaaGreatDoor

namespace Go.Proofs.YtmjcnomgpikncaaGreatDoor

open Go.RowKit Go.Deep



set_option maxRecDepth 100000 in
set_option maxHeartbeats 2000000 in
theorem begun_lst (P:PR) (y1 y2 y3 y4 y5 y6:Value) {S:List Nat} {s:P.σ} {w:World} (h:P.Is S s w) {g:RGot} {k:Nat} {s1:P.σ} (hr:P.run s .lstB=some (g,k,s1)) :
    Calls Tryz.prog 88 #[.iface P.ty P.ptr,.agg #[.int .i64 9,y1,y2,y3,y4,y5,y6]] w (TellsG P { t:=g.t,size:=g.size } k s1 S w):=by
  obtain ⟨hm,hn,hen⟩:=P.m_lstB
  have hc:=ctx_any
  have hfit:=P.fits hr
  have hgt:0≤g.t∧g.t < 256:=hfit.1 (by decide)
  have hgk:0≤g.k∧g.k < 256:=hfit.2.2.1
  have hgn:-2147483648≤g.size∧g.size < 2147483648:=hfit.2.2.2.1
  obtain ⟨t,h_t⟩:∃ x,g.t=x:=⟨_,rfl⟩
  obtain ⟨n,h_n⟩:∃ x,g.size=x:=⟨_,rfl⟩
  have hO:∀ W,Step [] [] w W→Calls Tryz.prog (P.fn "ReadListBegin") #[P.ptr,ctxV] W (TellsV P.Is (fun ev=>.tuple #[.int .u8 g.t,.int .i64 g.size,ev]) k s1 S W):=fun W hW=>P.at_ h hr W hW
  rw [h_t,h_n] at hO
  rw [h_t] at hgt
  rw [h_n] at hgn

  rw [h_t,h_n]
  have HO:=Lib.hid hO
  have HF:=Lib.hid (P.lt h)
  have hwt:IntKind.i64.wrap t=t:=by rw [IntKind.wrap_i64];omega
  have hwt2:wrap64 t=t:=by unfold wrap64;omega

  clear hO hfit hr h h_t h_n
  go_enter Tryz.func88,Tryz.ntmps88
  go_wp2_with (fail)
  go_region_held3 (fun _=>True) (trivial)
    (first
      | (go_at_call 53;refine (hc _).mono ?_;rintro e w' ⟨rfl,rfl⟩)
      | (refine (HO.out _ ?_).mono ?_;exact ((((Step.refl _ _).alloc _).alloc _).alloc _).drew;rintro e W1 ⟨ev,S1,rfl,he,hI,hs⟩;have hbx:=(hs.block (w.heap.size+1) (by simp) (fun hm=>by have:=HF.out _ hm;omega)).trans (heap_alloc_old (heap_alloc_at (by simp) _) _);have hbg:=(hs.block (w.heap.size+1+1) (by simp) (fun hm=>by have:=HF.out _ hm;omega)).trans (heap_alloc_at (by simp) _);obtain ⟨c0,c1,c2,c3,c4,c5,c6⟩:=cells7 hbx;obtain ⟨d0,d1,d2,d3,d4,d5,d6⟩:=cells7 hbg;have hfz:=frozen_heap hbx;have hfg:=frozen_heap hbg;have hbl:=lt_heap hbx;have HX:=Lib.hid hbx;have HG:=Lib.hid hbg;have HE:=Lib.hid he;have HI:=Lib.hid hI;have HS:=Lib.hid hs;clear he hI hs hbx hbg))
  all_goals go_wp2
  all_goals (
    have hx':(((W1.setCell ⟨w.heap.size+1+1,3,none⟩ (.int .i64 n)).setCell ⟨w.heap.size+1+1,1,none⟩ (.int .i64 t)).setCell ⟨w.heap.size+1+1,2,none⟩ (.int .i64 0)).heap[w.heap.size+1]?=some (.cells #[.int .i64 0,.int .i64 0,.int .i64 0,.int .i64 0,.int .i64 0,.int .i64 0,.slice none 0 0] 49 (0,0)) :=
      heap_set_other (heap_set_other (heap_set_other HX.out (by show w.heap.size+1≠w.heap.size+1+1;omega) _) (by show w.heap.size+1≠w.heap.size+1+1;omega) _) (by show w.heap.size+1≠w.heap.size+1+1;omega) _
    have hs1:Step [w.heap.size+1,w.heap.size+1+1] [w.heap.size+1,w.heap.size+1+1] W1 (((W1.setCell ⟨w.heap.size+1+1,3,none⟩ (.int .i64 n)).setCell ⟨w.heap.size+1+1,1,none⟩ (.int .i64 t)).setCell ⟨w.heap.size+1+1,2,none⟩ (.int .i64 0)) :=
      (((Step.refl _ W1).setCell (p:=⟨w.heap.size+1+1,3,none⟩) (.inl (by simp)) _).setCell (p:=⟨w.heap.size+1+1,1,none⟩) (.inl (by simp)) _).setCell (p:=⟨w.heap.size+1+1,2,none⟩) (.inl (by simp)) _
    obtain ⟨W3,e2,h3,hs2⟩:=set7 hx' (.int .i64 0) (.int .i64 t) (.int .i64 0) (.int .i64 n) (.int .i64 0) (.int .i64 0) (.slice none 0 0)
    rw [e2]
    have hs3:=hs1.trans (hs2.more (S1:=[w.heap.size+1,w.heap.size+1+1]) (T1:=[w.heap.size+1,w.heap.size+1+1]) (by simp) (fun k hk=>.inr (.inl hk)))
    clear e2 hs1 hs2 hx'
    obtain ⟨r0,r1,r2,r3,r4,r5,r6⟩:=cells7 h3
    refine bodyPost_ret (v:=.tuple #[gotV { t:=t,size:=n } (.slice none 0 0),ev]) (by simp [results,Tryz.results88,go_sem, *]) rfl ?_
    have hsz:∀ j,j∈S1→j∉[w.heap.size+1,w.heap.size+1+1]:=fun j hj hm=>by
      simp only [List.mem_cons,List.not_mem_nil,or_false] at hm
      rcases HS.out.own j hj with h' | h'
      · have:=HF.out _ h';omega
      · simp at h';omega
    have hI3:=P.step HI.out hs3 hsz
    have hwl:=HS.out.size
    simp at hwl
    exact ⟨ev,.slice none 0 0,W3.heap.size,S1,rfl,⟨0,.inl ⟨rfl,rfl⟩⟩,by have:=hs3.size;omega,fun hm=>Nat.lt_irrefl _ (P.lt hI3 _ hm),HE.out.step_at hs3 (fun b hb=>by
      simp only [List.mem_cons,List.not_mem_nil,or_false] at hb
      rcases hb with rfl | rfl
      · exact ⟨_,_,_,HX.out,by decide⟩
      · exact ⟨_,_,_,HG.out,by decide⟩),hI3,((((((Step.refl _ _).alloc _).alloc _).alloc _).drew).trans HS.out).fresh hs3 (fun k hk=>by simp only [List.mem_cons,List.not_mem_nil,or_false] at hk;omega)⟩)

end Go.Proofs.YtmjcnomgpikncaaGreatDoor

namespace Go.Proofs.YtmjcnomgpikncaaGreatDoor

open Go.RowKit Go.Deep



set_option maxRecDepth 100000 in
set_option maxHeartbeats 2000000 in
theorem begun_set (P:PR) (y1 y2 y3 y4 y5 y6:Value) {S:List Nat} {s:P.σ} {w:World} (h:P.Is S s w) {g:RGot} {k:Nat} {s1:P.σ} (hr:P.run s .setB=some (g,k,s1)) :
    Calls Tryz.prog 88 #[.iface P.ty P.ptr,.agg #[.int .i64 11,y1,y2,y3,y4,y5,y6]] w (TellsG P { t:=g.t,size:=g.size } k s1 S w):=by
  obtain ⟨hm,hn,hen⟩:=P.m_setB
  have hc:=ctx_any
  have hfit:=P.fits hr
  have hgt:0≤g.t∧g.t < 256:=hfit.1 (by decide)
  have hgk:0≤g.k∧g.k < 256:=hfit.2.2.1
  have hgn:-2147483648≤g.size∧g.size < 2147483648:=hfit.2.2.2.1
  obtain ⟨t,h_t⟩:∃ x,g.t=x:=⟨_,rfl⟩
  obtain ⟨n,h_n⟩:∃ x,g.size=x:=⟨_,rfl⟩
  have hO:∀ W,Step [] [] w W→Calls Tryz.prog (P.fn "ReadSetBegin") #[P.ptr,ctxV] W (TellsV P.Is (fun ev=>.tuple #[.int .u8 g.t,.int .i64 g.size,ev]) k s1 S W):=fun W hW=>P.at_ h hr W hW
  rw [h_t,h_n] at hO
  rw [h_t] at hgt
  rw [h_n] at hgn

  rw [h_t,h_n]
  have HO:=Lib.hid hO
  have HF:=Lib.hid (P.lt h)
  have hwt:IntKind.i64.wrap t=t:=by rw [IntKind.wrap_i64];omega
  have hwt2:wrap64 t=t:=by unfold wrap64;omega

  clear hO hfit hr h h_t h_n
  go_enter Tryz.func88,Tryz.ntmps88
  go_wp2_with (fail)
  go_region_held3 (fun _=>True) (trivial)
    (first
      | (go_at_call 53;refine (hc _).mono ?_;rintro e w' ⟨rfl,rfl⟩)
      | (refine (HO.out _ ?_).mono ?_;exact ((((Step.refl _ _).alloc _).alloc _).alloc _).drew;rintro e W1 ⟨ev,S1,rfl,he,hI,hs⟩;have hbx:=(hs.block (w.heap.size+1) (by simp) (fun hm=>by have:=HF.out _ hm;omega)).trans (heap_alloc_old (heap_alloc_at (by simp) _) _);have hbg:=(hs.block (w.heap.size+1+1) (by simp) (fun hm=>by have:=HF.out _ hm;omega)).trans (heap_alloc_at (by simp) _);obtain ⟨c0,c1,c2,c3,c4,c5,c6⟩:=cells7 hbx;obtain ⟨d0,d1,d2,d3,d4,d5,d6⟩:=cells7 hbg;have hfz:=frozen_heap hbx;have hfg:=frozen_heap hbg;have hbl:=lt_heap hbx;have HX:=Lib.hid hbx;have HG:=Lib.hid hbg;have HE:=Lib.hid he;have HI:=Lib.hid hI;have HS:=Lib.hid hs;clear he hI hs hbx hbg))
  all_goals go_wp2
  all_goals (
    have hx':(((W1.setCell ⟨w.heap.size+1+1,3,none⟩ (.int .i64 n)).setCell ⟨w.heap.size+1+1,1,none⟩ (.int .i64 t)).setCell ⟨w.heap.size+1+1,2,none⟩ (.int .i64 0)).heap[w.heap.size+1]?=some (.cells #[.int .i64 0,.int .i64 0,.int .i64 0,.int .i64 0,.int .i64 0,.int .i64 0,.slice none 0 0] 49 (0,0)) :=
      heap_set_other (heap_set_other (heap_set_other HX.out (by show w.heap.size+1≠w.heap.size+1+1;omega) _) (by show w.heap.size+1≠w.heap.size+1+1;omega) _) (by show w.heap.size+1≠w.heap.size+1+1;omega) _
    have hs1:Step [w.heap.size+1,w.heap.size+1+1] [w.heap.size+1,w.heap.size+1+1] W1 (((W1.setCell ⟨w.heap.size+1+1,3,none⟩ (.int .i64 n)).setCell ⟨w.heap.size+1+1,1,none⟩ (.int .i64 t)).setCell ⟨w.heap.size+1+1,2,none⟩ (.int .i64 0)) :=
      (((Step.refl _ W1).setCell (p:=⟨w.heap.size+1+1,3,none⟩) (.inl (by simp)) _).setCell (p:=⟨w.heap.size+1+1,1,none⟩) (.inl (by simp)) _).setCell (p:=⟨w.heap.size+1+1,2,none⟩) (.inl (by simp)) _
    obtain ⟨W3,e2,h3,hs2⟩:=set7 hx' (.int .i64 0) (.int .i64 t) (.int .i64 0) (.int .i64 n) (.int .i64 0) (.int .i64 0) (.slice none 0 0)
    rw [e2]
    have hs3:=hs1.trans (hs2.more (S1:=[w.heap.size+1,w.heap.size+1+1]) (T1:=[w.heap.size+1,w.heap.size+1+1]) (by simp) (fun k hk=>.inr (.inl hk)))
    clear e2 hs1 hs2 hx'
    obtain ⟨r0,r1,r2,r3,r4,r5,r6⟩:=cells7 h3
    refine bodyPost_ret (v:=.tuple #[gotV { t:=t,size:=n } (.slice none 0 0),ev]) (by simp [results,Tryz.results88,go_sem, *]) rfl ?_
    have hsz:∀ j,j∈S1→j∉[w.heap.size+1,w.heap.size+1+1]:=fun j hj hm=>by
      simp only [List.mem_cons,List.not_mem_nil,or_false] at hm
      rcases HS.out.own j hj with h' | h'
      · have:=HF.out _ h';omega
      · simp at h';omega
    have hI3:=P.step HI.out hs3 hsz
    have hwl:=HS.out.size
    simp at hwl
    exact ⟨ev,.slice none 0 0,W3.heap.size,S1,rfl,⟨0,.inl ⟨rfl,rfl⟩⟩,by have:=hs3.size;omega,fun hm=>Nat.lt_irrefl _ (P.lt hI3 _ hm),HE.out.step_at hs3 (fun b hb=>by
      simp only [List.mem_cons,List.not_mem_nil,or_false] at hb
      rcases hb with rfl | rfl
      · exact ⟨_,_,_,HX.out,by decide⟩
      · exact ⟨_,_,_,HG.out,by decide⟩),hI3,((((((Step.refl _ _).alloc _).alloc _).alloc _).drew).trans HS.out).fresh hs3 (fun k hk=>by simp only [List.mem_cons,List.not_mem_nil,or_false] at hk;omega)⟩)

end Go.Proofs.YtmjcnomgpikncaaGreatDoor

namespace Go.Proofs.YtmjcnomgpikncaaGreatDoor

open Go.RowKit Go.Deep



end Go.Proofs.YtmjcnomgpikncaaGreatDoor

namespace Go.Proofs.YtmjcnomgpikncaaGreatDoor

open Go.RowKit Go.Deep



end Go.Proofs.YtmjcnomgpikncaaGreatDoor

namespace Go.Proofs.YtmjcnomgpikncaaGreatDoor

open Go.RowKit Go.Deep



theorem TellsV.num {P:PR} {g:RGot} {k:Nat} {s1:P.σ} {S:List Nat} {w:World} {e:Ending} {w':World} (h:TellsV P.Is (fun ev=>.tuple #[gotN g.n,ev]) k s1 S w e w'):TellsG P { n:=g.n } k s1 S w e w':=by
  obtain ⟨ev,S',rfl,he,hI,hs⟩:=h
  exact ⟨ev,.slice none 0 0,w'.heap.size,S',rfl,⟨0,.inl ⟨rfl,rfl⟩⟩,hs.size,fun hm=>Nat.lt_irrefl _ (P.lt hI _ hm),he,hI,hs⟩

end Go.Proofs.YtmjcnomgpikncaaGreatDoor

namespace Go.Proofs.YtmjcnomgpikncaaGreatDoor

open Go.RowKit Go.Deep



theorem grownBy_step {w w1:World} (h:w.grownBy w1 none):Step [] [] w w1 :=
  ⟨h.os,h.tape,h.output,h.size,fun k hk _=>h.block k hk (fun e=>by cases e),fun k hk=>by simp at hk⟩

theorem wpList_append_none {P:Program} {ops:Array Oper} {rest:List Oper} {o:Oper} {a:Act} {Q:Exit→Act→World→Prop} {w:World} (hgd:o.guard=none) (s x:Operand) (t:TypeId)
    (ho:o.op=.call { callee:=.builtin .append,args:=#[s,x],argTypes:=#[t,t] }) (e:TypeId) (i:TypeInfo) (ht:P.underlying t=some (.slice e)) (hi:P.info? e=some i)
    (v:Value) (hs:a.eval s=.slice none 0 0) (hx:a.eval x=v) (hsrc:Src P i.size t v 0 [] w) (h:wpList P ops Q rest (a.put o.dst (.slice none 0 0)) w):wpList P ops Q (o :: rest) a w :=
  wpList_plain hgd fun _ hK=>by
    have hr:=run_append_nothing (P:=P) w t t o.type e i ht hi none 0 0 (Nat.le_refl _) v hsrc
    unfold Oper.wp execOp
    simp only [ho,resolve,invoke,builtin,Sem.run_bind,Sem.run_pure,Result.andThen_ok,List.map_toArray,List.map_cons,List.map_nil,hs,hx,hr]
    exact hK _ _ h

def Copied (cs:List Value) (w:World) (e:Ending) (w':World):Prop :=
  ∃ A c k,e=.returned (.slice A cs.length c)∧IsB cs (.slice A cs.length c) k w'∧w.heap.size≤k∧Step [] [] w w'

set_option maxRecDepth 100000 in
set_option maxHeartbeats 2000000 in
theorem owned_any (cs:List Value) (v:Value) (k:Nat) (w:World) (h:IsB cs v k w) (h1:∀ x∈cs,x.oneCell'=true) (hl:cs.length≤2147483648) :
    Calls Tryz.prog 64 #[v] w (Copied cs w):=by
  obtain ⟨i0,hi,hz0,hz1,hz2⟩:=info_parts info8
  by_cases h0:cs.length=0
  · have hcs:cs=[]:=List.eq_nil_of_length_eq_zero h0
    subst hcs
    obtain ⟨A,c,rfl⟩:∃ A c,v=.slice A 0 c:=by
      obtain ⟨c,⟨rfl,_⟩ | ⟨o,rfl,_⟩⟩:=h
      · exact ⟨none,0,rfl⟩
      · exact ⟨_,_,rfl⟩
    have hsrc:Src Tryz.prog i0.size 24 (.slice A 0 c) 0 [] w:=by
      cases A with
      | none=>exact Src.ofNil w Tryz.underlying24 c
      | some a=>exact Src.ofSlice w Tryz.underlying24 a 0 c [] (by simp) (fun j u hj=>by simp at hj) (by simp)
    have HSR:=Lib.hid hsrc
    clear h hsrc
    go_enter Tryz.func64,Tryz.ntmps64
    go_wp2_with (at_builtin;refine wpList_append_none rfl _ _ _ rfl 5 i0 Tryz.underlying24 hi _ rfl rfl HSR.out ?_)
    go_ret
    exact ⟨none,0,w.heap.size,rfl,⟨0,.inl ⟨rfl,rfl⟩⟩,Nat.le_refl _,Step.refl _ _⟩
  · obtain ⟨c,⟨rfl,rfl⟩ | ⟨o,rfl,hc,hm,hk,hx⟩⟩:=h
    · simp at h0
    go_enter Tryz.func64,Tryz.ntmps64
    go_wp2_with (at_builtin;go_loud (refine wpList_append_lies _ rfl _ _ _ rfl 0 5 i0 (.int .u8 0) 1 1 Tryz.underlying24 hi hz0 hz1 hz2 rfl (by omega) _ _ _ rfl (World.ownsRow_nil _ _ _ _) ⟨k,o,none⟩ cs.length c cs rfl (by omega) (fun j u hj=>by rw [Lib.addr_add];exact hx j u hj) h1 (by omega) (by unfold maxLen;omega) (by omega) (by omega) _ rfl ?_);intro g1 cap1 W2 hown hgrow hat hlt)
    go_ret
    have hg1:g1=w.heap.size:=by
      rcases hat with h | h
      · cases h
      · exact h
    subst hg1
    simp only [Nat.zero_add,List.nil_append] at hown ⊢
    refine ⟨_,_,w.heap.size,rfl,⟨cap1,.inr ⟨0,rfl,?_,?_,hlt,?_⟩⟩,Nat.le_refl _,grownBy_step hgrow⟩
    all_goals (
      rcases hown.2 with ⟨e,_⟩ | ⟨g2,cap2,cur,e,_,h2,h3,h4,h5,h6⟩
      · cases e)
    all_goals (
      injection e with e1 e2 e3
      injection e1 with e1
      injection e1 with e1 _ _
      subst e1
      subst e3)
    · exact h3
    · exact h4
    · intro j x hj
      have hj1:j < cs.length:=(List.getElem?_eq_some_iff.1 hj).1
      rw [cell_heap h2,Nat.zero_add]
      have h7:=congrArg (fun l:List Value=>l[j]?) h6
      simp only [Nat.mul_one,List.getElem?_take] at h7
      rw [if_pos hj1] at h7
      rw [← hj,← h7]
      simp

end Go.Proofs.YtmjcnomgpikncaaGreatDoor

namespace Go.Proofs.YtmjcnomgpikncaaGreatDoor

open Go.RowKit Go.Deep



theorem zero_there' {l:List UInt8} {W:World} {B:Nat} (h:W.heap[B]?=some (.cells #[.int .u8 0,.int .u8 0,.int .u8 0,.int .u8 0,.int .u8 0,.int .u8 0,.int .u8 0,.int .u8 0,.int .u8 0,.int .u8 0,.int .u8 0,.int .u8 0,.int .u8 0,.int .u8 0,.int .u8 0,.int .u8 0] 143 (0,0))) (hl:l.length=16):W.there B 0 (Lib.byteCells l).length:=fun j hj=>by
  rw [Lib.byteCells_length,hl] at hj
  refine ⟨?_,frozen_heap h _⟩
  rw [cell_heap h,Nat.zero_add]
  simp [hj]

theorem zero_there {l:List UInt8} (W:World) (hl:l.length=16):(W.alloc (.cells #[.int .u8 0,.int .u8 0,.int .u8 0,.int .u8 0,.int .u8 0,.int .u8 0,.int .u8 0,.int .u8 0,.int .u8 0,.int .u8 0,.int .u8 0,.int .u8 0,.int .u8 0,.int .u8 0,.int .u8 0,.int .u8 0] 143)).there W.heap.size 0 (Lib.byteCells l).length:=zero_there' (heap_alloc_new W _) hl

set_option maxRecDepth 100000 in
set_option maxHeartbeats 2000000 in
theorem read_uuid (P:PR) (y1 y2 y3 y4 y5 y6:Value) {S:List Nat} {s:P.σ} {w:World} (h:P.Is S s w) {g:RGot} {k:Nat} {s1:P.σ} (hr:P.run s .uuid=some (g,k,s1)) :
    Calls Tryz.prog 73 #[.iface P.ty P.ptr,.agg #[.int .i64 21,y1,y2,y3,y4,y5,y6]] w (TellsG P { s:=g.s } k s1 S w):=by
  obtain ⟨hm,hn,hen⟩:=P.m_uuid
  have hc:=ctx_any
  have hfit:=P.fits hr
  have hg:g.s.length=16:=hfit.2.2.2.2.2.2.2.2.2 rfl
  obtain ⟨l,hgl⟩:∃ l,g.s=l:=⟨_,rfl⟩
  have hO:∀ W,Step [] [] w W→Calls Tryz.prog (P.fn "ReadUUID") #[P.ptr,ctxV] W (TellsV P.Is (fun ev=>.tuple #[.agg (Lib.byteCells g.s).toArray,ev]) k s1 S W):=fun W hW=>P.at_ h hr W hW
  rw [hgl] at hO hg ⊢
  have HO:=Lib.hid hO
  have hin:(Tryz.prog.info? 143).map (·.size)=some (Lib.byteCells l).length:=by rw [Lib.byteCells_length,hg];exact infoUuid
  have hone:∀ v,v∈Lib.byteCells l→v.oneCell'=true:=Lib.byteCells_one _
  have HF:=Lib.hid (P.lt h)
  clear hO hfit hr h hgl
  go_enter Tryz.func73,Tryz.ntmps73
  go_wp2_with (fail)
  go_region_held3 (fun _=>True) (trivial)
    (first
      | (go_at_call 53;refine (hc _).mono ?_;rintro e w' ⟨rfl,rfl⟩)
      | (with_reducible refine (HO.out _ (((Step.refl [] w).alloc _).alloc _).drew).mono ?_;rintro e W1 ⟨ev,S1,rfl,he,hI,hs⟩;have hbx:=(hs.block (w.heap.size+1) (by simp) (fun hm=>by have:=HF.out _ hm;omega)).trans (heap_alloc_at (by simp) _);obtain ⟨c0,c1,c2,c3,c4,c5,c6⟩:=cells7 hbx;have hfz:=frozen_heap hbx;have hth:=zero_there W1 hg;have hbl:=lt_heap hbx;have HX:=Lib.hid hbx;have HE:=Lib.hid he;have HI:=Lib.hid hI;have HS:=Lib.hid hs;clear he hI hs hbx)
      | (with_reducible refine (HO.out _ ((((Step.refl [] w).alloc _).alloc _).alloc _).drew).mono ?_;rintro e W1 ⟨ev,S1,rfl,he,hI,hs⟩;have hbx:=(hs.block (w.heap.size+1) (by simp) (fun hm=>by have:=HF.out _ hm;omega)).trans (heap_alloc_old (heap_alloc_at (by simp) _) _);have hbz:=(hs.block (w.heap.size+1+1) (by simp) (fun hm=>by have:=HF.out _ hm;omega)).trans (heap_alloc_at (by simp) _);obtain ⟨c0,c1,c2,c3,c4,c5,c6⟩:=cells7 hbx;have hfz:=frozen_heap hbx;have hth:=zero_there' hbz hg;have HZ:=Lib.hid hbz;have hbl:=lt_heap hbx;have HX:=Lib.hid hbx;have HE:=Lib.hid he;have HI:=Lib.hid hI;have HS:=Lib.hid hs;clear he hI hs hbx hbz))
  all_goals (
    have hone':=hone
    have hrow:=World.rangeAt_setCells_same _ _ 0 (Lib.byteCells l) hth
    have hl1:=HS.out.size
    simp at hl1
    have hlen:(Lib.byteCells l).length=16:=by rw [Lib.byteCells_length];exact hg
    first
      | (obtain ⟨B,hB⟩:∃ B,B=W1.heap.size:=⟨_,rfl⟩;obtain ⟨WB,hWB⟩:∃ WB,WB=(W1.alloc (.cells #[.int .u8 0,.int .u8 0,.int .u8 0,.int .u8 0,.int .u8 0,.int .u8 0,.int .u8 0,.int .u8 0,.int .u8 0,.int .u8 0,.int .u8 0,.int .u8 0,.int .u8 0,.int .u8 0,.int .u8 0,.int .u8 0] 143)).setCells W1.heap.size 0 (Lib.byteCells l):=⟨_,rfl⟩;rw [← hWB];(have hf:WB.rangeAt B 0 (Lib.byteCells l)∧Step [B] [B] W1 WB∧B < WB.heap.size∧w.heap.size+1 < B∧B∉S1∧Step S S1 w W1∧(∀ bb cs f,W1.heap[bb]?=some (.cells cs 237 f)→bb≠B):=by (rw [hWB,hB];exact ⟨hrow,((Step.refl [W1.heap.size] W1).alloc _).setCells (.inl (by simp)) 0 _,Nat.lt_of_lt_of_le (by simp) ((Step.refl [W1.heap.size] (W1.alloc _)).setCells (.inl (by simp)) 0 (Lib.byteCells l)).size,by omega,fun hm=>Nat.lt_irrefl _ (P.lt HI.out _ hm),((((Step.refl S w).alloc _).alloc _).drew).trans HS.out,fun bb cs f h1 h2=>by (subst h2;exact absurd (lt_heap h1) (Nat.lt_irrefl _))⟩));rw [← hB];clear hWB hB)
      | (obtain ⟨B,hB⟩:∃ B,B=w.heap.size+1+1:=⟨_,rfl⟩;obtain ⟨WB,hWB⟩:∃ WB,WB=W1.setCells (w.heap.size+1+1) 0 (Lib.byteCells l):=⟨_,rfl⟩;rw [← hWB];(have hf:WB.rangeAt B 0 (Lib.byteCells l)∧Step [B] [B] W1 WB∧B < WB.heap.size∧w.heap.size+1 < B∧B∉S1∧Step S S1 w W1∧(∀ bb cs f,W1.heap[bb]?=some (.cells cs 237 f)→bb≠B):=by (rw [hWB,hB];exact ⟨hrow,(Step.refl [w.heap.size+1+1] W1).setCells (.inl (by simp)) 0 _,Nat.lt_of_lt_of_le (lt_heap HZ.out) ((Step.refl [w.heap.size+1+1] W1).setCells (.inl (by simp)) 0 (Lib.byteCells l)).size,by omega,fun hm=>by (rcases HS.out.own _ hm with h' | h';(have:=HF.out _ h';omega);(simp at h';omega)),(((((Step.refl S w).alloc _).alloc _).alloc _).drew).trans HS.out,fun bb cs f h1 h2=>by (subst h2;have h3:=HZ.out.symm.trans h1;injection h3 with h3;injection h3 with _ h3;exact absurd h3 (by decide))⟩));rw [← hB];clear hWB hB)
    obtain ⟨hrw,hst,hBl,hBg,hBS,hsw,hBE⟩:=hf
    have HSW:=Lib.hid hsw
    have HBE:=Lib.hid hBE
    clear hsw hBE
    have hIB:IsB (Lib.byteCells l) (.slice (some ⟨B,0,none⟩) 16 16) B WB:=⟨16,.inr ⟨0,by rw [hlen],by rw [hlen];exact Nat.le_refl _,by unfold maxLen;omega,hBl,hrw⟩⟩
    have hbx3:=(hst.block (w.heap.size+1) hbl (by simp;omega)).trans HX.out
    obtain ⟨e0,e1,e2,e3,e4,e5,e6⟩:=cells7 hbx3
    have hfz3:=frozen_heap hbx3
    have hbl3:=lt_heap hbx3
    have HX3:=Lib.hid hbx3
    have HIB:=Lib.hid hIB
    have HST:=Lib.hid hst
    clear hrow hrw hst hbx3 hIB hth c0 c1 c2 c3 c4 c5 c6 hfz hbl
    go_wp2_with (fail)
    refine (owned_any (Lib.byteCells l) _ B _ HIB.out hone (by rw [hlen];omega)).mono ?_
    rintro e W2 ⟨A2,cap,kb2,rfl,hB2,hk2,hs2⟩
    have hbx2:=(hs2.block (w.heap.size+1) hbl3 (by simp)).trans HX3.out
    obtain ⟨d0,d1,d2,d3,d4,d5,d6⟩:=cells7 hbx2
    have hfz2:=frozen_heap hbx2
    have hbl2:=lt_heap hbx2
    have HX2:=Lib.hid hbx2
    rw [hlen] at hB2
    have HB2:=Lib.hid hB2
    have HS2:=Lib.hid hs2
    clear hB2 hs2 hbx2 e0 e1 e2 e3 e4 e5 e6
    go_wp2
    obtain ⟨W3,e2,h3,hs3⟩:=set7 HX2.out (.int .i64 0) (.int .i64 0) (.int .i64 0) (.int .i64 0) (.int .i64 0) (.int .i64 0) (.slice A2 16 cap)
    rw [e2]
    obtain ⟨r0,r1,r2,r3,r4,r5,r6⟩:=cells7 h3
    refine bodyPost_ret (v:=.tuple #[gotV { s:=l } (.slice A2 16 cap),ev]) (by simp [results,Tryz.results73,go_sem, *]) rfl ?_
    have hs13:Step [B,w.heap.size+1] [B,w.heap.size+1] W1 W3:=((HST.out.more (S1:=[B,w.heap.size+1]) (T1:=[B,w.heap.size+1]) (by simp) (fun k hk=>.inr (.inl hk))).trans (HS2.out.more (S1:=[B,w.heap.size+1]) (T1:=[B,w.heap.size+1]) (by simp) (fun k hk=>.inr (.inl hk)))).trans (hs3.more (S1:=[B,w.heap.size+1]) (T1:=[B,w.heap.size+1]) (by simp) (fun k hk=>.inr (.inl hk)))
    have hsz:∀ j,j∈S1→j∉[B,w.heap.size+1]:=fun j hj hm=>by
      simp only [List.mem_cons,List.not_mem_nil,or_false] at hm
      rcases hm with rfl | rfl
      · exact hBS hj
      · rcases HS.out.own _ hj with h' | h'
        · have:=HF.out _ h';omega
        · simp at h';omega
    have hl2:=HST.out.size
    refine ⟨ev,_,kb2,S1,rfl,HB2.out.step hs3 (by simp;omega),by omega,fun hm=>by have:=P.lt HI.out _ hm;omega,?_,P.step HI.out hs13 hsz,?_⟩
    · rcases HE.out with h0 | ⟨bb,tt,er,ms,hk1,hk3,hv3,hbb⟩
      · exact .inl h0
      · refine .inr ⟨bb,tt,er,ms,hk1,hk3,hv3,(hs13.block bb (lt_heap hbb) (fun hm=>?_)).trans hbb⟩
        simp only [List.mem_cons,List.not_mem_nil,or_false] at hm
        rcases hm with rfl | rfl
        · exact HBE.out _ _ _ hbb rfl
        · have:=HX.out.symm.trans hbb
          injection this with this
          injection this with _ this
          exact absurd this (by decide)
    · exact HSW.out.fresh hs13 (fun k hk=>by simp only [List.mem_cons,List.not_mem_nil,or_false] at hk;omega))

end Go.Proofs.YtmjcnomgpikncaaGreatDoor
