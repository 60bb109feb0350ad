/- Values are got by whatever protocol: single ones, lists, sets, maps. No condition. -/
import Derived.Test.YtmjcnomgpikncaaGreatDoorMv3
import Derived.Test.YtmjcnomgpikncaaGreatDoorMc
import Derived.Test.YtmjcnomgpikncaaGreatDoorMt3
import Derived.Test.YtmjcnomgpikncaaGreatDoorMe
set_option linter.unusedVariables false
set_option linter.unusedSimpArgs false
namespace Go.Proofs.YtmjcnomgpikncaaGreatDoor

open Go.RowKit Go.Deep



open Go.Proofs.YtmjcnomgpikncaaGreatDoorW.PrintWords

def KeepOn (F:Nat→Prop) (w w1:World):Prop:=∀ k,F k→w1.heap[k]?=w.heap[k]?

def HasV (F:Nat→Prop) (w:World) (v:Val) (cs:List Value):Prop:=(∀ k,F k→k < w.heap.size)∧∀ w1,KeepOn F w w1→kVal.K w1 v cs

theorem HasV.keep {F:Nat→Prop} {w w1:World} {v:Val} {cs:List Value} (h:HasV F w v cs) (hk:KeepOn F w w1) (hs:w.heap.size≤w1.heap.size):HasV F w1 v cs :=
  ⟨fun k hk=>Nat.lt_of_lt_of_le (h.1 k hk) hs,fun w2 h2=>h.2 w2 (fun k hF=>(h2 k hF).trans (hk k hF))⟩

theorem HasV.more {F G:Nat→Prop} {w:World} {v:Val} {cs:List Value} (h:HasV F w v cs) (hFG:∀ k,F k→G k) (hG:∀ k,G k→k < w.heap.size):HasV G w v cs :=
  ⟨hG,fun w1 h1=>h.2 w1 (fun k hk=>h1 k (hFG k hk))⟩

theorem HasV.step {F:Nat→Prop} {S T:List Nat} {w w1:World} {v:Val} {cs:List Value} (h:HasV F w v cs) (hs:Step S T w w1) (hF:∀ k,F k→k∉S):HasV F w1 v cs :=
  h.keep (fun k hk=>hs.block k (h.1 k hk) (hF k hk)) hs.size

theorem HasV.now {F:Nat→Prop} {w:World} {v:Val} {cs:List Value} (h:HasV F w v cs):kVal.K w v cs:=h.2 w (fun _ _=>rfl)

theorem HasV.len {F:Nat→Prop} {w:World} {v:Val} {cs:List Value} (h:HasV F w v cs):cs.length=7:=kVal.K_len h.now

theorem HasV.plain {w:World} (t n:Int) (s:List UInt8) (v:Value) (kb:Nat) (h:IsB (Lib.byteCells s) v kb w):HasV (fun k=>k=kb∧k < w.heap.size) w ⟨t,n,ints s,0,0,[],[]⟩ [.int .i64 t,.int .i64 n,v,.int .i64 0,.int .i64 0,.slice none 0 0,.slice none 0 0]:=by
  refine ⟨fun k hk=>hk.2,fun w1 h1=>?_⟩
  obtain ⟨c,⟨rfl,hs⟩ | ⟨o,rfl,hc,hm,hk,hx⟩⟩:=h
  · have hs0:s=[]:=by
      cases s with
      | nil=>rfl
      | cons a l=>simp [Lib.byteCells] at hs
    subst hs0
    exact kVal_mk w1 ⟨t,n,[],0,0,[],[]⟩ (A2:=none) (c2:=0) (by simp) (Kd.C_nil _ w1) (A5:=none) (c5:=0) (by simp) (Kd.C_nil _ w1) (A6:=none) (c6:=0) (by simp) (Kd.C_nil _ w1)
  · have hI:IsB (Lib.byteCells s) (.slice (some ⟨kb,o,none⟩) (Lib.byteCells s).length c) kb w1:=by
      refine ⟨c,.inr ⟨o,rfl,hc,hm,?_,fun j x hj=>?_⟩⟩
      · have:=h1 kb ⟨rfl,hk⟩
        rw [Array.getElem?_eq_getElem hk] at this
        exact (Array.getElem?_eq_some_iff.1 this).1
      · have h2:=hx j x hj
        simp only [World.cell?] at h2 ⊢
        rw [h1 kb ⟨rfl,hk⟩]
        exact h2
    obtain ⟨ao,c',e1,hc',hC⟩:=hI.ints
    rw [e1]
    exact kVal_mk w1 ⟨t,n,ints s,0,0,[],[]⟩ hc' hC (A5:=none) (c5:=0) (by simp) (Kd.C_nil _ w1) (A6:=none) (c6:=0) (by simp) (Kd.C_nil _ w1)

end Go.Proofs.YtmjcnomgpikncaaGreatDoor

namespace Go.Proofs.YtmjcnomgpikncaaGreatDoor

open Go.RowKit Go.Deep



open Go.Proofs.YtmjcnomgpikncaaGreatDoorW.PrintWords

def HasO (ok:Nat→Prop) (w:World) (v:Val) (cs:List Value):Prop:=∃ F,HasV F w v cs∧∀ k,F k→ok k

theorem HasO.mono {ok ok':Nat→Prop} {w:World} {v:Val} {cs:List Value} (h:HasO ok w v cs) (hk:∀ k,ok k→k < w.heap.size→ok' k):HasO ok' w v cs:=by
  obtain ⟨F,h1,h2⟩:=h
  exact ⟨F,h1,fun k hF=>hk k (h2 k hF) (h1.1 k hF)⟩

theorem HasO.move {ok:Nat→Prop} {w w1:World} {v:Val} {cs:List Value} (h:HasO ok w v cs) (hk:∀ k,ok k→k < w.heap.size→w1.heap[k]?=w.heap[k]?) (hs:w.heap.size≤w1.heap.size):HasO ok w1 v cs:=by
  obtain ⟨F,h1,h2⟩:=h
  exact ⟨F,h1.keep (fun k hF=>hk k (h2 k hF) (h1.1 k hF)) hs,h2⟩

theorem HasO.now {ok:Nat→Prop} {w:World} {v:Val} {cs:List Value} (h:HasO ok w v cs):kVal.K w v cs:=by
  obtain ⟨F,h1,_⟩:=h
  exact h1.now

def RowO (ok:Nat→Prop) (w:World) (base:Nat) (u:Value) (xs:List Val):Prop :=
  (∀ k,u.ownBlock=some k→ok k)∧OwnRow (HasO (fun k=>ok k∧some k≠u.ownBlock) w) 28 7 w base u xs

theorem RowO.nil (ok:Nat→Prop) (w:World) (base:Nat):RowO ok w base (.slice none 0 0) []:=⟨fun k hk=>by simp [Value.ownBlock] at hk,OwnRow.none_ _ _ _ _ _⟩

theorem RowO.mono {ok ok':Nat→Prop} {w:World} {base:Nat} {u:Value} {xs:List Val} (h:RowO ok w base u xs) (hk:∀ k,ok k→k < w.heap.size→ok' k):RowO ok' w base u xs:=by
  obtain ⟨h1,inner,ho,hr⟩:=h
  exact ⟨fun k hb=>hk k (h1 k hb) (own_lt ho k hb),inner,ho,hr.imp_ (fun _ _ hp=>hp.mono (fun k hk1 hk2=>⟨hk k hk1.1 hk2,hk1.2⟩))⟩

theorem RowO.move {ok:Nat→Prop} {w w1:World} {base:Nat} {u:Value} {xs:List Val} (h:RowO ok w base u xs) (hk:∀ k,ok k→k < w.heap.size→w1.heap[k]?=w.heap[k]?) (hs:w.heap.size≤w1.heap.size):RowO ok w1 base u xs:=by
  obtain ⟨h1,inner,ho,hr⟩:=h
  exact ⟨h1,inner,own_move ho (fun k hb=>hk k (h1 k hb) (own_lt ho k hb)),hr.imp_ (fun _ _ hp=>hp.move (fun k hk1 hk2=>hk k hk1.1 hk2) hs)⟩

theorem RowO.push {ok:Nat→Prop} {w w1:World} {base:Nat} {u:Value} {xs:List Val} {x:Val} {inner cs:List Value} {g cap:Nat} (h1:∀ k,u.ownBlock=some k→ok k) (hr:Reps (HasO (fun k=>ok k∧some k≠u.ownBlock) w) 7 xs inner)
    (hx:HasO (fun k=>ok k∧some k≠u.ownBlock) w x cs) (hfresh:ok w.heap.size)
    (hown:w1.ownsRow base 28 7 (.slice (some ⟨g,0,none⟩) (xs.length+1) cap) (xs.length+1) (inner++cs)) (hg:w.grownBy w1 u.ownBlock) (hat:u.ownBlock=some g∨g=w.heap.size) :
    RowO ok w1 base (.slice (some ⟨g,0,none⟩) (xs.length+1) cap) (xs++[x]):=by
  have hcl:cs.length=7:=kVal.K_len hx.now
  have ob:(Value.slice (some ⟨g,0,none⟩) (xs.length+1) cap).ownBlock=some g:=rfl
  refine ⟨fun k hk=>?_,inner++cs,?_,?_⟩
  · rw [ob] at hk
    injection hk with hk
    subst hk
    rcases hat with h | h
    · exact h1 _ h
    · rw [h];exact hfresh
  · have:(xs++[x]).length=xs.length+1:=by simp
    rw [this]
    exact hown
  · have hmv:∀ v c,HasO (fun k=>ok k∧some k≠u.ownBlock) w v c→HasO (fun k=>ok k∧some k≠(Value.slice (some ⟨g,0,none⟩) (xs.length+1) cap).ownBlock) w1 v c:=fun v c hv=>by
      refine HasO.mono (HasO.move (HasO.mono hv (ok':=fun k=>(ok k∧some k≠u.ownBlock)∧k < w.heap.size) (fun k h1 h2=>⟨h1,h2⟩)) (fun k hk1 hk2=>hg.block k hk2 hk1.1.2) hg.size) (fun k hk1 hk2=>⟨hk1.1.1,?_⟩)
      rw [ob]
      intro e
      injection e with e
      subst e
      rcases hat with h | h
      · exact hk1.1.2 h.symm
      · have:=hk1.2;omega
    exact (hr.imp_ hmv).snoc (hmv x cs hx) hcl

theorem RowO.reads {ok:Nat→Prop} {w:World} {base:Nat} {u:Value} {xs:List Val} (h:RowO ok w base u xs):∃ A c,u=.slice A xs.length c∧xs.length≤c∧∀ w1,KeepOn (fun k=>ok k∧k < w.heap.size) w w1→kVal.C w1 A xs.length xs:=by
  obtain ⟨h1,hO⟩:=h
  obtain ⟨A,c,rfl,hc⟩:=OwnRow.slice_ hO
  refine ⟨A,c,rfl,hc,fun w1 hk=>?_⟩
  obtain ⟨inner,ho,hr⟩:=hO
  have ho1:=own_move (w1:=w1) ho (fun k hb=>hk k ⟨h1 k hb,own_lt ho k hb⟩)
  have hr1:Reps (kVal.K w1) 7 xs inner:=hr.imp_ (fun p c hp=>by
    obtain ⟨F,hF,hok⟩:=hp
    exact hF.2 w1 (fun k hk2=>hk k ⟨(hok k hk2).1,hF.1 k hk2⟩))
  obtain ⟨A',c',e,_,hR⟩:=OwnRow.reads (R:=kVal.K w1) (e:=28) (size:=7) (w:=w1) (base:=base) (v:=.slice A xs.length c) (ps:=xs) ⟨inner,ho1,hr1⟩
  injection e with e1 e2 e3
  subst e1
  exact hR

theorem RowO.val {ok:Nat→Prop} {w:World} {base:Nat} {u:Value} {xs:List Val} (h:RowO ok w base u xs) (t k e:Int):HasO ok w ⟨t,0,[],k,e,[],xs⟩ [.int .i64 t,.int .i64 0,.slice none 0 0,.int .i64 k,.int .i64 e,.slice none 0 0,u]:=by
  obtain ⟨A,c,rfl,hc,hR⟩:=h.reads
  exact ⟨fun k=>ok k∧k < w.heap.size,⟨fun k hk=>hk.2,fun w1 h1=>kVal_mk w1 ⟨t,0,[],k,e,[],xs⟩ (A2:=none) (c2:=0) (by simp) (Kd.C_nil _ w1) (A5:=none) (c5:=0) (by simp) (Kd.C_nil _ w1) hc (hR w1 h1)⟩,fun k hk=>hk.1⟩

theorem RowO.valF {ok:Nat→Prop} {w:World} {base base':Nat} {u ui:Value} {xs:List Val} {ids:List Int} (h:RowO ok w base u xs) (hi:(Kd.int .i64).R 3 w base' ok ui ids) (t:Int):HasO ok w ⟨t,0,[],0,0,ids,xs⟩ [.int .i64 t,.int .i64 0,.slice none 0 0,.int .i64 0,.int .i64 0,ui,u]:=by
  obtain ⟨A,c,rfl,hc,hR⟩:=h.reads
  obtain ⟨Ai,ci,rfl,hci,_⟩:=Kd.R_reads hi
  refine ⟨fun k=>ok k∧k < w.heap.size,⟨fun k hk=>hk.2,fun w1 h1=>?_⟩,fun k hk=>hk.1⟩
  have h2:=Kd.R_step (w1:=w1) hi (fun k h3 h4=>h1 k ⟨h3,h4⟩)
  obtain ⟨A2,c2,e,hc2,hC2⟩:=Kd.R_reads h2
  injection e with e1 e2 e3
  subst e1
  exact kVal_mk w1 ⟨t,0,[],0,0,ids,xs⟩ (A2:=none) (c2:=0) (by simp) (Kd.C_nil _ w1) hci hC2 hc (hR w1 h1)

end Go.Proofs.YtmjcnomgpikncaaGreatDoor

namespace Go.Proofs.YtmjcnomgpikncaaGreatDoor

open Go.RowKit Go.Deep



set_option maxRecDepth 100000 in
set_option maxHeartbeats 2000000 in
theorem begun_lstE (P:PR) (y1 y2 y3 y4 y5 y6:Value) {S:List Nat} {s:P.σ} {w:World} (h:P.Is S s w) {g:RGot} {k:Nat} {s1:P.σ} (hr:P.run s .lstE=some (g,k,s1)) :
    Calls Tryz.prog 88 #[.iface P.ty P.ptr,.agg #[.int .i64 10,y1,y2,y3,y4,y5,y6]] w (TellsG P {} k s1 S w):=by
  obtain ⟨hm,hn,hen⟩:=P.m_lstE
  have hc:=ctx_any
  have hfit:=P.fits hr
  have hO:∀ W,Step [] [] w W→Calls Tryz.prog (P.fn "ReadListEnd") #[P.ptr,ctxV] W (TellsV P.Is (fun ev=>ev) k s1 S W):=fun W hW=>P.at_ h hr W hW

  have HO:=Lib.hid hO
  have HF:=Lib.hid (P.lt h)

  clear hO hfit hr h
  go_enter Tryz.func88,Tryz.ntmps88
  go_wp2_with (fail)
  go_region_held3 (fun _=>True) (trivial)
    (first
      | (go_at_call 53;refine (hc _).mono ?_;rintro e w' ⟨rfl,rfl⟩)
      | (refine (HO.out _ ?_).mono ?_;exact ((((Step.refl _ _).alloc _).alloc _).alloc _).drew;rintro e W1 ⟨ev,S1,rfl,he,hI,hs⟩;have hbx:=(hs.block (w.heap.size+1) (by simp) (fun hm=>by have:=HF.out _ hm;omega)).trans (heap_alloc_old (heap_alloc_at (by simp) _) _);have hbg:=(hs.block (w.heap.size+1+1) (by simp) (fun hm=>by have:=HF.out _ hm;omega)).trans (heap_alloc_at (by simp) _);obtain ⟨c0,c1,c2,c3,c4,c5,c6⟩:=cells7 hbx;obtain ⟨d0,d1,d2,d3,d4,d5,d6⟩:=cells7 hbg;have hfz:=frozen_heap hbx;have hfg:=frozen_heap hbg;have hbl:=lt_heap hbx;have HX:=Lib.hid hbx;have HG:=Lib.hid hbg;have HE:=Lib.hid he;have HI:=Lib.hid hI;have HS:=Lib.hid hs;clear he hI hs hbx hbg))
  all_goals go_wp2
  all_goals (
    have hx':((W1.setCell ⟨w.heap.size+1+1,1,none⟩ (.int .i64 0)).setCell ⟨w.heap.size+1+1,2,none⟩ (.int .i64 0)).heap[w.heap.size+1]?=some (.cells #[.int .i64 0,.int .i64 0,.int .i64 0,.int .i64 0,.int .i64 0,.int .i64 0,.slice none 0 0] 49 (0,0)) :=
      heap_set_other (heap_set_other HX.out (by show w.heap.size+1≠w.heap.size+1+1;omega) _) (by show w.heap.size+1≠w.heap.size+1+1;omega) _
    have hs1:Step [w.heap.size+1,w.heap.size+1+1] [w.heap.size+1,w.heap.size+1+1] W1 ((W1.setCell ⟨w.heap.size+1+1,1,none⟩ (.int .i64 0)).setCell ⟨w.heap.size+1+1,2,none⟩ (.int .i64 0)) :=
      ((Step.refl _ W1).setCell (p:=⟨w.heap.size+1+1,1,none⟩) (.inl (by simp)) _).setCell (p:=⟨w.heap.size+1+1,2,none⟩) (.inl (by simp)) _
    obtain ⟨W3,e2,h3,hs2⟩:=set7 hx' (.int .i64 0) (.int .i64 0) (.int .i64 0) (.int .i64 0) (.int .i64 0) (.int .i64 0) (.slice none 0 0)
    rw [e2]
    have hs3:=hs1.trans (hs2.more (S1:=[w.heap.size+1,w.heap.size+1+1]) (T1:=[w.heap.size+1,w.heap.size+1+1]) (by simp) (fun k hk=>.inr (.inl hk)))
    clear e2 hs1 hs2 hx'
    obtain ⟨r0,r1,r2,r3,r4,r5,r6⟩:=cells7 h3
    refine bodyPost_ret (v:=.tuple #[gotV {} (.slice none 0 0),ev]) (by simp [results,Tryz.results88,go_sem, *]) rfl ?_
    have hsz:∀ j,j∈S1→j∉[w.heap.size+1,w.heap.size+1+1]:=fun j hj hm=>by
      simp only [List.mem_cons,List.not_mem_nil,or_false] at hm
      rcases HS.out.own j hj with h' | h'
      · have:=HF.out _ h';omega
      · simp at h';omega
    have hI3:=P.step HI.out hs3 hsz
    have hwl:=HS.out.size
    simp at hwl
    exact ⟨ev,.slice none 0 0,W3.heap.size,S1,rfl,⟨0,.inl ⟨rfl,rfl⟩⟩,by have:=hs3.size;omega,fun hm=>Nat.lt_irrefl _ (P.lt hI3 _ hm),HE.out.step_at hs3 (fun b hb=>by
      simp only [List.mem_cons,List.not_mem_nil,or_false] at hb
      rcases hb with rfl | rfl
      · exact ⟨_,_,_,HX.out,by decide⟩
      · exact ⟨_,_,_,HG.out,by decide⟩),hI3,((((((Step.refl _ _).alloc _).alloc _).alloc _).drew).trans HS.out).fresh hs3 (fun k hk=>by simp only [List.mem_cons,List.not_mem_nil,or_false] at hk;omega)⟩)

set_option maxRecDepth 100000 in
set_option maxHeartbeats 2000000 in
theorem begun_setE (P:PR) (y1 y2 y3 y4 y5 y6:Value) {S:List Nat} {s:P.σ} {w:World} (h:P.Is S s w) {g:RGot} {k:Nat} {s1:P.σ} (hr:P.run s .setE=some (g,k,s1)) :
    Calls Tryz.prog 88 #[.iface P.ty P.ptr,.agg #[.int .i64 12,y1,y2,y3,y4,y5,y6]] w (TellsG P {} k s1 S w):=by
  obtain ⟨hm,hn,hen⟩:=P.m_setE
  have hc:=ctx_any
  have hfit:=P.fits hr
  have hO:∀ W,Step [] [] w W→Calls Tryz.prog (P.fn "ReadSetEnd") #[P.ptr,ctxV] W (TellsV P.Is (fun ev=>ev) k s1 S W):=fun W hW=>P.at_ h hr W hW

  have HO:=Lib.hid hO
  have HF:=Lib.hid (P.lt h)

  clear hO hfit hr h
  go_enter Tryz.func88,Tryz.ntmps88
  go_wp2_with (fail)
  go_region_held3 (fun _=>True) (trivial)
    (first
      | (go_at_call 53;refine (hc _).mono ?_;rintro e w' ⟨rfl,rfl⟩)
      | (refine (HO.out _ ?_).mono ?_;exact ((((Step.refl _ _).alloc _).alloc _).alloc _).drew;rintro e W1 ⟨ev,S1,rfl,he,hI,hs⟩;have hbx:=(hs.block (w.heap.size+1) (by simp) (fun hm=>by have:=HF.out _ hm;omega)).trans (heap_alloc_old (heap_alloc_at (by simp) _) _);have hbg:=(hs.block (w.heap.size+1+1) (by simp) (fun hm=>by have:=HF.out _ hm;omega)).trans (heap_alloc_at (by simp) _);obtain ⟨c0,c1,c2,c3,c4,c5,c6⟩:=cells7 hbx;obtain ⟨d0,d1,d2,d3,d4,d5,d6⟩:=cells7 hbg;have hfz:=frozen_heap hbx;have hfg:=frozen_heap hbg;have hbl:=lt_heap hbx;have HX:=Lib.hid hbx;have HG:=Lib.hid hbg;have HE:=Lib.hid he;have HI:=Lib.hid hI;have HS:=Lib.hid hs;clear he hI hs hbx hbg))
  all_goals go_wp2
  all_goals (
    have hx':((W1.setCell ⟨w.heap.size+1+1,1,none⟩ (.int .i64 0)).setCell ⟨w.heap.size+1+1,2,none⟩ (.int .i64 0)).heap[w.heap.size+1]?=some (.cells #[.int .i64 0,.int .i64 0,.int .i64 0,.int .i64 0,.int .i64 0,.int .i64 0,.slice none 0 0] 49 (0,0)) :=
      heap_set_other (heap_set_other HX.out (by show w.heap.size+1≠w.heap.size+1+1;omega) _) (by show w.heap.size+1≠w.heap.size+1+1;omega) _
    have hs1:Step [w.heap.size+1,w.heap.size+1+1] [w.heap.size+1,w.heap.size+1+1] W1 ((W1.setCell ⟨w.heap.size+1+1,1,none⟩ (.int .i64 0)).setCell ⟨w.heap.size+1+1,2,none⟩ (.int .i64 0)) :=
      ((Step.refl _ W1).setCell (p:=⟨w.heap.size+1+1,1,none⟩) (.inl (by simp)) _).setCell (p:=⟨w.heap.size+1+1,2,none⟩) (.inl (by simp)) _
    obtain ⟨W3,e2,h3,hs2⟩:=set7 hx' (.int .i64 0) (.int .i64 0) (.int .i64 0) (.int .i64 0) (.int .i64 0) (.int .i64 0) (.slice none 0 0)
    rw [e2]
    have hs3:=hs1.trans (hs2.more (S1:=[w.heap.size+1,w.heap.size+1+1]) (T1:=[w.heap.size+1,w.heap.size+1+1]) (by simp) (fun k hk=>.inr (.inl hk)))
    clear e2 hs1 hs2 hx'
    obtain ⟨r0,r1,r2,r3,r4,r5,r6⟩:=cells7 h3
    refine bodyPost_ret (v:=.tuple #[gotV {} (.slice none 0 0),ev]) (by simp [results,Tryz.results88,go_sem, *]) rfl ?_
    have hsz:∀ j,j∈S1→j∉[w.heap.size+1,w.heap.size+1+1]:=fun j hj hm=>by
      simp only [List.mem_cons,List.not_mem_nil,or_false] at hm
      rcases HS.out.own j hj with h' | h'
      · have:=HF.out _ h';omega
      · simp at h';omega
    have hI3:=P.step HI.out hs3 hsz
    have hwl:=HS.out.size
    simp at hwl
    exact ⟨ev,.slice none 0 0,W3.heap.size,S1,rfl,⟨0,.inl ⟨rfl,rfl⟩⟩,by have:=hs3.size;omega,fun hm=>Nat.lt_irrefl _ (P.lt hI3 _ hm),HE.out.step_at hs3 (fun b hb=>by
      simp only [List.mem_cons,List.not_mem_nil,or_false] at hb
      rcases hb with rfl | rfl
      · exact ⟨_,_,_,HX.out,by decide⟩
      · exact ⟨_,_,_,HG.out,by decide⟩),hI3,((((((Step.refl _ _).alloc _).alloc _).alloc _).drew).trans HS.out).fresh hs3 (fun k hk=>by simp only [List.mem_cons,List.not_mem_nil,or_false] at hk;omega)⟩)

end Go.Proofs.YtmjcnomgpikncaaGreatDoor

namespace Go.Proofs.YtmjcnomgpikncaaGreatDoor

open Go.RowKit Go.Deep



open Go.Proofs.YtmjcnomgpikncaaGreatDoorW.PrintWords

def IsErrG (k:Nat) (ev:Value) (w:World):Prop:=IsErr k ev w∨(50≤k∧k≤54∧ev=.iface 157 (.int .i64 (k:Nat)))

def GotV (P:PR) (r:Val × Nat × P.σ) (S:List Nat) (w:World) (e:Ending) (w':World):Prop :=
  ∃ ev cs S',e=.returned (.tuple #[.agg cs.toArray,ev])∧HasO (fun b=>w.heap.size≤b∧b∉S') w' r.1 cs∧IsErrG r.2.1 ev w'∧P.Is S' r.2.2 w'∧Step S S' w w'

def Gets (P:PR) (gv:Int→P.σ→Option (Val × Nat × P.σ)) (D:Int):Prop :=
  ∀ (S:List Nat) (s:P.σ) (w:World) (t:Int),P.Is S s w→0≤t→t < 256→∀ r,gv t s=some r→Calls Tryz.prog 49 #[.iface P.ty P.ptr,.int .u8 t,.int .i64 D] w (GotV P r S w)

theorem gotV_end {P:PR} {S S1 B:List Nat} {s1:P.σ} {w W1 W':World} (hsw:Step S S1 w W1) (hI:P.Is S1 s1 W1) (hB:∀ b,b∈B→w.heap.size≤b∧b∉S1) (hs3:Step B B W1 W'):P.Is S1 s1 W'∧Step S S1 w W' :=
  ⟨P.step hI hs3 (fun j hj hb=>(hB j hb).2 hj),hsw.fresh hs3 (fun b hb=>(hB b hb).1)⟩

theorem infoVal:(Tryz.prog.info? 28).map (fun i=>(i.zero,i.size,i.bytes))=some (some (.agg #[.int .i64 0,.int .i64 0,.slice none 0 0,.int .i64 0,.int .i64 0,.slice none 0 0,.slice none 0 0]),7,104):=by kernel_rfl

theorem RowO.carry {P:PR} {S2 S3:List Nat} {s3:P.σ} {wr W3:World} {n GB base:Nat} {u:Value} {xs:List Val} (h:RowO (fun b=>n < b∧b∉S2∧b≠GB) wr base u xs) (hs:Step S2 S3 wr W3) (o1 o2:Obj) :
    RowO (fun b=>n < b∧b∉S3∧b≠GB) ((W3.alloc o1).alloc o2) base u xs∧(∀ k,u.ownBlock=some k→k < wr.heap.size)∧∀ k,u.ownBlock=some k→∃ cells,W3.heap[k]?=some (.cells cells 28 (0,0)):=by
  have h1:∀ k,u.ownBlock=some k→k < wr.heap.size:=fun k hk=>by
    obtain ⟨_,inner,ho,_⟩:=h
    exact own_lt ho k hk
  have h2:RowO (fun b=>(n < b∧b∉S3∧b≠GB)∧b∉S2) wr base u xs:=h.mono (fun b hb hlt=>⟨⟨hb.1,fun hm=>by
    rcases hs.own b hm with h3 | h3
    · exact hb.2.1 h3
    · omega,hb.2.2⟩,hb.2.1⟩)
  have h3:RowO (fun b=>(n < b∧b∉S3∧b≠GB)∧b∉S2) W3 base u xs:=h2.move (fun b hb hlt=>hs.block b hlt hb.2) hs.size
  refine ⟨?_,h1,fun k hk=>by
    obtain ⟨_,inner,ho,_⟩:=h3
    exact own_typed ho k hk⟩
  have h4:=h3.move (w1:=(W3.alloc o1).alloc o2) (fun b hb hlt=>by rw [Below.heap_alloc _ _ _ (by simp;omega),Below.heap_alloc _ _ _ hlt]) (by simp <;> omega)
  exact h4.mono (fun b hb _=>hb.1)

theorem HasO.apart {S3:List Nat} {wr W3:World} {n GB:Nat} {u:Value} {v:Val} {cs:List Value} (h:HasO (fun b=>wr.heap.size≤b∧b∉S3) W3 v cs) (hn:n < wr.heap.size) (hGB:GB < wr.heap.size) (hu:∀ k,u.ownBlock=some k→k < wr.heap.size) (o1 o2:Obj) :
    HasO (fun b=>(n < b∧b∉S3∧b≠GB)∧some b≠u.ownBlock) ((W3.alloc o1).alloc o2) v cs:=by
  have h1:=h.move (w1:=(W3.alloc o1).alloc o2) (fun b hb hlt=>by rw [Below.heap_alloc _ _ _ (by simp;omega),Below.heap_alloc _ _ _ hlt]) (by simp <;> omega)
  exact h1.mono (fun b hb _=>⟨⟨by omega,hb.2,by omega⟩,fun e=>by have:=hu b e.symm;omega⟩)

theorem app_step {W3 W4:World} {o1 o2:Obj} {own:Option Nat} (hg:((W3.alloc o1).alloc o2).grownBy W4 own) (b i:Nat) (v:Value):Step (b :: own.toList) (b :: own.toList) W3 (W4.setCell ⟨b,i,none⟩ v):=by
  have h0:Step (b :: own.toList) (b :: own.toList) W3 ((W3.alloc o1).alloc o2):=((Step.refl _ W3).alloc _).alloc _
  refine ⟨hg.os.trans h0.os,hg.tape.trans h0.tape,hg.output.trans h0.output,?_,fun k hk hn=>?_,fun k hk=>.inl hk⟩
  · have:=Nat.le_trans h0.size hg.size
    simpa [World.setCell] using this
  · simp only [List.mem_cons,Option.mem_toList,not_or] at hn
    rw [Below.heap_setCell _ _ _ _ hn.1,hg.block k (Nat.lt_of_lt_of_le hk h0.size) (fun e=>hn.2 e.symm)]
    exact h0.block k hk (by simp only [List.mem_cons,Option.mem_toList,not_or];exact hn)

theorem IsErrG.step_at {k:Nat} {ev:Value} {w w1:World} {S T:List Nat} (h:IsErrG k ev w) (hs:Step S T w w1) (hS:∀ b,b∈S→∃ cs t f,w.heap[b]?=some (.cells cs t f)∧t≠237):IsErrG k ev w1:=by
  rcases h with h | h
  · exact .inl (h.step_at hs hS)
  · exact .inr h

set_option maxRecDepth 100000 in
set_option maxHeartbeats 2000000 in
theorem getColl_any (P:PR) (t op op1:Int) (ob oe:ROp) (hw1:wrap64 (op+1)=op1) (hw2:IntKind.i64.wrap (op+1)=op1)
 (hbeg:∀ {S:List Nat} {s:P.σ} {w:World},P.Is S s w→∀ {g:RGot} {k:Nat} {s1:P.σ},P.run s ob=some (g,k,s1)→Calls Tryz.prog 88 #[.iface P.ty P.ptr,.agg #[.int .i64 op,.int .i64 0,.int .i64 0,.int .i64 0,.int .i64 0,.int .i64 0,.slice none 0 0]] w (TellsG P { t:=g.t,size:=g.size } k s1 S w))
 (hend:∀ (S:List Nat) (s:P.σ) (w:World),P.Is S s w→∀ (g:RGot) (k:Nat) (s1:P.σ),P.run s oe=some (g,k,s1)→Calls Tryz.prog 88 #[.iface P.ty P.ptr,.agg #[.int .i64 op1,.int .i64 0,.int .i64 0,.int .i64 0,.int .i64 0,.int .i64 0,.slice none 0 0]] w (TellsG P {} k s1 S w))
 (hnm:ob.nm ≠ "ReadMessageBegin") (gv:Int→P.σ→Option (Val × Nat × P.σ)) (D:Int) (hD:1≤D∧D < 9223372036854775808) (hG:Gets P gv (D - 1)) {S:List Nat} {s:P.σ} {w:World} (h:P.Is S s w) {r:Val × Nat × P.σ} (hr:getList P.run gv t ob oe s=some r) :
 Calls Tryz.prog 76 #[.iface P.ty P.ptr,.agg #[.int .i64 t,.int .i64 0,.slice none 0 0,.int .i64 0,.int .i64 0,.slice none 0 0,.slice none 0 0],.int .i64 op,.int .i64 D] w (GotV P r S w):=by
 have HEND:=Lib.hid hend
 clear hend
 unfold getList at hr
 rw [Option.bind_eq_some_iff] at hr
 obtain ⟨⟨g,k,s1⟩,hg,hr⟩:=hr
 dsimp only at hr
 have hfit:=P.fits hg
 have HO:=Lib.hid (fun W (hW:Step [] [] w W)=>hbeg (P.step h hW (by simp)) hg)
 have HR:=Lib.hid hr
 have HF:=Lib.hid (P.lt h)
 have HG:=Lib.hid hG
 clear hr hg hG
 go_enter Tryz.func76,Tryz.ntmps76
 go_wp2_with (fail)
 refine (HO.out _ (((Step.refl [] w).alloc _).alloc _)).mono ?_
 rintro e W1 ⟨ev,vb,kb,S1,rfl,hB,hkb,hkS,he,hI,hs⟩
 have hbv:=(hs.block w.heap.size (by simp <;> omega) (fun hm=>by have:=HF.out _ hm;omega)).trans (heap_alloc_old (heap_alloc_new w _) _)
 have hbr:=(hs.block (w.heap.size+1) (by simp) (fun hm=>by have:=HF.out _ hm;omega)).trans (heap_alloc_at (by simp) _)
 obtain ⟨c0,c1,c2,c3,c4,c5,c6⟩:=cells7 hbv
 obtain ⟨d0,d1,d2,d3,d4,d5,d6⟩:=cells7 hbr
 have hfz:=frozen_heap hbv
 have hfr:=frozen_heap hbr
 have hlv:=lt_heap hbv
 have hlr:=lt_heap hbr
 have HBV:=Lib.hid hbv
 have HBR:=Lib.hid hbr
 have HI:=Lib.hid hI
 have HSW:=Lib.hid ((((Step.refl S w).alloc _).alloc _).trans hs)
 have HOB:=Lib.hid (show ∀ b,b∈[w.heap.size,w.heap.size+1]→w.heap.size≤b∧b∉S1 from fun b hb=>by
  simp only [List.mem_cons,List.not_mem_nil,or_false] at hb
  refine ⟨by omega,fun hm=>?_⟩
  rcases hs.own b hm with h1 | h1
  · have:=HF.out _ h1;omega
  · simp at h1;omega)
 have HET:=Lib.hid (show ∀ b,b∈[w.heap.size,w.heap.size+1]→∃ cs t f,W1.heap[b]?=some (.cells cs t f)∧t≠237 from fun b hb=>by
  simp only [List.mem_cons,List.not_mem_nil,or_false] at hb
  rcases hb with rfl | rfl
  · exact ⟨_,_,_,HBV.out,by decide⟩
  · exact ⟨_,_,_,HBR.out,by decide⟩)
 have HE:=Lib.hid he
 obtain ⟨ao,ac,rfl,_,_⟩:=hB.ints
 clear hbv hbr hI hs hB hkb hkS
 rcases he with ⟨rfl,rfl⟩ | hne
 case inr =>
  obtain ⟨bb,tt,er,ms,hk1,hk2,rfl,hbb⟩:=hne
  go_wp2_with (fail)
  obtain ⟨W3,e2,h3,hs3⟩:=set7 (HBR.out) (.int .i64 t) (.int .i64 0) (.slice none 0 0) (.int .i64 0) (.int .i64 0) (.slice none 0 0) (.slice none 0 0)
  rw [e2]
  have h4:(W3.alloc (.cells #[.int .i64 0,.int .i64 g.t,.int .i64 0,.int .i64 g.size,.int .i64 0,.int .i64 0,.slice ao (ints []).length ac] 49)).heap[w.heap.size+1]?=some (.cells #[.int .i64 t,.int .i64 0,.slice none 0 0,.int .i64 0,.int .i64 0,.slice none 0 0,.slice none 0 0] 28 (0,0)):=heap_alloc_old h3 _
  have r0:(W3.alloc (.cells #[.int .i64 0,.int .i64 g.t,.int .i64 0,.int .i64 g.size,.int .i64 0,.int .i64 0,.slice ao (ints []).length ac] 49)).cell? ⟨w.heap.size+1,0,none⟩=some (.int .i64 t):=(cell_heap h4 _).trans rfl
  have r1:(W3.alloc (.cells #[.int .i64 0,.int .i64 g.t,.int .i64 0,.int .i64 g.size,.int .i64 0,.int .i64 0,.slice ao (ints []).length ac] 49)).cell? ⟨w.heap.size+1,1,none⟩=some (.int .i64 0):=(cell_heap h4 _).trans rfl
  have r2:(W3.alloc (.cells #[.int .i64 0,.int .i64 g.t,.int .i64 0,.int .i64 g.size,.int .i64 0,.int .i64 0,.slice ao (ints []).length ac] 49)).cell? ⟨w.heap.size+1,2,none⟩=some (.slice none 0 0):=(cell_heap h4 _).trans rfl
  have r3:(W3.alloc (.cells #[.int .i64 0,.int .i64 g.t,.int .i64 0,.int .i64 g.size,.int .i64 0,.int .i64 0,.slice ao (ints []).length ac] 49)).cell? ⟨w.heap.size+1,3,none⟩=some (.int .i64 0):=(cell_heap h4 _).trans rfl
  have r4:(W3.alloc (.cells #[.int .i64 0,.int .i64 g.t,.int .i64 0,.int .i64 g.size,.int .i64 0,.int .i64 0,.slice ao (ints []).length ac] 49)).cell? ⟨w.heap.size+1,4,none⟩=some (.int .i64 0):=(cell_heap h4 _).trans rfl
  have r5:(W3.alloc (.cells #[.int .i64 0,.int .i64 g.t,.int .i64 0,.int .i64 g.size,.int .i64 0,.int .i64 0,.slice ao (ints []).length ac] 49)).cell? ⟨w.heap.size+1,5,none⟩=some (.slice none 0 0):=(cell_heap h4 _).trans rfl
  have r6:(W3.alloc (.cells #[.int .i64 0,.int .i64 g.t,.int .i64 0,.int .i64 g.size,.int .i64 0,.int .i64 0,.slice ao (ints []).length ac] 49)).cell? ⟨w.heap.size+1,6,none⟩=some (.slice none 0 0):=(cell_heap h4 _).trans rfl
  refine bodyPost_ret (v:=.tuple #[.agg #[.int .i64 t,.int .i64 0,.slice none 0 0,.int .i64 0,.int .i64 0,.slice none 0 0,.slice none 0 0],.iface 235 (.pointer (some ⟨bb,0,none⟩))]) (by simp [results,Tryz.results76,go_sem, *]) rfl ?_
  have hs13:Step [w.heap.size,w.heap.size+1] [w.heap.size,w.heap.size+1] W1 (W3.alloc (.cells #[.int .i64 0,.int .i64 g.t,.int .i64 0,.int .i64 g.size,.int .i64 0,.int .i64 0,.slice ao (ints []).length ac] 49)):=((hs3.more (S1:=[w.heap.size,w.heap.size+1]) (T1:=[w.heap.size,w.heap.size+1]) (by simp) (fun k hk=>.inr (.inl hk)))).alloc _
  obtain ⟨hI4,hs4⟩:=gotV_end HSW.out HI.out HOB.out hs13
  have hrr:=HR.out
  rw [if_neg (by omega)] at hrr
  injection hrr with hrr
  subst hrr
  exact ⟨_,[.int .i64 t,.int .i64 0,.slice none 0 0,.int .i64 0,.int .i64 0,.slice none 0 0,.slice none 0 0],_,rfl,(RowO.nil _ _ 0).val t 0 0,.inl (HE.out.step_at hs13 HET.out),hI4,hs4⟩
 case inl =>
  clear HE
  have hgt:=hfit.1 hnm
  have hgs:=hfit.2.2.2.2.1 rfl
  have HR:=Lib.hid ((if_pos rfl).symm.trans HR.out)
  by_cases hbig:100000 < g.size
  case pos =>
   go_wp2_with (fail)
   obtain ⟨W3,e2,h3,hs3⟩:=set7 (heap_set_other (p:=⟨w.heap.size,4,none⟩) HBR.out (by show w.heap.size+1≠w.heap.size;omega) (.int .i64 g.t)) (.int .i64 t) (.int .i64 0) (.slice none 0 0) (.int .i64 0) (.int .i64 g.t) (.slice none 0 0) (.slice none 0 0)
   rw [e2]
   have h4:(W3.alloc (.cells #[.int .i64 0,.int .i64 g.t,.int .i64 0,.int .i64 g.size,.int .i64 0,.int .i64 0,.slice ao (ints []).length ac] 49)).heap[w.heap.size+1]?=some (.cells #[.int .i64 t,.int .i64 0,.slice none 0 0,.int .i64 0,.int .i64 g.t,.slice none 0 0,.slice none 0 0] 28 (0,0)):=heap_alloc_old h3 _
   have r0:(W3.alloc (.cells #[.int .i64 0,.int .i64 g.t,.int .i64 0,.int .i64 g.size,.int .i64 0,.int .i64 0,.slice ao (ints []).length ac] 49)).cell? ⟨w.heap.size+1,0,none⟩=some (.int .i64 t):=(cell_heap h4 _).trans rfl
   have r1:(W3.alloc (.cells #[.int .i64 0,.int .i64 g.t,.int .i64 0,.int .i64 g.size,.int .i64 0,.int .i64 0,.slice ao (ints []).length ac] 49)).cell? ⟨w.heap.size+1,1,none⟩=some (.int .i64 0):=(cell_heap h4 _).trans rfl
   have r2:(W3.alloc (.cells #[.int .i64 0,.int .i64 g.t,.int .i64 0,.int .i64 g.size,.int .i64 0,.int .i64 0,.slice ao (ints []).length ac] 49)).cell? ⟨w.heap.size+1,2,none⟩=some (.slice none 0 0):=(cell_heap h4 _).trans rfl
   have r3:(W3.alloc (.cells #[.int .i64 0,.int .i64 g.t,.int .i64 0,.int .i64 g.size,.int .i64 0,.int .i64 0,.slice ao (ints []).length ac] 49)).cell? ⟨w.heap.size+1,3,none⟩=some (.int .i64 0):=(cell_heap h4 _).trans rfl
   have r4:(W3.alloc (.cells #[.int .i64 0,.int .i64 g.t,.int .i64 0,.int .i64 g.size,.int .i64 0,.int .i64 0,.slice ao (ints []).length ac] 49)).cell? ⟨w.heap.size+1,4,none⟩=some (.int .i64 g.t):=(cell_heap h4 _).trans rfl
   have r5:(W3.alloc (.cells #[.int .i64 0,.int .i64 g.t,.int .i64 0,.int .i64 g.size,.int .i64 0,.int .i64 0,.slice ao (ints []).length ac] 49)).cell? ⟨w.heap.size+1,5,none⟩=some (.slice none 0 0):=(cell_heap h4 _).trans rfl
   have r6:(W3.alloc (.cells #[.int .i64 0,.int .i64 g.t,.int .i64 0,.int .i64 g.size,.int .i64 0,.int .i64 0,.slice ao (ints []).length ac] 49)).cell? ⟨w.heap.size+1,6,none⟩=some (.slice none 0 0):=(cell_heap h4 _).trans rfl
   refine bodyPost_ret (v:=.tuple #[.agg #[.int .i64 t,.int .i64 0,.slice none 0 0,.int .i64 0,.int .i64 g.t,.slice none 0 0,.slice none 0 0],.iface 157 (.int .i64 52)]) (by simp [results,Tryz.results76,go_sem, *]) rfl ?_
   have hs13:Step [w.heap.size,w.heap.size+1] [w.heap.size,w.heap.size+1] W1 (W3.alloc (.cells #[.int .i64 0,.int .i64 g.t,.int .i64 0,.int .i64 g.size,.int .i64 0,.int .i64 0,.slice ao (ints []).length ac] 49)):=(((Step.refl [w.heap.size,w.heap.size+1] W1).setCell (p:=⟨w.heap.size,4,none⟩) (.inl (by simp)) _).trans (hs3.more (S1:=[w.heap.size,w.heap.size+1]) (T1:=[w.heap.size,w.heap.size+1]) (by simp) (fun k hk=>.inr (.inl hk)))).alloc _
   obtain ⟨hI4,hs4⟩:=gotV_end HSW.out HI.out HOB.out hs13
   have hrr:=HR.out
   rw [if_pos hbig] at hrr
   injection hrr with hrr
   subst hrr
   exact ⟨_,[.int .i64 t,.int .i64 0,.slice none 0 0,.int .i64 0,.int .i64 g.t,.slice none 0 0,.slice none 0 0],_,rfl,(RowO.nil _ _ 0).val t 0 g.t,.inr ⟨Nat.le_of_ble_eq_true rfl,Nat.le_of_ble_eq_true rfl,rfl⟩,hI4,hs4⟩
  case neg =>
   have HR:=Lib.hid ((if_neg hbig).symm.trans HR.out)
   obtain ⟨N,hN⟩:∃ N:Nat,g.size=N:=⟨g.size.toNat,by omega⟩
   have hN2:N≤100000:=by omega
   have hR0:=HR.out
   rw [hN,Int.toNat_natCast,Option.bind_eq_some_iff] at hR0
   obtain ⟨R,hR1,hR2⟩:=hR0
   have HR1:=Lib.hid hR1
   have HR2:=Lib.hid hR2
   clear hR1 hR2 HR
   go_wp2_with (fail)
   obtain ⟨WL,hWL⟩:∃ WL,WL=(W1.setCell ⟨w.heap.size,4,none⟩ (.int .i64 g.t)).alloc (.cells #[.int .i64 0,.int .i64 g.t,.int .i64 0,.int .i64 (N:Nat),.int .i64 0,.int .i64 0,.slice ao (ints []).length ac] 49):=⟨_,rfl⟩
   have hv5:WL.heap[w.heap.size]?=some (.cells #[.int .i64 t,.int .i64 0,.slice none 0 0,.int .i64 0,.int .i64 g.t,.slice none 0 0,.slice none 0 0] 28 (0,0)):=by rw [hWL];exact heap_alloc_old ((heap_set_same (o:=4) HBV.out _).trans rfl) _
   have hr5:WL.heap[w.heap.size+1]?=some (.cells #[.int .i64 0,.int .i64 0,.slice none 0 0,.int .i64 0,.int .i64 0,.slice none 0 0,.slice none 0 0] 28 (0,0)):=by rw [hWL];exact heap_alloc_old (heap_set_other (p:=⟨w.heap.size,4,none⟩) HBR.out (by show w.heap.size+1≠w.heap.size;omega) _) _
   have hg5:WL.heap[W1.heap.size]?=some (.cells #[.int .i64 0,.int .i64 g.t,.int .i64 0,.int .i64 (N:Nat),.int .i64 0,.int .i64 0,.slice ao (ints []).length ac] 49 (0,0)):=by rw [hWL];exact heap_alloc_at (by simp) _
   have hst5:Step [w.heap.size,w.heap.size+1] [w.heap.size,w.heap.size+1] W1 WL:=by rw [hWL];exact ((Step.refl _ W1).setCell (p:=⟨w.heap.size,4,none⟩) (.inl (by simp)) _).alloc _
   obtain ⟨hI5,hs5⟩:=gotV_end HSW.out HI.out HOB.out hst5
   have HI5:=Lib.hid hI5
   have HS5:=Lib.hid hs5
   have HV5:=Lib.hid hv5
   have HRB5:=Lib.hid hr5
   have HG5:=Lib.hid hg5
   have HNS:=Lib.hid (show w.heap.size∉S1∧w.heap.size+1∉S1∧W1.heap.size∉S1 from ⟨(HOB.out _ (by simp)).2,(HOB.out _ (by simp)).2,fun hm=>Nat.lt_irrefl _ (P.lt HI.out _ hm)⟩)
   rw [← hWL]
   clear hWL hv5 hr5 hg5 hst5 hI5 hs5 c0 c1 c2 c3 c4 c5 c6 d0 d1 d2 d3 d4 d5 d6 hfz hfr
   have hgt2:g.t % 256=g.t:=by omega
   go_loopw [35] (fun i wr=>∃ (j:Nat) (S2:List Nat) (s2:P.σ) (xs:List Val) (u:Value),i=.int .i64 (j:Nat)∧j≤N∧xs.length=j∧Hid (getL gv (List.replicate (N - j) g.t) xs s2=some R)∧Hid (P.Is S2 s2 wr)∧Hid (Step S S2 w wr)∧Hid (RowO (fun b=>w.heap.size+1 < b∧b∉S2∧b≠W1.heap.size) wr w.heap.size u xs)∧Hid (wr.heap[w.heap.size]?=some (.cells #[.int .i64 t,.int .i64 0,.slice none 0 0,.int .i64 0,.int .i64 g.t,.slice none 0 0,u] 28 (0,0)))∧Hid (wr.heap[w.heap.size+1]?=some (.cells #[.int .i64 0,.int .i64 0,.slice none 0 0,.int .i64 0,.int .i64 0,.slice none 0 0,.slice none 0 0] 28 (0,0)))∧Hid (wr.heap[W1.heap.size]?=some (.cells #[.int .i64 0,.int .i64 g.t,.int .i64 0,.int .i64 (N:Nat),.int .i64 0,.int .i64 0,.slice ao (ints []).length ac] 49 (0,0)))∧Hid (w.heap.size∉S2∧w.heap.size+1∉S2∧W1.heap.size∉S2)) (fun i _=>N - (intOf i).toNat)
   case atStart=>exact ⟨0,S1,s1,[],.slice none 0 0,rfl,by omega,rfl,HR1,HI5,HS5,Lib.hid (RowO.nil _ _ _),HV5,HRB5,HG5,HNS⟩
   case round =>
    obtain ⟨j,S2,s2,xs,u,rfl,hj,rfl,hrun,HI2,HS2,HRO,HVB,HRB,HGB,HNS2⟩:=hrel
    by_cases hlt:xs.length < N
    case pos =>
     have hq:=hrun.out
     rw [show N - xs.length=(N - (xs.length+1))+1 by omega,List.replicate_succ,getL,Option.bind_eq_some_iff] at hq
     obtain ⟨q,hq1,hq2⟩:=hq
     have HQ2:=Lib.hid hq2
     have HGC:=Lib.hid (fun W (hW:Step [] [] wr W)=>HG.out S2 s2 W g.t (P.step HI2.out hW (by simp)) hgt.1 hgt.2 q hq1)
     obtain ⟨ui,uc,rfl⟩:∃ ui uc,u=.slice ui xs.length uc:=by
      obtain ⟨A,c,h1,_⟩:=HRO.out.reads
      exact ⟨A,c,h1⟩
     clear hq1 hq2
     obtain ⟨c0,c1,c2,c3,c4,c5,c6⟩:=cells7 HVB.out
     have g1:wr.cell? ⟨W1.heap.size,1,none⟩=some (.int .i64 g.t):=(cell_heap HGB.out _).trans rfl
     go_wp2_with (fail)
     refine (typ_of _ _).mono ?_
     rintro e w' ⟨rfl,rfl⟩
     rw [hgt2]
     go_wp2_with (fail)
     refine (HGC.out wr (Step.refl [] wr)).mono ?_
     rintro e W3 ⟨ev3,cs3,S3,rfl,hO3,hE3,hI3,hs3⟩
     obtain ⟨A2,a2,A5,a5,A6,a6,hcs3,-⟩:=kVal_open hO3.now
     have hv3:=(hs3.block _ (lt_heap HVB.out) HNS2.out.1).trans HVB.out
     have hr3:=(hs3.block _ (lt_heap HRB.out) HNS2.out.2.1).trans HRB.out
     have hg3:=(hs3.block _ (lt_heap HGB.out) HNS2.out.2.2).trans HGB.out
     subst hcs3
     clear c0 c1 c2 c3 c4 c5 c6 g1
     obtain ⟨c0,c1,c2,c3,c4,c5,c6⟩:=cells7 hv3
     have hfz:=frozen_heap hv3
     have HV3:=Lib.hid hv3
     have HR3:=Lib.hid hr3
     have HG3:=Lib.hid hg3
     have HO3:=Lib.hid hO3
     have HE3:=Lib.hid hE3
     have HI3:=Lib.hid hI3
     have HS3:=Lib.hid hs3
     have hlv3:=lt_heap hv3
     have hlr3:=lt_heap HRB.out
     have hlg3:=lt_heap HGB.out
     have hsz3:=hs3.size
     obtain ⟨hrow,hub,hot⟩:=RowO.carry (P:=P) (s3:=q.2.2) HRO.out hs3 (.cells #[.int .i64 q.1.f0,.int .i64 q.1.f1,.slice A2 q.1.f2.length a2,.int .i64 q.1.f3,.int .i64 q.1.f4,.slice A5 q.1.f5.length a5,.slice A6 q.1.f6.length a6] 28) (.cells #[.int .i64 q.1.f0,.int .i64 q.1.f1,.slice A2 q.1.f2.length a2,.int .i64 q.1.f3,.int .i64 q.1.f4,.slice A5 q.1.f5.length a5,.slice A6 q.1.f6.length a6] 28)
     have hxa:=HasO.apart (n:=w.heap.size+1) (GB:=W1.heap.size) (u:=.slice ui xs.length uc) hO3 hlr3 hlg3 hub (.cells #[.int .i64 q.1.f0,.int .i64 q.1.f1,.slice A2 q.1.f2.length a2,.int .i64 q.1.f3,.int .i64 q.1.f4,.slice A5 q.1.f5.length a5,.slice A6 q.1.f6.length a6] 28) (.cells #[.int .i64 q.1.f0,.int .i64 q.1.f1,.slice A2 q.1.f2.length a2,.int .i64 q.1.f3,.int .i64 q.1.f4,.slice A5 q.1.f5.length a5,.slice A6 q.1.f6.length a6] 28)
     obtain ⟨hrok,inner,hrown,hreps⟩:=hrow
     have HROK:=Lib.hid hrok
     have HOT:=Lib.hid hot
     have HROWN:=Lib.hid hrown
     have HREPS:=Lib.hid hreps
     have HXA:=Lib.hid hxa
     obtain ⟨i0,hi,hz0,hz1,hz2⟩:=info_parts infoVal
     rcases hE3 with (⟨h0,rfl⟩ | ⟨bb,tt,er,ms,hk1,hk2,rfl,hbb⟩) | ⟨hk1,hk2,rfl⟩
     all_goals clear hv3 hr3 hg3 hO3 hI3 hs3 hrok hrown hreps hxa hub hot
     · go_wp2_with (at_builtin;(refine wpList_append_lies _ rfl _ _ _ rfl w.heap.size 28 i0 (.agg #[.int .i64 0,.int .i64 0,.slice none 0 0,.int .i64 0,.int .i64 0,.slice none 0 0,.slice none 0 0]) 7 104 Tryz.underlying26 hi hz0 hz1 hz2 rfl (by omega) _ _ _ rfl HROWN.out ⟨W3.heap.size+1,0,none⟩ 1 1 _ rfl ?_ (World.news_of_block (heap_alloc_at (by simp) _)) ?_ (by omega) ?_ ?_ ?_ _ rfl ?_);rfl;(intro x hx;simp at hx;rcases hx with rfl | rfl | rfl | rfl | rfl | rfl | rfl <;> rfl);(unfold maxLen;omega);omega;(simp <;> omega);intro g1 cap1 W4 hown hgrow hat hlt4;have hv4:=(hgrow.block w.heap.size (by simp <;> omega) (fun e=>by have:=(HROK.out _ e.symm).1;omega)).trans (heap_alloc_old (heap_alloc_old HV3.out _) _);have hr4:=(hgrow.block (w.heap.size+1) (by simp <;> omega) (fun e=>by have:=(HROK.out _ e.symm).1;omega)).trans (heap_alloc_old (heap_alloc_old HR3.out _) _);have hg4:=(hgrow.block W1.heap.size (by simp <;> omega) (fun e=>(HROK.out _ e.symm).2.2 rfl)).trans (heap_alloc_old (heap_alloc_old HG3.out _) _);obtain ⟨f0,f1,f2,f3,f4,f5,f6⟩:=cells7 hv4;obtain ⟨e0,e1,e2,e3,e4,e5,e6⟩:=cells7 hr4;have hfz4:=frozen_heap hv4;have hfr4:=frozen_heap hr4;have hpu:=RowO.push HROK.out HREPS.out HXA.out ⟨by simp <;> omega,fun hm=>by (have:=P.lt HI3.out _ hm;simp at this;omega),by simp <;> omega⟩ hown hgrow hat;have hg4s:=hgrow.size;have HPU:=Lib.hid hpu;have HV4:=Lib.hid hv4;have HR4:=Lib.hid hr4;have HG4:=Lib.hid hg4;have HGR:=Lib.hid hgrow;clear hv4 hr4 hg4 hpu hown hgrow hat)
       go_wp2
       have HS35:=Lib.hid (app_step HGR.out w.heap.size 6 (.slice (some ⟨g1,0,none⟩) (xs.length+1) cap1))
       have hnS3:w.heap.size∉S3∧w.heap.size+1∉S3∧W1.heap.size∉S3:=by
        refine ⟨fun hm=>?_,fun hm=>?_,fun hm=>?_⟩
        · rcases HS3.out.own _ hm with h' | h'
          · exact HNS2.out.1 h'
          · omega
        · rcases HS3.out.own _ hm with h' | h'
          · exact HNS2.out.2.1 h'
          · omega
        · rcases HS3.out.own _ hm with h' | h'
          · exact HNS2.out.2.2 h'
          · omega
       have hOB:∀ b,b∈w.heap.size :: (Value.slice ui xs.length uc).ownBlock.toList→w.heap.size≤b∧b∉S3:=fun b hb=>by
        simp only [List.mem_cons,Option.mem_toList] at hb
        rcases hb with rfl | hb
        · exact ⟨Nat.le_refl _,hnS3.1⟩
        · have h':=HROK.out b hb
          exact ⟨by omega,h'.2.1⟩
       have hv5:(W4.setCell ⟨w.heap.size,6,none⟩ (.slice (some ⟨g1,0,none⟩) (xs.length+1) cap1)).heap[w.heap.size]?=some (.cells #[.int .i64 t,.int .i64 0,.slice none 0 0,.int .i64 0,.int .i64 g.t,.slice none 0 0,.slice (some ⟨g1,0,none⟩) (xs.length+1) cap1] 28 (0,0)):=(heap_set_same (o:=6) HV4.out _).trans rfl
       have hr5:(W4.setCell ⟨w.heap.size,6,none⟩ (.slice (some ⟨g1,0,none⟩) (xs.length+1) cap1)).heap[w.heap.size+1]?=some (.cells #[.int .i64 0,.int .i64 0,.slice none 0 0,.int .i64 0,.int .i64 0,.slice none 0 0,.slice none 0 0] 28 (0,0)):=heap_set_other (p:=⟨w.heap.size,6,none⟩) HR4.out (by show w.heap.size+1≠w.heap.size;omega) _
       have hg5:=heap_set_other (p:=⟨w.heap.size,6,none⟩) HG4.out (by show W1.heap.size≠w.heap.size;omega) (.slice (some ⟨g1,0,none⟩) (xs.length+1) cap1)
       obtain ⟨hI5,hs5⟩:=gotV_end (HS2.out.trans HS3.out) HI3.out hOB HS35.out
       have hnx:getL gv (List.replicate (N - (xs.length+1)) g.t) (xs++[q.1]) q.2.2=some R:=by
        have h':=HQ2.out
        rw [if_pos h0] at h'
        exact h'
       have hrow5:=HPU.out.move (w1:=W4.setCell ⟨w.heap.size,6,none⟩ (.slice (some ⟨g1,0,none⟩) (xs.length+1) cap1)) (fun b hb _=>Below.heap_setCell _ _ _ _ (by show b≠w.heap.size;omega)) (by simp [World.setCell])
       exact ⟨⟨xs.length+1,S3,q.2.2,xs++[q.1],_,by go_num,by omega,by simp,Lib.hid hnx,Lib.hid hI5,Lib.hid hs5,Lib.hid hrow5,Lib.hid hv5,Lib.hid hr5,Lib.hid hg5,Lib.hid hnS3⟩,by simp [intOf];omega⟩
     · go_wp2_with (at_builtin;(refine wpList_append_lies _ rfl _ _ _ rfl w.heap.size 28 i0 (.agg #[.int .i64 0,.int .i64 0,.slice none 0 0,.int .i64 0,.int .i64 0,.slice none 0 0,.slice none 0 0]) 7 104 Tryz.underlying26 hi hz0 hz1 hz2 rfl (by omega) _ _ _ rfl HROWN.out ⟨W3.heap.size+1,0,none⟩ 1 1 _ rfl ?_ (World.news_of_block (heap_alloc_at (by simp) _)) ?_ (by omega) ?_ ?_ ?_ _ rfl ?_);rfl;(intro x hx;simp at hx;rcases hx with rfl | rfl | rfl | rfl | rfl | rfl | rfl <;> rfl);(unfold maxLen;omega);omega;(simp <;> omega);intro g1 cap1 W4 hown hgrow hat hlt4;have hv4:=(hgrow.block w.heap.size (by simp <;> omega) (fun e=>by have:=(HROK.out _ e.symm).1;omega)).trans (heap_alloc_old (heap_alloc_old HV3.out _) _);have hr4:=(hgrow.block (w.heap.size+1) (by simp <;> omega) (fun e=>by have:=(HROK.out _ e.symm).1;omega)).trans (heap_alloc_old (heap_alloc_old HR3.out _) _);have hg4:=(hgrow.block W1.heap.size (by simp <;> omega) (fun e=>(HROK.out _ e.symm).2.2 rfl)).trans (heap_alloc_old (heap_alloc_old HG3.out _) _);obtain ⟨f0,f1,f2,f3,f4,f5,f6⟩:=cells7 hv4;obtain ⟨e0,e1,e2,e3,e4,e5,e6⟩:=cells7 hr4;have hfz4:=frozen_heap hv4;have hfr4:=frozen_heap hr4;have hpu:=RowO.push HROK.out HREPS.out HXA.out ⟨by simp <;> omega,fun hm=>by (have:=P.lt HI3.out _ hm;simp at this;omega),by simp <;> omega⟩ hown hgrow hat;have hg4s:=hgrow.size;have HPU:=Lib.hid hpu;have HV4:=Lib.hid hv4;have HR4:=Lib.hid hr4;have HG4:=Lib.hid hg4;have HGR:=Lib.hid hgrow;clear hv4 hr4 hg4 hpu hown hgrow hat)
       go_wp2
       have HS35:=Lib.hid (app_step HGR.out w.heap.size 6 (.slice (some ⟨g1,0,none⟩) (xs.length+1) cap1))
       have hnS3:w.heap.size∉S3∧w.heap.size+1∉S3∧W1.heap.size∉S3:=by
        refine ⟨fun hm=>?_,fun hm=>?_,fun hm=>?_⟩
        · rcases HS3.out.own _ hm with h' | h'
          · exact HNS2.out.1 h'
          · omega
        · rcases HS3.out.own _ hm with h' | h'
          · exact HNS2.out.2.1 h'
          · omega
        · rcases HS3.out.own _ hm with h' | h'
          · exact HNS2.out.2.2 h'
          · omega
       have hOB:∀ b,b∈w.heap.size :: (Value.slice ui xs.length uc).ownBlock.toList→w.heap.size≤b∧b∉S3:=fun b hb=>by
        simp only [List.mem_cons,Option.mem_toList] at hb
        rcases hb with rfl | hb
        · exact ⟨Nat.le_refl _,hnS3.1⟩
        · have h':=HROK.out b hb
          exact ⟨by omega,h'.2.1⟩
       have hv5:(W4.setCell ⟨w.heap.size,6,none⟩ (.slice (some ⟨g1,0,none⟩) (xs.length+1) cap1)).heap[w.heap.size]?=some (.cells #[.int .i64 t,.int .i64 0,.slice none 0 0,.int .i64 0,.int .i64 g.t,.slice none 0 0,.slice (some ⟨g1,0,none⟩) (xs.length+1) cap1] 28 (0,0)):=(heap_set_same (o:=6) HV4.out _).trans rfl
       have hr5:(W4.setCell ⟨w.heap.size,6,none⟩ (.slice (some ⟨g1,0,none⟩) (xs.length+1) cap1)).heap[w.heap.size+1]?=some (.cells #[.int .i64 0,.int .i64 0,.slice none 0 0,.int .i64 0,.int .i64 0,.slice none 0 0,.slice none 0 0] 28 (0,0)):=heap_set_other (p:=⟨w.heap.size,6,none⟩) HR4.out (by show w.heap.size+1≠w.heap.size;omega) _
       obtain ⟨W6,e2,h6,hs6⟩:=set7 hr5 (.int .i64 t) (.int .i64 0) (.slice none 0 0) (.int .i64 0) (.int .i64 g.t) (.slice none 0 0) (.slice (some ⟨g1,0,none⟩) (xs.length+1) cap1)
       rw [e2]
       obtain ⟨r0,r1,r2,r3,r4,r5,r6⟩:=cells7 h6
       refine bodyPost_ret (v:=.tuple #[.agg #[.int .i64 t,.int .i64 0,.slice none 0 0,.int .i64 0,.int .i64 g.t,.slice none 0 0,.slice (some ⟨g1,0,none⟩) (xs.length+1) cap1],_]) (by simp [results,Tryz.results76,go_sem, *];rfl) rfl ?_
       have hne:q.2.1≠0:=by omega
       have hha:=HQ2.out
       rw [if_neg hne] at hha
       injection hha with hha
       subst hha
       have hrr:=HR2.out
       rw [if_neg hne] at hrr
       injection hrr with hrr
       subst hrr
       have hs36:Step ((w.heap.size+1) :: w.heap.size :: (Value.slice ui xs.length uc).ownBlock.toList) ((w.heap.size+1) :: w.heap.size :: (Value.slice ui xs.length uc).ownBlock.toList) W3 W6:=(HS35.out.more (S1:=((w.heap.size+1) :: w.heap.size :: (Value.slice ui xs.length uc).ownBlock.toList)) (T1:=((w.heap.size+1) :: w.heap.size :: (Value.slice ui xs.length uc).ownBlock.toList)) (fun k hk=>List.mem_cons_of_mem _ hk) (fun k hk=>.inr (.inl hk))).trans (hs6.more (S1:=((w.heap.size+1) :: w.heap.size :: (Value.slice ui xs.length uc).ownBlock.toList)) (T1:=((w.heap.size+1) :: w.heap.size :: (Value.slice ui xs.length uc).ownBlock.toList)) (fun k hk=>by simp only [List.mem_cons,List.not_mem_nil,or_false] at hk;subst hk;exact List.mem_cons_self) (fun k hk=>.inr (.inl hk)))
       obtain ⟨hI6,hs66⟩:=gotV_end (HS2.out.trans HS3.out) HI3.out (fun b hb=>by
        rcases List.mem_cons.1 hb with rfl | hb
        · exact ⟨by omega,hnS3.2.1⟩
        · exact hOB b hb) hs36
       have hrow6:=HPU.out.move (w1:=W6) (fun b hb hlt=>(hs6.block b (by simpa [World.setCell] using hlt) (by simp only [List.mem_cons,List.not_mem_nil,or_false];omega)).trans (Below.heap_setCell _ _ _ _ (by show b≠w.heap.size;omega))) (by have:=hs6.size;simpa [World.setCell] using this)
       exact ⟨_,[.int .i64 t,.int .i64 0,.slice none 0 0,.int .i64 0,.int .i64 g.t,.slice none 0 0,.slice (some ⟨g1,0,none⟩) (xs.length+1) cap1],S3,rfl,(hrow6.val t 0 g.t).mono (fun b hb _=>⟨by omega,hb.2.1⟩),HE3.out.step_at hs36 (fun b hb=>by
        rcases List.mem_cons.1 hb with rfl | hb
        · exact ⟨_,_,_,HR3.out,by decide⟩
        rcases List.mem_cons.1 hb with rfl | hb
        · exact ⟨_,_,_,HV3.out,by decide⟩
        obtain ⟨cells,hcc⟩:=HOT.out b (Option.mem_toList.1 hb)
        exact ⟨_,_,_,hcc,by decide⟩),hI6,hs66⟩
     · go_wp2_with (at_builtin;(refine wpList_append_lies _ rfl _ _ _ rfl w.heap.size 28 i0 (.agg #[.int .i64 0,.int .i64 0,.slice none 0 0,.int .i64 0,.int .i64 0,.slice none 0 0,.slice none 0 0]) 7 104 Tryz.underlying26 hi hz0 hz1 hz2 rfl (by omega) _ _ _ rfl HROWN.out ⟨W3.heap.size+1,0,none⟩ 1 1 _ rfl ?_ (World.news_of_block (heap_alloc_at (by simp) _)) ?_ (by omega) ?_ ?_ ?_ _ rfl ?_);rfl;(intro x hx;simp at hx;rcases hx with rfl | rfl | rfl | rfl | rfl | rfl | rfl <;> rfl);(unfold maxLen;omega);omega;(simp <;> omega);intro g1 cap1 W4 hown hgrow hat hlt4;have hv4:=(hgrow.block w.heap.size (by simp <;> omega) (fun e=>by have:=(HROK.out _ e.symm).1;omega)).trans (heap_alloc_old (heap_alloc_old HV3.out _) _);have hr4:=(hgrow.block (w.heap.size+1) (by simp <;> omega) (fun e=>by have:=(HROK.out _ e.symm).1;omega)).trans (heap_alloc_old (heap_alloc_old HR3.out _) _);have hg4:=(hgrow.block W1.heap.size (by simp <;> omega) (fun e=>(HROK.out _ e.symm).2.2 rfl)).trans (heap_alloc_old (heap_alloc_old HG3.out _) _);obtain ⟨f0,f1,f2,f3,f4,f5,f6⟩:=cells7 hv4;obtain ⟨e0,e1,e2,e3,e4,e5,e6⟩:=cells7 hr4;have hfz4:=frozen_heap hv4;have hfr4:=frozen_heap hr4;have hpu:=RowO.push HROK.out HREPS.out HXA.out ⟨by simp <;> omega,fun hm=>by (have:=P.lt HI3.out _ hm;simp at this;omega),by simp <;> omega⟩ hown hgrow hat;have hg4s:=hgrow.size;have HPU:=Lib.hid hpu;have HV4:=Lib.hid hv4;have HR4:=Lib.hid hr4;have HG4:=Lib.hid hg4;have HGR:=Lib.hid hgrow;clear hv4 hr4 hg4 hpu hown hgrow hat)
       go_wp2
       have HS35:=Lib.hid (app_step HGR.out w.heap.size 6 (.slice (some ⟨g1,0,none⟩) (xs.length+1) cap1))
       have hnS3:w.heap.size∉S3∧w.heap.size+1∉S3∧W1.heap.size∉S3:=by
        refine ⟨fun hm=>?_,fun hm=>?_,fun hm=>?_⟩
        · rcases HS3.out.own _ hm with h' | h'
          · exact HNS2.out.1 h'
          · omega
        · rcases HS3.out.own _ hm with h' | h'
          · exact HNS2.out.2.1 h'
          · omega
        · rcases HS3.out.own _ hm with h' | h'
          · exact HNS2.out.2.2 h'
          · omega
       have hOB:∀ b,b∈w.heap.size :: (Value.slice ui xs.length uc).ownBlock.toList→w.heap.size≤b∧b∉S3:=fun b hb=>by
        simp only [List.mem_cons,Option.mem_toList] at hb
        rcases hb with rfl | hb
        · exact ⟨Nat.le_refl _,hnS3.1⟩
        · have h':=HROK.out b hb
          exact ⟨by omega,h'.2.1⟩
       have hv5:(W4.setCell ⟨w.heap.size,6,none⟩ (.slice (some ⟨g1,0,none⟩) (xs.length+1) cap1)).heap[w.heap.size]?=some (.cells #[.int .i64 t,.int .i64 0,.slice none 0 0,.int .i64 0,.int .i64 g.t,.slice none 0 0,.slice (some ⟨g1,0,none⟩) (xs.length+1) cap1] 28 (0,0)):=(heap_set_same (o:=6) HV4.out _).trans rfl
       have hr5:(W4.setCell ⟨w.heap.size,6,none⟩ (.slice (some ⟨g1,0,none⟩) (xs.length+1) cap1)).heap[w.heap.size+1]?=some (.cells #[.int .i64 0,.int .i64 0,.slice none 0 0,.int .i64 0,.int .i64 0,.slice none 0 0,.slice none 0 0] 28 (0,0)):=heap_set_other (p:=⟨w.heap.size,6,none⟩) HR4.out (by show w.heap.size+1≠w.heap.size;omega) _
       obtain ⟨W6,e2,h6,hs6⟩:=set7 hr5 (.int .i64 t) (.int .i64 0) (.slice none 0 0) (.int .i64 0) (.int .i64 g.t) (.slice none 0 0) (.slice (some ⟨g1,0,none⟩) (xs.length+1) cap1)
       rw [e2]
       obtain ⟨r0,r1,r2,r3,r4,r5,r6⟩:=cells7 h6
       refine bodyPost_ret (v:=.tuple #[.agg #[.int .i64 t,.int .i64 0,.slice none 0 0,.int .i64 0,.int .i64 g.t,.slice none 0 0,.slice (some ⟨g1,0,none⟩) (xs.length+1) cap1],_]) (by simp [results,Tryz.results76,go_sem, *];rfl) rfl ?_
       have hne:q.2.1≠0:=by omega
       have hha:=HQ2.out
       rw [if_neg hne] at hha
       injection hha with hha
       subst hha
       have hrr:=HR2.out
       rw [if_neg hne] at hrr
       injection hrr with hrr
       subst hrr
       have hs36:Step ((w.heap.size+1) :: w.heap.size :: (Value.slice ui xs.length uc).ownBlock.toList) ((w.heap.size+1) :: w.heap.size :: (Value.slice ui xs.length uc).ownBlock.toList) W3 W6:=(HS35.out.more (S1:=((w.heap.size+1) :: w.heap.size :: (Value.slice ui xs.length uc).ownBlock.toList)) (T1:=((w.heap.size+1) :: w.heap.size :: (Value.slice ui xs.length uc).ownBlock.toList)) (fun k hk=>List.mem_cons_of_mem _ hk) (fun k hk=>.inr (.inl hk))).trans (hs6.more (S1:=((w.heap.size+1) :: w.heap.size :: (Value.slice ui xs.length uc).ownBlock.toList)) (T1:=((w.heap.size+1) :: w.heap.size :: (Value.slice ui xs.length uc).ownBlock.toList)) (fun k hk=>by simp only [List.mem_cons,List.not_mem_nil,or_false] at hk;subst hk;exact List.mem_cons_self) (fun k hk=>.inr (.inl hk)))
       obtain ⟨hI6,hs66⟩:=gotV_end (HS2.out.trans HS3.out) HI3.out (fun b hb=>by
        rcases List.mem_cons.1 hb with rfl | hb
        · exact ⟨by omega,hnS3.2.1⟩
        · exact hOB b hb) hs36
       have hrow6:=HPU.out.move (w1:=W6) (fun b hb hlt=>(hs6.block b (by simpa [World.setCell] using hlt) (by simp only [List.mem_cons,List.not_mem_nil,or_false];omega)).trans (Below.heap_setCell _ _ _ _ (by show b≠w.heap.size;omega))) (by have:=hs6.size;simpa [World.setCell] using this)
       exact ⟨_,[.int .i64 t,.int .i64 0,.slice none 0 0,.int .i64 0,.int .i64 g.t,.slice none 0 0,.slice (some ⟨g1,0,none⟩) (xs.length+1) cap1],S3,rfl,(hrow6.val t 0 g.t).mono (fun b hb _=>⟨by omega,hb.2.1⟩),HE3.out.step_at hs36 (fun b hb=>by
        rcases List.mem_cons.1 hb with rfl | hb
        · exact ⟨_,_,_,HR3.out,by decide⟩
        rcases List.mem_cons.1 hb with rfl | hb
        · exact ⟨_,_,_,HV3.out,by decide⟩
        obtain ⟨cells,hcc⟩:=HOT.out b (Option.mem_toList.1 hb)
        exact ⟨_,_,_,hcc,by decide⟩),hI6,hs66⟩
    case neg =>
     obtain ⟨ui,uc,rfl⟩:∃ ui uc,u=.slice ui xs.length uc:=by
      obtain ⟨A,c,h1,_⟩:=HRO.out.reads
      exact ⟨A,c,h1⟩
     have hq:=hrun.out
     rw [show N - xs.length=0 by omega,List.replicate_zero,getL] at hq
     injection hq with hq
     subst hq
     have hrr:=HR2.out
     rw [if_pos rfl,Option.map_eq_some_iff] at hrr
     obtain ⟨b,hb1,hrr⟩:=hrr
     subst hrr
     have HO9:=Lib.hid (fun W (hW:Step [] [] wr W)=>HEND.out _ _ _ (P.step HI2.out hW (by simp)) _ _ _ hb1)
     obtain ⟨c0,c1,c2,c3,c4,c5,c6⟩:=cells7 HVB.out
     obtain ⟨d0,d1,d2,d3,d4,d5,d6⟩:=cells7 HRB.out
     have hfz:=frozen_heap HVB.out
     have hfr:=frozen_heap HRB.out
     clear hb1
     go_wp2_with (fail)
     refine (HO9.out wr (Step.refl [] wr)).mono ?_
     rintro e W3 ⟨ev3,vb3,kb3,S3,rfl,hB3,hkb3,hkS3,he3,hI3,hs3⟩
     have hv3:=(hs3.block _ (lt_heap HVB.out) HNS2.out.1).trans HVB.out
     have hr3:=(hs3.block _ (lt_heap HRB.out) HNS2.out.2.1).trans HRB.out
     have hlr3:=lt_heap HRB.out
     have hrow2:RowO (fun b=>(w.heap.size+1 < b∧b∉S3)∧b∉S2) wr w.heap.size (.slice ui xs.length uc) xs:=HRO.out.mono (fun b hb hlt2=>⟨⟨hb.1,fun hm=>by
      rcases hs3.own b hm with h3 | h3
      · exact hb.2.1 h3
      · omega⟩,hb.2.1⟩)
     have hrow3:=hrow2.move (fun b hb hlt2=>hs3.block b hlt2 hb.2) hs3.size
     have hn3:w.heap.size+1∉S3:=fun hm=>by
      rcases hs3.own _ hm with h' | h'
      · exact HNS2.out.2.1 h'
      · omega
     have HV3:=Lib.hid hv3
     have HR3:=Lib.hid hr3
     have HROW3:=Lib.hid hrow3
     have HE3:=Lib.hid he3
     have HI3:=Lib.hid hI3
     have HS3:=Lib.hid hs3
     clear c0 c1 c2 c3 c4 c5 c6 d0 d1 d2 d3 d4 d5 d6 hfz hfr hB3 hkb3 hkS3 he3 hI3 hs3 hrow2 hrow3
     obtain ⟨c0,c1,c2,c3,c4,c5,c6⟩:=cells7 hv3
     obtain ⟨d0,d1,d2,d3,d4,d5,d6⟩:=cells7 hr3
     have hfz:=frozen_heap hv3
     have hfr:=frozen_heap hr3
     clear hv3 hr3
     go_wp2
     obtain ⟨W6,e2,h6,hs6⟩:=set7 HR3.out (.int .i64 t) (.int .i64 0) (.slice none 0 0) (.int .i64 0) (.int .i64 g.t) (.slice none 0 0) (.slice ui xs.length uc)
     rw [e2]
     obtain ⟨r0,r1,r2,r3,r4,r5,r6⟩:=cells7 h6
     refine bodyPost_ret (v:=.tuple #[.agg #[.int .i64 t,.int .i64 0,.slice none 0 0,.int .i64 0,.int .i64 g.t,.slice none 0 0,.slice ui xs.length uc],ev3]) (by simp [results,Tryz.results76,go_sem, *]) rfl ?_
     obtain ⟨hI6,hs66⟩:=gotV_end (HS2.out.trans HS3.out) HI3.out (fun b hb=>by
      simp only [List.mem_cons,List.not_mem_nil,or_false] at hb
      subst hb
      exact ⟨by omega,hn3⟩) hs6
     have hrow6:=HROW3.out.move (w1:=W6) (fun b hb hlt2=>hs6.block b hlt2 (by simp only [List.mem_cons,List.not_mem_nil,or_false];omega)) hs6.size
     exact ⟨_,[.int .i64 t,.int .i64 0,.slice none 0 0,.int .i64 0,.int .i64 g.t,.slice none 0 0,.slice ui xs.length uc],S3,rfl,(hrow6.val t 0 g.t).mono (fun b hb _=>⟨by omega,hb.1.2⟩),.inl (HE3.out.step_at hs6 (fun b hb=>by
      simp only [List.mem_cons,List.not_mem_nil,or_false] at hb
      subst hb
      exact ⟨_,_,_,HR3.out,by decide⟩)),hI6,hs66⟩

theorem getLst_any (P:PR) (gv:Int→P.σ→Option (Val × Nat × P.σ)) (D:Int) (hD:1≤D∧D < 9223372036854775808) (hG:Gets P gv (D - 1)) {S:List Nat} {s:P.σ} {w:World} (h:P.Is S s w) {r:Val × Nat × P.σ} (hr:getList P.run gv 15 .lstB .lstE s=some r) :
    Calls Tryz.prog 76 #[.iface P.ty P.ptr,.agg #[.int .i64 15,.int .i64 0,.slice none 0 0,.int .i64 0,.int .i64 0,.slice none 0 0,.slice none 0 0],.int .i64 9,.int .i64 D] w (GotV P r S w) :=
  getColl_any P 15 9 10 .lstB .lstE (by unfold wrap64;omega) (by rw [IntKind.wrap_i64];omega) (fun h _ _ _ hr=>begun_lst P _ _ _ _ _ _ h hr) (fun _ _ _ h _ _ _ hr=>begun_lstE P _ _ _ _ _ _ h hr) (by decide) gv D hD hG h hr

theorem getSet_any (P:PR) (gv:Int→P.σ→Option (Val × Nat × P.σ)) (D:Int) (hD:1≤D∧D < 9223372036854775808) (hG:Gets P gv (D - 1)) {S:List Nat} {s:P.σ} {w:World} (h:P.Is S s w) {r:Val × Nat × P.σ} (hr:getList P.run gv 14 .setB .setE s=some r) :
    Calls Tryz.prog 76 #[.iface P.ty P.ptr,.agg #[.int .i64 14,.int .i64 0,.slice none 0 0,.int .i64 0,.int .i64 0,.slice none 0 0,.slice none 0 0],.int .i64 11,.int .i64 D] w (GotV P r S w) :=
  getColl_any P 14 11 12 .setB .setE (by unfold wrap64;omega) (by rw [IntKind.wrap_i64];omega) (fun h _ _ _ hr=>begun_set P _ _ _ _ _ _ h hr) (fun _ _ _ h _ _ _ hr=>begun_setE P _ _ _ _ _ _ h hr) (by decide) gv D hD hG h hr

end Go.Proofs.YtmjcnomgpikncaaGreatDoor

namespace Go.Proofs.YtmjcnomgpikncaaGreatDoor

open Go.RowKit Go.Deep



end Go.Proofs.YtmjcnomgpikncaaGreatDoor

namespace Go.Proofs.YtmjcnomgpikncaaGreatDoor

open Go.RowKit Go.Deep



open Go.Proofs.YtmjcnomgpikncaaGreatDoorW.PrintWords

set_option maxRecDepth 100000 in
set_option maxHeartbeats 2000000 in
theorem getMap_bad (P:PR) (D:Int) {S:List Nat} {s:P.σ} {w:World} (h:P.Is S s w) {g:RGot} {k:Nat} {s1:P.σ} (hk:k≠0) (hr:P.run s .mapB=some (g,k,s1)) :
    Calls Tryz.prog 75 #[.iface P.ty P.ptr,.int .i64 D] w (GotV P (⟨13,0,[],0,0,[],[]⟩,k,s1) S w):=by
  obtain ⟨hm,hn,hen⟩:=P.m_mapB
  have hc:=ctx_any
  have hO:∀ W,Step [] [] w W→Calls Tryz.prog (P.fn "ReadMapBegin") #[P.ptr,ctxV] W (TellsV P.Is (fun ev=>.tuple #[.int .u8 g.k,.int .u8 g.t,.int .i64 g.size,ev]) k s1 S W):=fun W hW=>P.at_ h hr W hW
  have HO:=Lib.hid hO
  have HF:=Lib.hid (P.lt h)
  clear hO hr h
  go_enter Tryz.func75,Tryz.ntmps75
  go_wp2_with (fail)
  go_region_held3 (fun _=>True) (trivial)
    (first
      | (go_at_call 53;refine (hc _).mono ?_;rintro e w' ⟨rfl,rfl⟩)
      | (refine (HO.out _ ?_).mono ?_;exact (((Step.refl _ _).alloc _).alloc _).drew;rintro e W1 ⟨ev,S1,rfl,he,hI,hs⟩;have hbr:=(hs.block w.heap.size (by simp <;> omega) (fun hm=>by have:=HF.out _ hm;omega)).trans (heap_alloc_old (heap_alloc_new w _) _);have hbv:=(hs.block (w.heap.size+1) (by simp) (fun hm=>by have:=HF.out _ hm;omega)).trans (heap_alloc_at (by simp) _);obtain ⟨d0,d1,d2,d3,d4,d5,d6⟩:=cells7 hbr;obtain ⟨c0,c1,c2,c3,c4,c5,c6⟩:=cells7 hbv;have hfr:=frozen_heap hbr;have hfz:=frozen_heap hbv;have hlr:=lt_heap hbr;have hlv:=lt_heap hbv;have HBR:=Lib.hid hbr;have HBV:=Lib.hid hbv;have HE:=Lib.hid he;have HI:=Lib.hid hI;have HS:=Lib.hid hs;clear hI hs hbr hbv))
  all_goals (
    rcases he with ⟨h0,_⟩ | ⟨bb,tt,er,ms,hk1,hk2,rfl,hbb⟩
    · exact absurd h0 hk
    go_wp2
    obtain ⟨W6,e2,h6,hs6⟩:=set7 HBR.out (.int .i64 13) (.int .i64 0) (.slice none 0 0) (.int .i64 0) (.int .i64 0) (.slice none 0 0) (.slice none 0 0)
    rw [e2]
    obtain ⟨r0,r1,r2,r3,r4,r5,r6⟩:=cells7 h6
    refine bodyPost_ret (v:=.tuple #[.agg #[.int .i64 13,.int .i64 0,.slice none 0 0,.int .i64 0,.int .i64 0,.slice none 0 0,.slice none 0 0],.iface 235 (.pointer (some ⟨bb,0,none⟩))]) (by simp [results,Tryz.results75,go_sem, *]) rfl ?_
    obtain ⟨hI6,hs66⟩:=gotV_end ((((Step.refl S w).alloc _).alloc _).drew.trans HS.out) HI.out (fun b hb=>by
      simp only [List.mem_cons,List.not_mem_nil,or_false] at hb
      subst hb
      refine ⟨Nat.le_refl _,fun hm=>?_⟩
      rcases HS.out.own _ hm with h1 | h1
      · have:=HF.out _ h1;omega
      · simp at h1;omega) hs6
    exact ⟨_,[.int .i64 13,.int .i64 0,.slice none 0 0,.int .i64 0,.int .i64 0,.slice none 0 0,.slice none 0 0],S1,rfl,(RowO.nil _ _ 0).val 13 0 0,.inl (HE.out.step_at hs6 (fun b hb=>by
      simp only [List.mem_cons,List.not_mem_nil,or_false] at hb
      subst hb
      exact ⟨_,_,_,HBR.out,by decide⟩)),hI6,hs66⟩)

end Go.Proofs.YtmjcnomgpikncaaGreatDoor

namespace Go.Proofs.YtmjcnomgpikncaaGreatDoor

open Go.RowKit Go.Deep



open Go.Proofs.YtmjcnomgpikncaaGreatDoorW.PrintWords

theorem GotV.back {P:PR} {r:Val × Nat × P.σ} {S:List Nat} {w W w':World} {e:Ending} (h:GotV P r S W e w') (hW:Step [] [] w W):GotV P r S w e w':=by
  obtain ⟨ev,cs,S',h1,h2,h3,h4,h5⟩:=h
  exact ⟨ev,cs,S',h1,h2.mono (fun b hb _=>⟨Nat.le_trans hW.size hb.1,hb.2⟩),h3,h4,(hW.more (S1:=S) (T1:=S) (by simp) (fun k hk=>.inr (.inl hk))).trans h5⟩

set_option maxRecDepth 100000 in
set_option maxHeartbeats 2000000 in
theorem get_lst (P:PR) (D:Int) (hD:1≤D∧D < 9223372036854775808) {S:List Nat} {s:P.σ} {w:World} (h:P.Is S s w) {r:Val × Nat × P.σ}
    (hc:∀ W,Step [] [] w W→Calls Tryz.prog 76 #[.iface P.ty P.ptr,.agg #[.int .i64 15,.int .i64 0,.slice none 0 0,.int .i64 0,.int .i64 0,.slice none 0 0,.slice none 0 0],.int .i64 9,.int .i64 D] W (GotV P r S W)) :
    Calls Tryz.prog 49 #[.iface P.ty P.ptr,.int .u8 15,.int .i64 D] w (GotV P r S w):=by
  have HC:=Lib.hid hc
  have HF:=Lib.hid (P.lt h)
  clear hc h
  go_enter Tryz.func49,Tryz.ntmps49
  go_wp2_with (fail)
  refine (HC.out _ ((((Step.refl [] w).alloc _).alloc _).alloc _)).mono ?_
  rintro e W1 ⟨ev,cs,S1,rfl,hO,hE,hI,hs⟩
  obtain ⟨A2,a2,A5,a5,A6,a6,rfl,-⟩:=kVal_open hO.now
  have hbr:=(hs.block w.heap.size (by simp <;> omega) (fun hm=>by have:=HF.out _ hm;omega)).trans (heap_alloc_old (heap_alloc_old (heap_alloc_new w _) _) _)
  obtain ⟨d0,d1,d2,d3,d4,d5,d6⟩:=cells7 hbr
  have hfr:=frozen_heap hbr
  have hlr:=lt_heap hbr
  have HBR:=Lib.hid hbr
  have HO:=Lib.hid hO
  have HE:=Lib.hid hE
  have HI:=Lib.hid hI
  have HS:=Lib.hid hs
  clear hbr hO hE hI hs
  go_wp2
  obtain ⟨W6,e2,h6,hs6⟩:=set7 HBR.out (.int .i64 r.1.f0) (.int .i64 r.1.f1) (.slice A2 r.1.f2.length a2) (.int .i64 r.1.f3) (.int .i64 r.1.f4) (.slice A5 r.1.f5.length a5) (.slice A6 r.1.f6.length a6)
  rw [e2]
  obtain ⟨r0,r1,r2,r3,r4,r5,r6⟩:=cells7 h6
  refine bodyPost_ret (v:=.tuple #[.agg #[.int .i64 r.1.f0,.int .i64 r.1.f1,.slice A2 r.1.f2.length a2,.int .i64 r.1.f3,.int .i64 r.1.f4,.slice A5 r.1.f5.length a5,.slice A6 r.1.f6.length a6],ev]) (by simp [results,Tryz.results49,go_sem, *]) rfl ?_
  obtain ⟨hI6,hs66⟩:=gotV_end (((((Step.refl S w).alloc _).alloc _).alloc _).trans HS.out) HI.out (fun b hb=>by
    simp only [List.mem_cons,List.not_mem_nil,or_false] at hb
    subst hb
    refine ⟨Nat.le_refl _,fun hm=>?_⟩
    rcases HS.out.own _ hm with h1 | h1
    · have:=HF.out _ h1;omega
    · simp at h1;omega) hs6
  have hO6:=HO.out.move (w1:=W6) (fun b hb hlt=>hs6.block b hlt (by simp only [List.mem_cons,List.not_mem_nil,or_false];have:=hb.1;simp at this;omega)) hs6.size
  exact ⟨_,[.int .i64 r.1.f0,.int .i64 r.1.f1,.slice A2 r.1.f2.length a2,.int .i64 r.1.f3,.int .i64 r.1.f4,.slice A5 r.1.f5.length a5,.slice A6 r.1.f6.length a6],S1,rfl,hO6.mono (fun b hb _=>⟨by have:=hb.1;simp at this;omega,hb.2⟩),HE.out.step_at hs6 (fun b hb=>by
    simp only [List.mem_cons,List.not_mem_nil,or_false] at hb
    subst hb
    exact ⟨_,_,_,HBR.out,by decide⟩),hI6,hs66⟩

set_option maxRecDepth 100000 in
set_option maxHeartbeats 2000000 in
theorem get_set (P:PR) (D:Int) (hD:1≤D∧D < 9223372036854775808) {S:List Nat} {s:P.σ} {w:World} (h:P.Is S s w) {r:Val × Nat × P.σ}
    (hc:∀ W,Step [] [] w W→Calls Tryz.prog 76 #[.iface P.ty P.ptr,.agg #[.int .i64 14,.int .i64 0,.slice none 0 0,.int .i64 0,.int .i64 0,.slice none 0 0,.slice none 0 0],.int .i64 11,.int .i64 D] W (GotV P r S W)) :
    Calls Tryz.prog 49 #[.iface P.ty P.ptr,.int .u8 14,.int .i64 D] w (GotV P r S w):=by
  have HC:=Lib.hid hc
  have HF:=Lib.hid (P.lt h)
  clear hc h
  go_enter Tryz.func49,Tryz.ntmps49
  go_wp2_with (fail)
  refine (HC.out _ ((((Step.refl [] w).alloc _).alloc _).alloc _)).mono ?_
  rintro e W1 ⟨ev,cs,S1,rfl,hO,hE,hI,hs⟩
  obtain ⟨A2,a2,A5,a5,A6,a6,rfl,-⟩:=kVal_open hO.now
  have hbr:=(hs.block w.heap.size (by simp <;> omega) (fun hm=>by have:=HF.out _ hm;omega)).trans (heap_alloc_old (heap_alloc_old (heap_alloc_new w _) _) _)
  obtain ⟨d0,d1,d2,d3,d4,d5,d6⟩:=cells7 hbr
  have hfr:=frozen_heap hbr
  have hlr:=lt_heap hbr
  have HBR:=Lib.hid hbr
  have HO:=Lib.hid hO
  have HE:=Lib.hid hE
  have HI:=Lib.hid hI
  have HS:=Lib.hid hs
  clear hbr hO hE hI hs
  go_wp2
  obtain ⟨W6,e2,h6,hs6⟩:=set7 HBR.out (.int .i64 r.1.f0) (.int .i64 r.1.f1) (.slice A2 r.1.f2.length a2) (.int .i64 r.1.f3) (.int .i64 r.1.f4) (.slice A5 r.1.f5.length a5) (.slice A6 r.1.f6.length a6)
  rw [e2]
  obtain ⟨r0,r1,r2,r3,r4,r5,r6⟩:=cells7 h6
  refine bodyPost_ret (v:=.tuple #[.agg #[.int .i64 r.1.f0,.int .i64 r.1.f1,.slice A2 r.1.f2.length a2,.int .i64 r.1.f3,.int .i64 r.1.f4,.slice A5 r.1.f5.length a5,.slice A6 r.1.f6.length a6],ev]) (by simp [results,Tryz.results49,go_sem, *]) rfl ?_
  obtain ⟨hI6,hs66⟩:=gotV_end (((((Step.refl S w).alloc _).alloc _).alloc _).trans HS.out) HI.out (fun b hb=>by
    simp only [List.mem_cons,List.not_mem_nil,or_false] at hb
    subst hb
    refine ⟨Nat.le_refl _,fun hm=>?_⟩
    rcases HS.out.own _ hm with h1 | h1
    · have:=HF.out _ h1;omega
    · simp at h1;omega) hs6
  have hO6:=HO.out.move (w1:=W6) (fun b hb hlt=>hs6.block b hlt (by simp only [List.mem_cons,List.not_mem_nil,or_false];have:=hb.1;simp at this;omega)) hs6.size
  exact ⟨_,[.int .i64 r.1.f0,.int .i64 r.1.f1,.slice A2 r.1.f2.length a2,.int .i64 r.1.f3,.int .i64 r.1.f4,.slice A5 r.1.f5.length a5,.slice A6 r.1.f6.length a6],S1,rfl,hO6.mono (fun b hb _=>⟨by have:=hb.1;simp at this;omega,hb.2⟩),HE.out.step_at hs6 (fun b hb=>by
    simp only [List.mem_cons,List.not_mem_nil,or_false] at hb
    subst hb
    exact ⟨_,_,_,HBR.out,by decide⟩),hI6,hs66⟩

set_option maxRecDepth 100000 in
set_option maxHeartbeats 2000000 in
theorem get_map (P:PR) (D:Int) (hD:1≤D∧D < 9223372036854775808) {S:List Nat} {s:P.σ} {w:World} (h:P.Is S s w) {r:Val × Nat × P.σ}
    (hc:∀ W,Step [] [] w W→Calls Tryz.prog 75 #[.iface P.ty P.ptr,.int .i64 D] W (GotV P r S W)) :
    Calls Tryz.prog 49 #[.iface P.ty P.ptr,.int .u8 13,.int .i64 D] w (GotV P r S w):=by
  have HC:=Lib.hid hc
  have HF:=Lib.hid (P.lt h)
  clear hc h
  go_enter Tryz.func49,Tryz.ntmps49
  go_wp2_with (fail)
  refine (HC.out _ ((((Step.refl [] w).alloc _).alloc _).alloc _)).mono ?_
  rintro e W1 ⟨ev,cs,S1,rfl,hO,hE,hI,hs⟩
  obtain ⟨A2,a2,A5,a5,A6,a6,rfl,-⟩:=kVal_open hO.now
  have hbr:=(hs.block w.heap.size (by simp <;> omega) (fun hm=>by have:=HF.out _ hm;omega)).trans (heap_alloc_old (heap_alloc_old (heap_alloc_new w _) _) _)
  obtain ⟨d0,d1,d2,d3,d4,d5,d6⟩:=cells7 hbr
  have hfr:=frozen_heap hbr
  have hlr:=lt_heap hbr
  have HBR:=Lib.hid hbr
  have HO:=Lib.hid hO
  have HE:=Lib.hid hE
  have HI:=Lib.hid hI
  have HS:=Lib.hid hs
  clear hbr hO hE hI hs
  go_wp2
  obtain ⟨W6,e2,h6,hs6⟩:=set7 HBR.out (.int .i64 r.1.f0) (.int .i64 r.1.f1) (.slice A2 r.1.f2.length a2) (.int .i64 r.1.f3) (.int .i64 r.1.f4) (.slice A5 r.1.f5.length a5) (.slice A6 r.1.f6.length a6)
  rw [e2]
  obtain ⟨r0,r1,r2,r3,r4,r5,r6⟩:=cells7 h6
  refine bodyPost_ret (v:=.tuple #[.agg #[.int .i64 r.1.f0,.int .i64 r.1.f1,.slice A2 r.1.f2.length a2,.int .i64 r.1.f3,.int .i64 r.1.f4,.slice A5 r.1.f5.length a5,.slice A6 r.1.f6.length a6],ev]) (by simp [results,Tryz.results49,go_sem, *]) rfl ?_
  obtain ⟨hI6,hs66⟩:=gotV_end (((((Step.refl S w).alloc _).alloc _).alloc _).trans HS.out) HI.out (fun b hb=>by
    simp only [List.mem_cons,List.not_mem_nil,or_false] at hb
    subst hb
    refine ⟨Nat.le_refl _,fun hm=>?_⟩
    rcases HS.out.own _ hm with h1 | h1
    · have:=HF.out _ h1;omega
    · simp at h1;omega) hs6
  have hO6:=HO.out.move (w1:=W6) (fun b hb hlt=>hs6.block b hlt (by simp only [List.mem_cons,List.not_mem_nil,or_false];have:=hb.1;simp at this;omega)) hs6.size
  exact ⟨_,[.int .i64 r.1.f0,.int .i64 r.1.f1,.slice A2 r.1.f2.length a2,.int .i64 r.1.f3,.int .i64 r.1.f4,.slice A5 r.1.f5.length a5,.slice A6 r.1.f6.length a6],S1,rfl,hO6.mono (fun b hb _=>⟨by have:=hb.1;simp at this;omega,hb.2⟩),HE.out.step_at hs6 (fun b hb=>by
    simp only [List.mem_cons,List.not_mem_nil,or_false] at hb
    subst hb
    exact ⟨_,_,_,HBR.out,by decide⟩),hI6,hs66⟩

end Go.Proofs.YtmjcnomgpikncaaGreatDoor

namespace Go.Proofs.YtmjcnomgpikncaaGreatDoor

open Go.RowKit Go.Deep



open Go.Proofs.YtmjcnomgpikncaaGreatDoorW.PrintWords

theorem leaf_facts {t op:Int} (ht:(t=2∧op=13)∨(t=3∧op=14)∨(t=4∧op=18)∨(t=6∧op=15)∨(t=8∧op=16)∨(t=10∧op=17)∨(t=11∧op=19)∨(t=16∧op=21)) :
    (op=13∧(t == 2)=true)∨(op=14∧(t == 2)=false∧(t == 3)=true)∨(op=18∧(t == 2)=false∧(t == 3)=false∧(t == 4)=true)∨(op=15∧(t == 2)=false∧(t == 3)=false∧(t == 4)=false∧(t == 6)=true)∨(op=16∧(t == 2)=false∧(t == 3)=false∧(t == 4)=false∧(t == 6)=false∧(t == 8)=true)∨(op=17∧(t == 2)=false∧(t == 3)=false∧(t == 4)=false∧(t == 6)=false∧(t == 8)=false∧(t == 10)=true)∨(op=19∧(t == 2)=false∧(t == 3)=false∧(t == 4)=false∧(t == 6)=false∧(t == 8)=false∧(t == 10)=false∧(t == 11)=true)∨(op=21∧(t == 2)=false∧(t == 3)=false∧(t == 4)=false∧(t == 6)=false∧(t == 8)=false∧(t == 10)=false∧(t == 11)=false∧(t == 16)=true):=by
  rcases ht with ⟨rfl,rfl⟩ | ⟨rfl,rfl⟩ | ⟨rfl,rfl⟩ | ⟨rfl,rfl⟩ | ⟨rfl,rfl⟩ | ⟨rfl,rfl⟩ | ⟨rfl,rfl⟩ | ⟨rfl,rfl⟩ <;> simp

set_option maxRecDepth 100000 in
set_option maxHeartbeats 20000000 in
theorem get_leaf (P:PR) (t op:Int) (ht:(t=2∧op=13)∨(t=3∧op=14)∨(t=4∧op=18)∨(t=6∧op=15)∨(t=8∧op=16)∨(t=10∧op=17)∨(t=11∧op=19)∨(t=16∧op=21)) (D:Int) (hD:1≤D∧D < 9223372036854775808) {S:List Nat} {s:P.σ} {w:World} (h:P.Is S s w) {g:RGot} {k:Nat} {s1:P.σ}
 (hr:∀ W,Step [] [] w W→Calls Tryz.prog 73 #[.iface P.ty P.ptr,.agg #[.int .i64 op,.int .i64 0,.int .i64 0,.int .i64 0,.int .i64 0,.int .i64 0,.slice none 0 0]] W (TellsG P g k s1 S W)) :
 Calls Tryz.prog 49 #[.iface P.ty P.ptr,.int .u8 t,.int .i64 D] w (GotV P (⟨t,g.n,ints g.s,0,0,[],[]⟩,k,s1) S w):=by
 have ht0:0≤t∧t < 256:=by omega
 have hwt:IntKind.i64.wrap t=t:=by rw [IntKind.wrap_i64];omega
 have hwt2:wrap64 t=t:=by unfold wrap64;omega
 have HC:=Lib.hid hr
 have HF:=Lib.hid (P.lt h)
 have hfc:=leaf_facts ht
 clear hr h ht
 rcases hfc with ⟨rfl,f0⟩ | ⟨rfl,f0,f1⟩ | ⟨rfl,f0,f1,f2⟩ | ⟨rfl,f0,f1,f2,f3⟩ | ⟨rfl,f0,f1,f2,f3,f4⟩ | ⟨rfl,f0,f1,f2,f3,f4,f5⟩ | ⟨rfl,f0,f1,f2,f3,f4,f5,f6⟩ | ⟨rfl,f0,f1,f2,f3,f4,f5,f6,f7⟩
 all_goals (
  go_enter Tryz.func49,Tryz.ntmps49
  go_wp2_with (fail)
  refine (HC.out _ ((((Step.refl [] w).alloc _).alloc _).alloc _)).mono ?_
  rintro e W1 ⟨ev,vb,kb,S1,rfl,hB,hkb,hkS,hE,hI,hs⟩
  obtain ⟨vo,vc,hv,_,_⟩:=hB.ints
  subst hv
  have hn:∀ b,w.heap.size≤b→b < w.heap.size+3→b∉S1:=fun b h1 h2 hm=>by
   rcases hs.own b hm with h3 | h3
   · have:=HF.out _ h3;omega
   · simp at h3;omega
  have hbr:=(hs.block w.heap.size (by simp <;> omega) (fun hm=>by have:=HF.out _ hm;omega)).trans (heap_alloc_old (heap_alloc_old (heap_alloc_new w _) _) _)
  have hbv:=(hs.block (w.heap.size+1) (by simp <;> omega) (fun hm=>by have:=HF.out _ hm;omega)).trans (heap_alloc_old (heap_alloc_at (by simp) _) _)
  have hbg:=(hs.block (w.heap.size+1+1) (by simp) (fun hm=>by have:=HF.out _ hm;omega)).trans (heap_alloc_at (by simp) _)
  obtain ⟨d0,d1,d2,d3,d4,d5,d6⟩:=cells7 hbr
  obtain ⟨c0,c1,c2,c3,c4,c5,c6⟩:=cells7 hbv
  obtain ⟨b0,b1,b2,b3,b4,b5,b6⟩:=cells7 hbg
  have hfr:=frozen_heap hbr
  have hfv:=frozen_heap hbv
  have hfg:=frozen_heap hbg
  have hlr:=lt_heap hbr
  have hlv:=lt_heap hbv
  have hlg:=lt_heap hbg
  have HBR:=Lib.hid hbr
  have HBV:=Lib.hid hbv
  have HBG:=Lib.hid hbg
  have HB:=Lib.hid hB
  have HN:=Lib.hid hn
  have HKB:=Lib.hid (And.intro hkb hkS)
  have HE:=Lib.hid hE
  have HI:=Lib.hid hI
  have HS:=Lib.hid hs
  clear hbr hbv hbg hB hn hkb hkS hE hI hs
  go_wp2
  obtain ⟨Wg,eg,hg,hsg⟩:=set7 HBG.out (.int .i64 0) (.int .i64 g.t) (.int .i64 g.k) (.int .i64 g.size) (.int .i64 g.id) (.int .i64 g.n) (.slice vo (ints g.s).length vc)
  rw [eg]
  have hv2:=(hsg.block (w.heap.size+1) hlv (by simp)).trans HBV.out
  have hr2:=(hsg.block w.heap.size hlr (by simp <;> omega)).trans HBR.out
  have hlg2:=lt_heap hg
  clear d0 d1 d2 d3 d4 d5 d6 c0 c1 c2 c3 c4 c5 c6 b0 b1 b2 b3 b4 b5 b6 hfr hfv hfg eg
  obtain ⟨c0,c1,c2,c3,c4,c5,c6⟩:=cells7 hv2
  obtain ⟨d0,d1,d2,d3,d4,d5,d6⟩:=cells7 hr2
  obtain ⟨b0,b1,b2,b3,b4,b5,b6⟩:=cells7 hg
  have hfv:=frozen_heap hv2
  have hfr:=frozen_heap hr2
  have HV2:=Lib.hid hv2
  have HR2:=Lib.hid hr2
  have HSG:=Lib.hid hsg
  clear hv2 hr2 hsg hg
  go_region_held3 (fun W'=>W'.cell? ⟨w.heap.size+1+1,5,none⟩=some (.int .i64 g.n)∧W'.cell? ⟨w.heap.size+1+1,6,none⟩=some (.slice vo (ints g.s).length vc)) (first | exact ⟨b5,b6⟩ | (simp [go_sem, *];done))
   (fail)
  all_goals go_wp2
  all_goals (
   obtain ⟨W6,e2,h6,hs6⟩:=set7 (heap_set_other (p:=⟨w.heap.size+1,2,none⟩) (heap_set_other (p:=⟨w.heap.size+1,1,none⟩) HR2.out (by show w.heap.size≠w.heap.size+1;omega) (.int .i64 g.n)) (by show w.heap.size≠w.heap.size+1;omega) (.slice vo (ints g.s).length vc)) (.int .i64 t) (.int .i64 g.n) (.slice vo (ints g.s).length vc) (.int .i64 0) (.int .i64 0) (.slice none 0 0) (.slice none 0 0)
   rw [e2]
   have h7:W6.drew.heap[w.heap.size]?=some (.cells #[.int .i64 t,.int .i64 g.n,.slice vo (ints g.s).length vc,.int .i64 0,.int .i64 0,.slice none 0 0,.slice none 0 0] 28 (0,0)):=h6
   have r0:W6.drew.cell? ⟨w.heap.size,0,none⟩=some (.int .i64 t):=(cell_heap h7 _).trans rfl
   have r1:W6.drew.cell? ⟨w.heap.size,1,none⟩=some (.int .i64 g.n):=(cell_heap h7 _).trans rfl
   have r2:W6.drew.cell? ⟨w.heap.size,2,none⟩=some (.slice vo (ints g.s).length vc):=(cell_heap h7 _).trans rfl
   have r3:W6.drew.cell? ⟨w.heap.size,3,none⟩=some (.int .i64 0):=(cell_heap h7 _).trans rfl
   have r4:W6.drew.cell? ⟨w.heap.size,4,none⟩=some (.int .i64 0):=(cell_heap h7 _).trans rfl
   have r5:W6.drew.cell? ⟨w.heap.size,5,none⟩=some (.slice none 0 0):=(cell_heap h7 _).trans rfl
   have r6:W6.drew.cell? ⟨w.heap.size,6,none⟩=some (.slice none 0 0):=(cell_heap h7 _).trans rfl
   refine bodyPost_ret (v:=.tuple #[.agg #[.int .i64 t,.int .i64 g.n,.slice vo (ints g.s).length vc,.int .i64 0,.int .i64 0,.slice none 0 0,.slice none 0 0],ev]) (by simp [results,Tryz.results49,go_sem, *]) rfl ?_
   have hs16:Step [w.heap.size,w.heap.size+1,w.heap.size+1+1] [w.heap.size,w.heap.size+1,w.heap.size+1+1] W1 W6.drew:=((((HSG.out.more (S1:=[w.heap.size,w.heap.size+1,w.heap.size+1+1]) (T1:=[w.heap.size,w.heap.size+1,w.heap.size+1+1]) (by simp) (fun k hk=>.inr (.inl hk))).setCell (p:=⟨w.heap.size+1,1,none⟩) (.inl (by simp)) _).setCell (p:=⟨w.heap.size+1,2,none⟩) (.inl (by simp)) _).trans (hs6.more (S1:=[w.heap.size,w.heap.size+1,w.heap.size+1+1]) (T1:=[w.heap.size,w.heap.size+1,w.heap.size+1+1]) (by simp) (fun k hk=>.inr (.inl hk)))).drew
   obtain ⟨hI6,hs66⟩:=gotV_end (((((Step.refl S w).alloc _).alloc _).alloc _).trans HS.out) HI.out (fun b hb=>by
    simp only [List.mem_cons,List.not_mem_nil,or_false] at hb
    exact ⟨by omega,HN.out b (by omega) (by omega)⟩) hs16
   have hkb1:=HKB.out.1
   simp at hkb1
   have hB6:=HB.out.step hs16 (by simp only [List.mem_cons,List.not_mem_nil,or_false];omega)
   refine ⟨_,[.int .i64 t,.int .i64 g.n,.slice vo (ints g.s).length vc,.int .i64 0,.int .i64 0,.slice none 0 0,.slice none 0 0],S1,rfl,⟨_,HasV.plain t g.n g.s _ kb hB6,fun b hb=>⟨by omega,by rw [hb.1];exact HKB.out.2⟩⟩,.inl (HE.out.step_at hs16 (fun b hb=>by
    simp only [List.mem_cons,List.not_mem_nil,or_false] at hb
    rcases hb with rfl | rfl | rfl
    · exact ⟨_,_,_,HBR.out,by decide⟩
    · exact ⟨_,_,_,HBV.out,by decide⟩
    · exact ⟨_,_,_,HBG.out,by decide⟩)),hI6,hs66⟩))

end Go.Proofs.YtmjcnomgpikncaaGreatDoor

namespace Go.Proofs.YtmjcnomgpikncaaGreatDoor

open Go.RowKit Go.Deep



open Go.Proofs.YtmjcnomgpikncaaGreatDoorW.PrintWords

set_option maxRecDepth 100000 in
set_option maxHeartbeats 2000000 in
theorem getMap_any (P:PR) (gv:Int→P.σ→Option (Val × Nat × P.σ)) (D:Int) (hD:1≤D∧D < 9223372036854775808) (hG:Gets P gv (D - 1)) {S:List Nat} {s:P.σ} {w:World} (h:P.Is S s w) {r:Val × Nat × P.σ} (hr0:getMap P.run gv s=some r) :
 Calls Tryz.prog 75 #[.iface P.ty P.ptr,.int .i64 D] w (GotV P r S w):=by
 unfold getMap at hr0
 rw [Option.bind_eq_some_iff] at hr0
 obtain ⟨⟨g,k,s1⟩,hr,hr0⟩:=hr0
 dsimp only at hr0
 by_cases hk:k=0
 case neg =>
  rw [if_neg hk] at hr0
  injection hr0 with hr0
  subst hr0
  exact getMap_bad P D h hk hr
 subst hk
 rw [if_pos rfl] at hr0
 have hfit:=P.fits hr
 have hgt:=hfit.1 (by decide)
 have hgk:=hfit.2.2.1
 have hgs:=hfit.2.2.2.2.1 rfl
 have HR:=Lib.hid hr0
 have HG:=Lib.hid hG
 clear hr0 hG
 obtain ⟨hm,hn,hen⟩:=P.m_mapB
 obtain ⟨hm2,hn2,hen2⟩:=P.m_mapE
 have hc:=ctx_any
 have hO:∀ W,Step [] [] w W→Calls Tryz.prog (P.fn "ReadMapBegin") #[P.ptr,ctxV] W (TellsV P.Is (fun ev=>.tuple #[.int .u8 g.k,.int .u8 g.t,.int .i64 g.size,ev]) 0 s1 S W):=fun W hW=>P.at_ h hr W hW
 have HO:=Lib.hid hO
 have HF:=Lib.hid (P.lt h)
 obtain ⟨W0,hW0⟩:∃ W0,W0=(w.alloc (.cells #[.int .i64 0,.int .i64 0,.slice none 0 0,.int .i64 0,.int .i64 0,.slice none 0 0,.slice none 0 0] 28)).alloc (.cells #[.int .i64 13,.int .i64 0,.slice none 0 0,.int .i64 0,.int .i64 0,.slice none 0 0,.slice none 0 0] 28):=⟨_,rfl⟩
 have hS0:Step [] [] w W0:=by rw [hW0];exact ((Step.refl [] w).alloc _).alloc _
 have HBR0:=Lib.hid (show W0.heap[w.heap.size]?=some (.cells #[.int .i64 0,.int .i64 0,.slice none 0 0,.int .i64 0,.int .i64 0,.slice none 0 0,.slice none 0 0] 28 (0,0)) by rw [hW0];exact heap_alloc_old (heap_alloc_new w _) _)
 have HBV0:=Lib.hid (show W0.heap[w.heap.size+1]?=some (.cells #[.int .i64 13,.int .i64 0,.slice none 0 0,.int .i64 0,.int .i64 0,.slice none 0 0,.slice none 0 0] 28 (0,0)) by rw [hW0];exact heap_alloc_at (by simp) _)
 have HS0:=Lib.hid hS0
 clear hO hr h hS0
 go_enter Tryz.func75,Tryz.ntmps75
 go_wp2_with (fail)
 go_upto_region 2 with (fail)
 rw [← hW0]
 clear hW0
 go_cut [7,8,9,10] (fun u7 u8 u9 u10 wx=>u7=.int .u8 g.k∧u8=.int .u8 g.t∧u9=.int .i64 g.size∧u10=.nilIface∧∃ S1,P.Is S1 s1 wx∧Step S S1 W0 wx)
 case first =>
  go_region_held3 (fun _=>True) (trivial)
   (first
    | (go_at_call 53;refine (hc _).mono ?_;rintro e w' ⟨rfl,rfl⟩)
    | (refine (HO.out _ ?_).mono ?_;exact HS0.out.drew;rintro e W1 ⟨ev,S1,rfl,he,hI,hs⟩;replace hs:=(Step.refl S W0).drew.trans hs;obtain rfl:=he.zero))
  all_goals (go_wp2_with (fail);go_meet;exact ⟨rfl,rfl,rfl,rfl,_,hI,hs⟩)
 case rest =>
 obtain ⟨rfl,rfl,rfl,rfl,S1,hI,hs⟩:=hcut
 have hbr:=(hs.block w.heap.size (lt_heap HBR0.out) (fun hm=>by have:=HF.out _ hm;omega)).trans HBR0.out
 have hbv:=(hs.block (w.heap.size+1) (lt_heap HBV0.out) (fun hm=>by have:=HF.out _ hm;omega)).trans HBV0.out
 obtain ⟨c0,c1,c2,c3,c4,c5,c6⟩:=cells7 hbv
 obtain ⟨d0,d1,d2,d3,d4,d5,d6⟩:=cells7 hbr
 have hfr:=frozen_heap hbr
 have hfz:=frozen_heap hbv
 have hlr:=lt_heap hbr
 have hlv:=lt_heap hbv
 have HBR:=Lib.hid hbr
 have HBV:=Lib.hid hbv
 have HI:=Lib.hid hI
 have HSW:=Lib.hid ((HS0.out.more (S1:=S) (T1:=S) (by simp) (fun k hk=>.inr (.inl hk))).trans hs)
 have HOB:=Lib.hid (show ∀ b,b∈[w.heap.size,w.heap.size+1]→w.heap.size≤b∧b∉S1 from fun b hb=>by
  simp only [List.mem_cons,List.not_mem_nil,or_false] at hb
  have hl0:=lt_heap HBV0.out
  refine ⟨by omega,fun hm=>?_⟩
  rcases hs.own b hm with h1 | h1
  · have:=HF.out _ h1;omega
  · omega)
 clear hbr hbv hI hs
 by_cases hbig:100000 < g.size
 case pos =>
  go_wp2_with (fail)
  obtain ⟨W3,e2,h3,hs3⟩:=set7 (heap_set_other (p:=⟨w.heap.size+1,4,none⟩) (heap_set_other (p:=⟨w.heap.size+1,3,none⟩) HBR.out (by show w.heap.size≠w.heap.size+1;omega) (.int .i64 g.k)) (by show w.heap.size≠w.heap.size+1;omega) (.int .i64 g.t)) (.int .i64 13) (.int .i64 0) (.slice none 0 0) (.int .i64 g.k) (.int .i64 g.t) (.slice none 0 0) (.slice none 0 0)
  rw [e2]
  obtain ⟨r0,r1,r2,r3,r4,r5,r6⟩:=cells7 h3
  refine bodyPost_ret (v:=.tuple #[.agg #[.int .i64 13,.int .i64 0,.slice none 0 0,.int .i64 g.k,.int .i64 g.t,.slice none 0 0,.slice none 0 0],.iface 157 (.int .i64 52)]) (by simp [results,Tryz.results75,go_sem, *]) rfl ?_
  have hs13:Step [w.heap.size,w.heap.size+1] [w.heap.size,w.heap.size+1] wc W3:=(((Step.refl [w.heap.size,w.heap.size+1] wc).setCell (p:=⟨w.heap.size+1,3,none⟩) (.inl (by simp)) _).setCell (p:=⟨w.heap.size+1,4,none⟩) (.inl (by simp)) _).trans (hs3.more (S1:=[w.heap.size,w.heap.size+1]) (T1:=[w.heap.size,w.heap.size+1]) (by simp) (fun k hk=>.inr (.inl hk)))
  obtain ⟨hI4,hs4⟩:=gotV_end HSW.out HI.out HOB.out hs13
  have hrr:=HR.out
  rw [if_pos hbig] at hrr
  injection hrr with hrr
  subst hrr
  exact ⟨_,[.int .i64 13,.int .i64 0,.slice none 0 0,.int .i64 g.k,.int .i64 g.t,.slice none 0 0,.slice none 0 0],_,rfl,(RowO.nil _ _ 0).val 13 g.k g.t,.inr ⟨Nat.le_of_ble_eq_true rfl,Nat.le_of_ble_eq_true rfl,rfl⟩,hI4,hs4⟩
 case neg =>
  have HR:=Lib.hid ((if_neg hbig).symm.trans HR.out)
  obtain ⟨N,hN⟩:∃ N:Nat,g.size=N:=⟨g.size.toNat,by omega⟩
  have hN2:N≤100000:=by omega
  have hR0:=HR.out
  rw [hN,Int.toNat_natCast,Option.bind_eq_some_iff] at hR0
  obtain ⟨R,hR1,hR2⟩:=hR0
  have HR1:=Lib.hid hR1
  have HR2:=Lib.hid hR2
  clear hR1 hR2 HR
  go_wp2_with (fail)
  obtain ⟨WL,hWL⟩:∃ WL,WL=(wc.setCell ⟨w.heap.size+1,3,none⟩ (.int .i64 g.k)).setCell ⟨w.heap.size+1,4,none⟩ (.int .i64 g.t):=⟨_,rfl⟩
  have hv5:WL.heap[w.heap.size+1]?=some (.cells #[.int .i64 13,.int .i64 0,.slice none 0 0,.int .i64 g.k,.int .i64 g.t,.slice none 0 0,.slice none 0 0] 28 (0,0)):=by rw [hWL];exact (heap_set_same (o:=4) ((heap_set_same (o:=3) HBV.out _).trans rfl) _).trans rfl
  have hr5:WL.heap[w.heap.size]?=some (.cells #[.int .i64 0,.int .i64 0,.slice none 0 0,.int .i64 0,.int .i64 0,.slice none 0 0,.slice none 0 0] 28 (0,0)):=by rw [hWL];exact heap_set_other (p:=⟨w.heap.size+1,4,none⟩) (heap_set_other (p:=⟨w.heap.size+1,3,none⟩) HBR.out (by show w.heap.size≠w.heap.size+1;omega) _) (by show w.heap.size≠w.heap.size+1;omega) _
  have hst5:Step [w.heap.size,w.heap.size+1] [w.heap.size,w.heap.size+1] wc WL:=by rw [hWL];exact ((Step.refl _ wc).setCell (p:=⟨w.heap.size+1,3,none⟩) (.inl (by simp)) _).setCell (p:=⟨w.heap.size+1,4,none⟩) (.inl (by simp)) _
  obtain ⟨hI5,hs5⟩:=gotV_end HSW.out HI.out HOB.out hst5
  have HI5:=Lib.hid hI5
  have HS5:=Lib.hid hs5
  have HV5:=Lib.hid hv5
  have HRB5:=Lib.hid hr5
  have HNS:=Lib.hid (show w.heap.size∉S1∧w.heap.size+1∉S1 from ⟨(HOB.out _ (by simp)).2,(HOB.out _ (by simp)).2⟩)
  rw [← hWL]
  clear hWL hv5 hr5 hst5 hI5 hs5 c0 c1 c2 c3 c4 c5 c6 d0 d1 d2 d3 d4 d5 d6 hfz hfr
  go_loopw [42] (fun i wr=>∃ (j:Nat) (S2:List Nat) (s2:P.σ) (xs:List Val) (u:Value),i=.int .i64 (j:Nat)∧j≤N∧Hid (xs.length=2 * j)∧Hid (getL gv (pairs g.k g.t (N - j)) xs s2=some R)∧Hid (P.Is S2 s2 wr)∧Hid (Step S S2 w wr)∧Hid (RowO (fun b=>w.heap.size+1 < b∧b∉S2) wr w.heap.size u xs)∧Hid (wr.heap[w.heap.size+1]?=some (.cells #[.int .i64 13,.int .i64 0,.slice none 0 0,.int .i64 g.k,.int .i64 g.t,.slice none 0 0,u] 28 (0,0)))∧Hid (wr.heap[w.heap.size]?=some (.cells #[.int .i64 0,.int .i64 0,.slice none 0 0,.int .i64 0,.int .i64 0,.slice none 0 0,.slice none 0 0] 28 (0,0)))∧Hid (w.heap.size∉S2∧w.heap.size+1∉S2)) (fun i _=>N - (intOf i).toNat)
  case atStart=>exact ⟨0,S1,s1,[],.slice none 0 0,rfl,by omega,Lib.hid rfl,HR1,HI5,HS5,Lib.hid (RowO.nil _ _ _),HV5,HRB5,HNS⟩
  case round =>
   obtain ⟨j,S2,s2,xs,u,rfl,hj,HXL,hrun,HI2,HS2,HRO,HVB,HRB,HNS2⟩:=hrel
   by_cases hlt:j < N
   case pos =>
    have hlvr:=lt_heap HVB.out
    have hlrr:=lt_heap HRB.out
    go_wp2_with (fail)
    obtain ⟨A0,hA0⟩:∃ A0,A0=wr.heap.size:=⟨_,rfl⟩
    obtain ⟨WA,hWA⟩:∃ WA,WA=wr.alloc (.cells #[.int .u8 g.k,.int .u8 g.t] 96):=⟨_,rfl⟩
    have HAB:=Lib.hid (show WA.heap[A0]?=some (.cells #[.int .u8 g.k,.int .u8 g.t] 96 (0,0)) by rw [hWA,hA0];exact heap_alloc_new wr _)
    have HVA:=Lib.hid (show WA.heap[w.heap.size+1]?=some (.cells #[.int .i64 13,.int .i64 0,.slice none 0 0,.int .i64 g.k,.int .i64 g.t,.slice none 0 0,u] 28 (0,0)) by rw [hWA];exact heap_alloc_old HVB.out _)
    have HRA:=Lib.hid (show WA.heap[w.heap.size]?=some (.cells #[.int .i64 0,.int .i64 0,.slice none 0 0,.int .i64 0,.int .i64 0,.slice none 0 0,.slice none 0 0] 28 (0,0)) by rw [hWA];exact heap_alloc_old HRB.out _)
    have HSA:=Lib.hid (show Step S S2 w WA by rw [hWA];exact HS2.out.alloc _)
    have HIA:=Lib.hid (show P.Is S2 s2 WA by rw [hWA];exact P.step HI2.out ((Step.refl [] wr).alloc _) (by simp))
    have HNA:=Lib.hid (show w.heap.size∉S2∧w.heap.size+1∉S2∧A0∉S2 from ⟨HNS2.out.1,HNS2.out.2,fun hm=>by have:=P.lt HI2.out _ hm;omega⟩)
    have HROA:=Lib.hid (show RowO (fun b=>w.heap.size+1 < b∧b∉S2∧b≠A0) WA w.heap.size u xs by
     rw [hWA]
     exact (HRO.out.mono (ok':=fun b=>w.heap.size+1 < b∧b∉S2∧b≠A0) (fun b hb hl=>⟨hb.1,hb.2,by omega⟩)).move (fun b hb hl=>Below.heap_alloc _ _ _ hl) (by simp))
    have HQA:=Lib.hid (show getL gv ((if (0:Nat)=0 then [g.k,g.t] else if (0:Nat)=1 then [g.t] else [])++pairs g.k g.t (N - (j+1))) xs s2=some R by
     have h':=hrun.out
     rw [show N - j=(N - (j+1))+1 by omega,pairs] at h'
     simpa using h')
    have hAlt:w.heap.size+1 < A0:=by omega
    rw [← hWA,← hA0]
    clear hWA hA0 HVB HRB HS2 HI2 HNS2 HRO hrun hlvr hlrr
    go_loopw [48] (fun i wq=>∃ (jj:Nat) (S2:List Nat) (s2:P.σ) (xs:List Val) (u:Value),i=.int .i64 (jj:Nat)∧jj≤2∧Hid (xs.length=2 * j+jj)∧Hid (getL gv ((if jj=0 then [g.k,g.t] else if jj=1 then [g.t] else [])++pairs g.k g.t (N - (j+1))) xs s2=some R)∧Hid (P.Is S2 s2 wq)∧Hid (Step S S2 w wq)∧Hid (RowO (fun b=>w.heap.size+1 < b∧b∉S2∧b≠A0) wq w.heap.size u xs)∧Hid (wq.heap[w.heap.size+1]?=some (.cells #[.int .i64 13,.int .i64 0,.slice none 0 0,.int .i64 g.k,.int .i64 g.t,.slice none 0 0,u] 28 (0,0)))∧Hid (wq.heap[w.heap.size]?=some (.cells #[.int .i64 0,.int .i64 0,.slice none 0 0,.int .i64 0,.int .i64 0,.slice none 0 0,.slice none 0 0] 28 (0,0)))∧Hid (wq.heap[A0]?=some (.cells #[.int .u8 g.k,.int .u8 g.t] 96 (0,0)))∧Hid (w.heap.size∉S2∧w.heap.size+1∉S2∧A0∉S2)) (fun i _=>2 - (intOf i).toNat)
    case atStart=>exact ⟨0,S2,s2,xs,u,rfl,by omega,Lib.hid (by have:=HXL.out;omega),HQA,HIA,HSA,HROA,HVA,HRA,HAB,HNA⟩
    case round =>
     clear HXL HVA HRA HSA HIA HNA HROA HQA HAB
     obtain ⟨jj,S2,s2,xs,u,rfl,hjj,HXL,hrun,HI2,HS2,HRO,HVB,HRB,HAB,HNS2⟩:=hrel
     by_cases hlt2:jj < 2
     case pos =>
      have hq0:∃ (tt:Int) (rest:List Int),0≤tt∧tt < 256∧((if jj=0 then [g.k,g.t] else if jj=1 then [g.t] else [])++pairs g.k g.t (N - (j+1)))=tt :: rest∧rest=((if jj+1=0 then [g.k,g.t] else if jj+1=1 then [g.t] else [])++pairs g.k g.t (N - (j+1)))∧wr.cell? ⟨A0,jj,none⟩=some (.int .u8 tt):=by
       match jj,hlt2 with
       | 0,_=>exact ⟨g.k,_,hgk.1,hgk.2,rfl,rfl,(cell_heap HAB.out _).trans rfl⟩
       | 1,_=>exact ⟨g.t,_,hgt.1,hgt.2,rfl,rfl,(cell_heap HAB.out _).trans rfl⟩
      obtain ⟨tt,rest,ht1,ht2,hl1,hl2,hcell⟩:=hq0
      have hq:=hrun.out
      rw [hl1,getL,Option.bind_eq_some_iff,hl2] at hq
      obtain ⟨q,hq1,hq2⟩:=hq
      have HQ2:=Lib.hid hq2
      have HGC:=Lib.hid (fun W (hW:Step [] [] wr W)=>HG.out S2 s2 W tt (P.step HI2.out hW (by simp)) ht1 ht2 q hq1)
      obtain ⟨ui,uc,rfl⟩:∃ ui uc,u=.slice ui xs.length uc:=by
       obtain ⟨A,c,h1,_⟩:=HRO.out.reads
       exact ⟨A,c,h1⟩
      clear hq1 hq2 hl1 hl2 hrun
      have hlv2:=lt_heap HVB.out
      have hlr2:=lt_heap HRB.out
      have hla2:=lt_heap HAB.out
      go_wp2_with (fail)
      refine (HGC.out wr (Step.refl [] wr)).mono ?_
      rintro e W3 ⟨ev3,cs3,S3,rfl,hO3,hE3,hI3,hs3⟩
      obtain ⟨A2,a2,A5,a5,A6,a6,hcs3,-⟩:=kVal_open hO3.now
      have hv3:=(hs3.block _ hlv2 HNS2.out.2.1).trans HVB.out
      have hr3:=(hs3.block _ hlr2 HNS2.out.1).trans HRB.out
      have hg3:=(hs3.block _ hla2 HNS2.out.2.2).trans HAB.out
      subst hcs3
      clear hcell
      obtain ⟨c0,c1,c2,c3,c4,c5,c6⟩:=cells7 hv3
      have hfz:=frozen_heap hv3
      have hxl:=HXL.out
      have HV3:=Lib.hid hv3
      have HR3:=Lib.hid hr3
      have HG3:=Lib.hid hg3
      have HO3:=Lib.hid hO3
      have HE3:=Lib.hid hE3
      have HI3:=Lib.hid hI3
      have HS3:=Lib.hid hs3
      have hlv3:=lt_heap hv3
      have hsz3:=hs3.size
      have hxb:xs.length < 1000000:=by omega
      obtain ⟨hrow,hub,hot⟩:=RowO.carry (P:=P) (s3:=q.2.2) HRO.out hs3 (.cells #[.int .i64 q.1.f0,.int .i64 q.1.f1,.slice A2 q.1.f2.length a2,.int .i64 q.1.f3,.int .i64 q.1.f4,.slice A5 q.1.f5.length a5,.slice A6 q.1.f6.length a6] 28) (.cells #[.int .i64 q.1.f0,.int .i64 q.1.f1,.slice A2 q.1.f2.length a2,.int .i64 q.1.f3,.int .i64 q.1.f4,.slice A5 q.1.f5.length a5,.slice A6 q.1.f6.length a6] 28)
      have hxa:=HasO.apart (n:=w.heap.size+1) (GB:=A0) (u:=.slice ui xs.length uc) hO3 hlv2 hla2 hub (.cells #[.int .i64 q.1.f0,.int .i64 q.1.f1,.slice A2 q.1.f2.length a2,.int .i64 q.1.f3,.int .i64 q.1.f4,.slice A5 q.1.f5.length a5,.slice A6 q.1.f6.length a6] 28) (.cells #[.int .i64 q.1.f0,.int .i64 q.1.f1,.slice A2 q.1.f2.length a2,.int .i64 q.1.f3,.int .i64 q.1.f4,.slice A5 q.1.f5.length a5,.slice A6 q.1.f6.length a6] 28)
      obtain ⟨hrok,inner,hrown,hreps⟩:=hrow
      have HROK:=Lib.hid hrok
      have HOT:=Lib.hid hot
      have HROWN:=Lib.hid hrown
      have HREPS:=Lib.hid hreps
      have HXA:=Lib.hid hxa
      obtain ⟨i0,hi,hz0,hz1,hz2⟩:=info_parts infoVal
      rcases hE3 with (⟨h0,rfl⟩ | ⟨bb,t9,er,ms,hk1,hk2,rfl,hbb⟩) | ⟨hk1,hk2,rfl⟩
      all_goals clear hv3 hr3 hg3 hO3 hI3 hs3 hrok hrown hreps hxa hub hot hxl
      all_goals (go_wp2_with (at_builtin;(refine wpList_append_lies _ rfl _ _ _ rfl w.heap.size 28 i0 (.agg #[.int .i64 0,.int .i64 0,.slice none 0 0,.int .i64 0,.int .i64 0,.slice none 0 0,.slice none 0 0]) 7 104 Tryz.underlying26 hi hz0 hz1 hz2 rfl (by omega) _ _ _ rfl HROWN.out ⟨W3.heap.size+1,0,none⟩ 1 1 _ rfl ?_ (World.news_of_block (heap_alloc_at (by simp) _)) ?_ (by omega) ?_ ?_ ?_ _ rfl ?_);rfl;(intro x hx;simp at hx;rcases hx with rfl | rfl | rfl | rfl | rfl | rfl | rfl <;> rfl);(unfold maxLen;omega);omega;(simp <;> omega);intro g1 cap1 W4 hown hgrow hat hlt4;have hv4:=(hgrow.block (w.heap.size+1) (by simp <;> omega) (fun e=>by have:=(HROK.out _ e.symm).1;omega)).trans (heap_alloc_old (heap_alloc_old HV3.out _) _);have hr4:=(hgrow.block w.heap.size (by simp <;> omega) (fun e=>by have:=(HROK.out _ e.symm).1;omega)).trans (heap_alloc_old (heap_alloc_old HR3.out _) _);have hg4:=(hgrow.block A0 (by simp <;> omega) (fun e=>(HROK.out _ e.symm).2.2 rfl)).trans (heap_alloc_old (heap_alloc_old HG3.out _) _);obtain ⟨f0,f1,f2,f3,f4,f5,f6⟩:=cells7 hv4;obtain ⟨e0,e1,e2,e3,e4,e5,e6⟩:=cells7 hr4;have hfz4:=frozen_heap hv4;have hfr4:=frozen_heap hr4;have hpu:=RowO.push HROK.out HREPS.out HXA.out ⟨by simp <;> omega,fun hm=>by (have:=P.lt HI3.out _ hm;simp at this;omega),by simp <;> omega⟩ hown hgrow hat;have hg4s:=hgrow.size;have HPU:=Lib.hid hpu;have HV4:=Lib.hid hv4;have HR4:=Lib.hid hr4;have HG4:=Lib.hid hg4;have HGR:=Lib.hid hgrow;clear hv4 hr4 hg4 hpu hown hgrow hat))
      all_goals go_wp2
      all_goals (
       have HS35:=Lib.hid (app_step HGR.out (w.heap.size+1) 6 (.slice (some ⟨g1,0,none⟩) (xs.length+1) cap1))
       have hnS3:w.heap.size∉S3∧w.heap.size+1∉S3∧A0∉S3:=by
        refine ⟨fun hm=>?_,fun hm=>?_,fun hm=>?_⟩
        · rcases HS3.out.own _ hm with h' | h'
          · exact HNS2.out.1 h'
          · omega
        · rcases HS3.out.own _ hm with h' | h'
          · exact HNS2.out.2.1 h'
          · omega
        · rcases HS3.out.own _ hm with h' | h'
          · exact HNS2.out.2.2 h'
          · omega
       have hOB:∀ b,b∈(w.heap.size+1) :: (Value.slice ui xs.length uc).ownBlock.toList→w.heap.size≤b∧b∉S3:=fun b hb=>by
        simp only [List.mem_cons,Option.mem_toList] at hb
        rcases hb with rfl | hb
        · exact ⟨by omega,hnS3.2.1⟩
        · have h':=HROK.out b hb
          exact ⟨by omega,h'.2.1⟩
       have hv5:(W4.setCell ⟨w.heap.size+1,6,none⟩ (.slice (some ⟨g1,0,none⟩) (xs.length+1) cap1)).heap[w.heap.size+1]?=some (.cells #[.int .i64 13,.int .i64 0,.slice none 0 0,.int .i64 g.k,.int .i64 g.t,.slice none 0 0,.slice (some ⟨g1,0,none⟩) (xs.length+1) cap1] 28 (0,0)):=(heap_set_same (o:=6) HV4.out _).trans rfl
       have hr5:(W4.setCell ⟨w.heap.size+1,6,none⟩ (.slice (some ⟨g1,0,none⟩) (xs.length+1) cap1)).heap[w.heap.size]?=some (.cells #[.int .i64 0,.int .i64 0,.slice none 0 0,.int .i64 0,.int .i64 0,.slice none 0 0,.slice none 0 0] 28 (0,0)):=heap_set_other (p:=⟨w.heap.size+1,6,none⟩) HR4.out (by show w.heap.size≠w.heap.size+1;omega) _)
      · have hg5:=heap_set_other (p:=⟨w.heap.size+1,6,none⟩) HG4.out (by show A0≠w.heap.size+1;omega) (.slice (some ⟨g1,0,none⟩) (xs.length+1) cap1)
        obtain ⟨hI5,hs5⟩:=gotV_end (HS2.out.trans HS3.out) HI3.out hOB HS35.out
        have hnx:=HQ2.out
        rw [if_pos h0] at hnx
        have hrow5:=HPU.out.move (w1:=W4.setCell ⟨w.heap.size+1,6,none⟩ (.slice (some ⟨g1,0,none⟩) (xs.length+1) cap1)) (fun b hb _=>Below.heap_setCell _ _ _ _ (by show b≠w.heap.size+1;omega)) (by simp [World.setCell])
        exact ⟨⟨jj+1,S3,q.2.2,xs++[q.1],_,by go_num,by omega,Lib.hid (by have:=HXL.out;simp;omega),Lib.hid hnx,Lib.hid hI5,Lib.hid hs5,Lib.hid hrow5,Lib.hid hv5,Lib.hid hr5,Lib.hid hg5,Lib.hid hnS3⟩,by simp [intOf];omega⟩
      all_goals (
       obtain ⟨W6,e2,h6,hs6⟩:=set7 hr5 (.int .i64 13) (.int .i64 0) (.slice none 0 0) (.int .i64 g.k) (.int .i64 g.t) (.slice none 0 0) (.slice (some ⟨g1,0,none⟩) (xs.length+1) cap1)
       rw [e2]
       obtain ⟨r0,r1,r2,r3,r4,r5,r6⟩:=cells7 h6
       refine bodyPost_ret (v:=.tuple #[.agg #[.int .i64 13,.int .i64 0,.slice none 0 0,.int .i64 g.k,.int .i64 g.t,.slice none 0 0,.slice (some ⟨g1,0,none⟩) (xs.length+1) cap1],_]) (by simp [results,Tryz.results75,go_sem, *];rfl) rfl ?_
       have hne:q.2.1≠0:=by omega
       have hha:=HQ2.out
       rw [if_neg hne] at hha
       injection hha with hha
       subst hha
       have hrr:=HR2.out
       rw [if_neg hne] at hrr
       injection hrr with hrr
       subst hrr
       have hs36:Step (w.heap.size :: (w.heap.size+1) :: (Value.slice ui xs.length uc).ownBlock.toList) (w.heap.size :: (w.heap.size+1) :: (Value.slice ui xs.length uc).ownBlock.toList) W3 W6:=(HS35.out.more (S1:=(w.heap.size :: (w.heap.size+1) :: (Value.slice ui xs.length uc).ownBlock.toList)) (T1:=(w.heap.size :: (w.heap.size+1) :: (Value.slice ui xs.length uc).ownBlock.toList)) (fun k hk=>List.mem_cons_of_mem _ hk) (fun k hk=>.inr (.inl hk))).trans (hs6.more (S1:=(w.heap.size :: (w.heap.size+1) :: (Value.slice ui xs.length uc).ownBlock.toList)) (T1:=(w.heap.size :: (w.heap.size+1) :: (Value.slice ui xs.length uc).ownBlock.toList)) (fun k hk=>by simp only [List.mem_cons,List.not_mem_nil,or_false] at hk;subst hk;exact List.mem_cons_self) (fun k hk=>.inr (.inl hk)))
       obtain ⟨hI6,hs66⟩:=gotV_end (HS2.out.trans HS3.out) HI3.out (fun b hb=>by
        rcases List.mem_cons.1 hb with rfl | hb
        · exact ⟨by omega,hnS3.1⟩
        · exact hOB b hb) hs36
       have hrow6:=HPU.out.move (w1:=W6) (fun b hb hlt=>(hs6.block b (by simpa [World.setCell] using hlt) (by simp only [List.mem_cons,List.not_mem_nil,or_false];omega)).trans (Below.heap_setCell _ _ _ _ (by show b≠w.heap.size+1;omega))) (by have:=hs6.size;simpa [World.setCell] using this)
       exact ⟨_,[.int .i64 13,.int .i64 0,.slice none 0 0,.int .i64 g.k,.int .i64 g.t,.slice none 0 0,.slice (some ⟨g1,0,none⟩) (xs.length+1) cap1],S3,rfl,(hrow6.val 13 g.k g.t).mono (fun b hb _=>⟨by omega,hb.2.1⟩),HE3.out.step_at hs36 (fun b hb=>by
        rcases List.mem_cons.1 hb with rfl | hb
        · exact ⟨_,_,_,HR3.out,by decide⟩
        rcases List.mem_cons.1 hb with rfl | hb
        · exact ⟨_,_,_,HV3.out,by decide⟩
        obtain ⟨cells,hcc⟩:=HOT.out b (Option.mem_toList.1 hb)
        exact ⟨_,_,_,hcc,by decide⟩),hI6,hs66⟩)
     case neg =>
      have hj2:jj=2:=by omega
      subst hj2
      go_wp2
      exact ⟨⟨j+1,S2,s2,xs,u,by go_num,by omega,Lib.hid (by have:=HXL.out;omega),Lib.hid (by simpa using hrun.out),HI2,HS2,Lib.hid (HRO.out.mono (fun b hb _=>⟨hb.1,hb.2.1⟩)),HVB,HRB,Lib.hid ⟨HNS2.out.1,HNS2.out.2.1⟩⟩,by simp [intOf];omega⟩
   case neg =>
    have hjN:j=N:=by omega
    subst hjN
    obtain ⟨ui,uc,rfl⟩:∃ ui uc,u=.slice ui xs.length uc:=by
     obtain ⟨A,c,h1,_⟩:=HRO.out.reads
     exact ⟨A,c,h1⟩
    have hq:=hrun.out
    rw [Nat.sub_self,pairs,getL] at hq
    injection hq with hq
    subst hq
    have hrr:=HR2.out
    rw [if_pos rfl,Option.map_eq_some_iff] at hrr
    obtain ⟨b,hb1,hrr⟩:=hrr
    subst hrr
    have HO9:=Lib.hid (show ∀ W,Step [] [] wr W→Calls Tryz.prog (P.fn "ReadMapEnd") #[P.ptr,ctxV] W (TellsV P.Is (fun ev=>ev) b.2.1 b.2.2 S2 W) from fun W hW=>P.at_ HI2.out hb1 W hW)
    have HBX:=Lib.hid (show ∀ S5 W,Step S2 S5 wr W→W.heap[w.heap.size+1]?=some (.cells #[.int .i64 13,.int .i64 0,.slice none 0 0,.int .i64 g.k,.int .i64 g.t,.slice none 0 0,.slice ui xs.length uc] 28 (0,0)) from fun S5 W hW=>(hW.block _ (lt_heap HVB.out) HNS2.out.2).trans HVB.out)
    have HCX:=Lib.hid (show ∀ S5 W,Step S2 S5 wr W→W.cell? ⟨w.heap.size+1,0,none⟩=some (.int .i64 13)∧W.cell? ⟨w.heap.size+1,1,none⟩=some (.int .i64 0)∧W.cell? ⟨w.heap.size+1,2,none⟩=some (.slice none 0 0)∧W.cell? ⟨w.heap.size+1,3,none⟩=some (.int .i64 g.k)∧W.cell? ⟨w.heap.size+1,4,none⟩=some (.int .i64 g.t)∧W.cell? ⟨w.heap.size+1,5,none⟩=some (.slice none 0 0)∧W.cell? ⟨w.heap.size+1,6,none⟩=some (.slice ui xs.length uc) from fun S5 W hW=>cells7 (HBX.out S5 W hW))
    have hlv2:=lt_heap HVB.out
    have hlr2:=lt_heap HRB.out
    have hfz:=frozen_heap HVB.out
    clear hrun hb1
    have HRB:=Lib.hid HRB.out
    have HVB:=Lib.hid HVB.out
    have HC0:=Lib.hid (HCX.out _ _ (Step.refl S2 wr))
    have HC1:=Lib.hid (HCX.out _ _ (Step.refl S2 wr).drew)
    go_wp2_with (fail)
    go_region_held3 (fun W=>W.cell? ⟨w.heap.size+1,0,none⟩=some (.int .i64 13)∧W.cell? ⟨w.heap.size+1,1,none⟩=some (.int .i64 0)∧W.cell? ⟨w.heap.size+1,2,none⟩=some (.slice none 0 0)∧W.cell? ⟨w.heap.size+1,3,none⟩=some (.int .i64 g.k)∧W.cell? ⟨w.heap.size+1,4,none⟩=some (.int .i64 g.t)∧W.cell? ⟨w.heap.size+1,5,none⟩=some (.slice none 0 0)∧W.cell? ⟨w.heap.size+1,6,none⟩=some (.slice ui xs.length uc)) (first | with_reducible exact HC0.out | with_reducible exact HC1.out | with_reducible exact HC3.out | (simp [go_sem, *];done) | fail)
     (first
      | (go_at_call 53;refine (hc _).mono ?_;rintro e w' ⟨rfl,rfl⟩)
      | ((with_reducible refine (HO9.out _ ?_).mono ?_);(with_reducible exact (Step.refl _ _).drew);rintro e W3 ⟨ev3,S3,rfl,he3,hI3,hs3⟩;replace hs3:=(Step.refl S2 wr).drew.trans hs3;have HC3:=Lib.hid (HCX.out _ _ hs3);have hr3:=(hs3.block _ hlr2 HNS2.out.1).trans HRB.out;obtain ⟨d0,d1,d2,d3,d4,d5,d6⟩:=cells7 hr3;have hfr3:=frozen_heap hr3;have hlr3:=lt_heap hr3;have HR3:=Lib.hid hr3;clear hr3))
    all_goals (
     go_wp2
     obtain ⟨W6,e2,h6,hs6⟩:=set7 HR3.out (.int .i64 13) (.int .i64 0) (.slice none 0 0) (.int .i64 g.k) (.int .i64 g.t) (.slice none 0 0) (.slice ui xs.length uc)
     rw [e2]
     obtain ⟨r0,r1,r2,r3,r4,r5,r6⟩:=cells7 h6
     refine bodyPost_ret (v:=.tuple #[.agg #[.int .i64 13,.int .i64 0,.slice none 0 0,.int .i64 g.k,.int .i64 g.t,.slice none 0 0,.slice ui xs.length uc],ev3]) (by simp [results,Tryz.results75,go_sem, *]) rfl ?_
     have hn3:w.heap.size∉S3:=fun hm=>by
      rcases hs3.own _ hm with h' | h'
      · exact HNS2.out.1 h'
      · omega
     obtain ⟨hI6,hs66⟩:=gotV_end (HS2.out.trans hs3) hI3 (fun b hb=>by
      simp only [List.mem_cons,List.not_mem_nil,or_false] at hb
      subst hb
      exact ⟨by omega,hn3⟩) hs6
     have hrow2:RowO (fun b=>(w.heap.size+1 < b∧b∉S3)∧b∉S2) wr w.heap.size (.slice ui xs.length uc) xs:=HRO.out.mono (fun b hb hlt2=>⟨⟨hb.1,fun hm=>by
      rcases hs3.own b hm with h3 | h3
      · exact hb.2 h3
      · omega⟩,hb.2⟩)
     have hrow3:=hrow2.move (fun b hb hlt2=>hs3.block b hlt2 hb.2) hs3.size
     have hrow6:=hrow3.move (w1:=W6) (fun b hb hlt2=>hs6.block b hlt2 (by simp only [List.mem_cons,List.not_mem_nil,or_false];omega)) hs6.size
     exact ⟨_,[.int .i64 13,.int .i64 0,.slice none 0 0,.int .i64 g.k,.int .i64 g.t,.slice none 0 0,.slice ui xs.length uc],S3,rfl,(hrow6.val 13 g.k g.t).mono (fun b hb _=>⟨by omega,hb.1.2⟩),.inl (he3.step_at hs6 (fun b hb=>by
      simp only [List.mem_cons,List.not_mem_nil,or_false] at hb
      subst hb
      exact ⟨_,_,_,HR3.out,by decide⟩)),hI6,hs66⟩)

end Go.Proofs.YtmjcnomgpikncaaGreatDoor
