/- Structs, and so any values, are got by whatever protocol. No condition. -/
import Derived.Test.YtmjcnomgpikncaaGreatDoorMy
import Derived.Test.YtmjcnomgpikncaaGreatDoorMv2
import Derived.Test.YtmjcnomgpikncaaGreatDoorMv3
set_option linter.unusedVariables false
set_option linter.unusedSimpArgs false
namespace Go.Proofs.YtmjcnomgpikncaaGreatDoor

open Go.RowKit Go.Deep



open Go.Proofs.YtmjcnomgpikncaaGreatDoorW.PrintWords

structure Two (WB:World) (base:Nat) (iv lv ID:Value) (xc:List Value) (iv1:Value) (ni:Nat) (ic:List Value) (lv1:Value) (nl:Nat) (lc:List Value) (qi ql:Option Nat) (W:World):Prop where
  ri:W.ownsRow base 3 1 iv1 ni ic
  rl:W.ownsRow base 28 7 lv1 nl lc
  st:Step (iv.ownBlock.toList++lv.ownBlock.toList) (iv.ownBlock.toList++lv.ownBlock.toList) WB W
  oi:∀ k,iv1.ownBlock=some k→iv.ownBlock=some k∨WB.heap.size≤k
  ol:∀ k,lv1.ownBlock=some k→lv.ownBlock=some k∨WB.heap.size≤k
  ne:∀ k,iv1.ownBlock=some k→lv1.ownBlock≠some k
  bi:∀ q,qi=some q→W.heap[q]?=some (.cells #[ID] 3 (0,0))∧iv1.ownBlock≠some q∧lv1.ownBlock≠some q
  bl:∀ q,ql=some q→W.heap[q]?=some (.cells xc.toArray 28 (0,0))∧iv1.ownBlock≠some q∧lv1.ownBlock≠some q

section

variable {WB:World} {base:Nat} {iv lv ID:Value} {xc:List Value} {iv1:Value} {ni:Nat} {ic:List Value} {lv1:Value} {nl:Nat} {lc:List Value} {qi ql:Option Nat} {W:World}

theorem Two.start (h1:WB.ownsRow base 3 1 iv ni ic) (h2:WB.ownsRow base 28 7 lv nl lc) (h3:∀ k,iv.ownBlock=some k→lv.ownBlock≠some k):Two WB base iv lv ID xc iv ni ic lv nl lc none none WB :=
  ⟨h1,h2,Step.refl _ _,fun k hk=>.inl hk,fun k hk=>.inl hk,h3,fun q h=>by simp at h,fun q h=>by simp at h⟩

theorem Two.drew (h:Two WB base iv lv ID xc iv1 ni ic lv1 nl lc qi ql W):Two WB base iv lv ID xc iv1 ni ic lv1 nl lc qi ql W.drew:=⟨h.ri,h.rl,h.st.drew,h.oi,h.ol,h.ne,h.bi,h.bl⟩

theorem Two.drewN (h:Two WB base iv lv ID xc iv1 ni ic lv1 nl lc qi ql W) (n:Nat):Two WB base iv lv ID xc iv1 ni ic lv1 nl lc qi ql (W.drewN n):=⟨h.ri,h.rl,h.st.drewN n,h.oi,h.ol,h.ne,h.bi,h.bl⟩

theorem Two.allocI {q:Nat} (hq:q=W.heap.size) (h:Two WB base iv lv ID xc iv1 ni ic lv1 nl lc none ql W):Two WB base iv lv ID xc iv1 ni ic lv1 nl lc (some q) ql (W.alloc (.cells #[ID] 3 (0,0))):=by
  subst hq
  refine ⟨own_move h.ri (fun k hk=>Below.heap_alloc _ _ _ (own_lt h.ri k hk)),own_move h.rl (fun k hk=>Below.heap_alloc _ _ _ (own_lt h.rl k hk)),h.st.alloc _,h.oi,h.ol,h.ne,fun q hq=>?_,fun q hq=>?_⟩
  · injection hq with hq
    subst hq
    exact ⟨heap_alloc_new _ _,fun e=>Nat.lt_irrefl _ (own_lt h.ri _ e),fun e=>Nat.lt_irrefl _ (own_lt h.rl _ e)⟩
  · exact ⟨heap_alloc_old (h.bl q hq).1 _,(h.bl q hq).2⟩

theorem Two.allocL {q:Nat} (hq:q=W.heap.size) (h:Two WB base iv lv ID xc iv1 ni ic lv1 nl lc qi none W):Two WB base iv lv ID xc iv1 ni ic lv1 nl lc qi (some q) (W.alloc (.cells xc.toArray 28 (0,0))):=by
  subst hq
  refine ⟨own_move h.ri (fun k hk=>Below.heap_alloc _ _ _ (own_lt h.ri k hk)),own_move h.rl (fun k hk=>Below.heap_alloc _ _ _ (own_lt h.rl k hk)),h.st.alloc _,h.oi,h.ol,h.ne,fun q hq=>?_,fun q hq=>?_⟩
  · exact ⟨heap_alloc_old (h.bi q hq).1 _,(h.bi q hq).2⟩
  · injection hq with hq
    subst hq
    exact ⟨heap_alloc_new _ _,fun e=>Nat.lt_irrefl _ (own_lt h.ri _ e),fun e=>Nat.lt_irrefl _ (own_lt h.rl _ e)⟩

theorem Two.grewI {g cap:Nat} {w1:World} {q:Nat} (h:Two WB base iv lv ID xc iv1 ni ic lv1 nl lc (some q) ql W)
    (hown:w1.ownsRow base 3 1 (.slice (some ⟨g,0,none⟩) (ni+1) cap) (ni+1) (ic++[ID])) (hgrow:W.grownBy w1 iv1.ownBlock) (hat:iv1.ownBlock=some g∨g=W.heap.size) :
    Two WB base iv lv ID xc (.slice (some ⟨g,0,none⟩) (ni+1) cap) (ni+1) (ic++[ID]) lv1 nl lc none ql w1:=by
  have ob:(Value.slice (some ⟨g,0,none⟩) (ni+1) cap).ownBlock=some g:=rfl
  have hsz:=h.st.size
  refine ⟨hown,own_move h.rl (fun k hk=>hgrow.block k (own_lt h.rl k hk) (fun e=>h.ne k e.symm hk)),⟨hgrow.os.trans h.st.os,hgrow.tape.trans h.st.tape,hgrow.output.trans h.st.output,Nat.le_trans hsz hgrow.size,fun k hk hn=>?_,fun k hk=>.inl hk⟩,fun k hk=>?_,h.ol,fun k hk hl=>?_,fun q h=>by simp at h,fun q hq=>?_⟩
  · refine (hgrow.block k (by omega) (fun e=>?_)).trans (h.st.block k hk hn)
    rcases h.oi k e.symm with h' | h'
    · exact hn (List.mem_append_left _ (Option.mem_toList.2 h'))
    · omega
  · rw [ob] at hk
    injection hk with hk
    subst hk
    rcases hat with h' | h'
    · exact h.oi _ h'
    · exact .inr (by omega)
  · rw [ob] at hk
    injection hk with hk
    subst hk
    rcases hat with h' | h'
    · exact h.ne _ h' hl
    · have:=own_lt h.rl _ hl;omega
  · obtain ⟨b1,b2,b3⟩:=h.bl q hq
    refine ⟨(hgrow.block q (lt_heap b1) (fun e=>b2 e.symm)).trans b1,fun e=>?_,b3⟩
    rw [ob] at e
    injection e with e
    subst e
    rcases hat with h' | h'
    · exact b2 h'
    · have:=lt_heap b1;omega

theorem Two.grewL {g cap:Nat} {w1:World} {q:Nat} (h:Two WB base iv lv ID xc iv1 ni ic lv1 nl lc qi (some q) W)
    (hown:w1.ownsRow base 28 7 (.slice (some ⟨g,0,none⟩) (nl+1) cap) (nl+1) (lc++xc)) (hgrow:W.grownBy w1 lv1.ownBlock) (hat:lv1.ownBlock=some g∨g=W.heap.size) :
    Two WB base iv lv ID xc iv1 ni ic (.slice (some ⟨g,0,none⟩) (nl+1) cap) (nl+1) (lc++xc) qi none w1:=by
  have ob:(Value.slice (some ⟨g,0,none⟩) (nl+1) cap).ownBlock=some g:=rfl
  have hsz:=h.st.size
  refine ⟨own_move h.ri (fun k hk=>hgrow.block k (own_lt h.ri k hk) (fun e=>h.ne k hk e.symm)),hown,⟨hgrow.os.trans h.st.os,hgrow.tape.trans h.st.tape,hgrow.output.trans h.st.output,Nat.le_trans hsz hgrow.size,fun k hk hn=>?_,fun k hk=>.inl hk⟩,h.oi,fun k hk=>?_,fun k hk hl=>?_,fun q hq=>?_,fun q h=>by simp at h⟩
  · refine (hgrow.block k (by omega) (fun e=>?_)).trans (h.st.block k hk hn)
    rcases h.ol k e.symm with h' | h'
    · exact hn (List.mem_append_right _ (Option.mem_toList.2 h'))
    · omega
  · rw [ob] at hk
    injection hk with hk
    subst hk
    rcases hat with h' | h'
    · exact h.ol _ h'
    · exact .inr (by omega)
  · rw [ob] at hl
    injection hl with hl
    subst hl
    rcases hat with h' | h'
    · exact h.ne _ hk h'
    · have:=own_lt h.ri _ hk;omega
  · obtain ⟨b1,b2,b3⟩:=h.bi q hq
    refine ⟨(hgrow.block q (lt_heap b1) (fun e=>b3 e.symm)).trans b1,b2,fun e=>?_⟩
    rw [ob] at e
    injection e with e
    subst e
    rcases hat with h' | h'
    · exact b3 h'
    · have:=lt_heap b1;omega

end



section

variable {ops:Array Oper} {o:Oper} {a:Act} {K:Act→World→Prop} {Q:Exit→Act→World→Prop} {E:Prop} {WB W:World} {base:Nat} {iv lv ID:Value} {xc:List Value} {iv1:Value} {ni:Nat} {ic:List Value} {lv1:Value} {nl:Nat} {lc:List Value} {qi ql:Option Nat}

theorem Two.stepI {q:Nat} (hg:o.guard=none) (s x:Operand) (hop:o.op=.call { callee:=.builtin .append,args:=#[s,x],argTypes:=#[25,25] }) (hs:a.eval s=iv1) (hx:a.eval x=.slice (some ⟨q,0,none⟩) 1 1)
    (h:Two WB base iv lv ID xc iv1 ni ic lv1 nl lc (some q) ql W) (h1:ID.oneCell'=true) (hn:ni < 1000000000) (hb:base≤WB.heap.size)
    (hK:∀ g cap w1,Two WB base iv lv ID xc (.slice (some ⟨g,0,none⟩) (ni+1) cap) (ni+1) (ic++[ID]) lv1 nl lc none ql w1→K (a.put o.dst (.slice (some ⟨g,0,none⟩) (ni+1) cap)) w1) :
    if Region.wanted o (yielded ops a.tmps)=true then Oper.wp Tryz.prog o a W K Q else E:=by
  obtain ⟨i0,hi,hz0,hz1,hz2⟩:=info_parts infoInt
  have hsz:=h.st.size
  refine step_append_lies W hg s x 25 hop base 3 i0 (.int .i64 0) 1 8 Tryz.underlying25 hi hz0 hz1 hz2 rfl (by omega) iv1 ni ic hs h.ri ⟨q,0,none⟩ 1 1 [ID] hx rfl (World.news_of_block (cs:=#[ID]) (h.bi q rfl).1) (fun u hu=>by simp at hu;subst hu;exact h1) (by omega) (by unfold maxLen;omega) (by omega) (by omega) W.heap.size rfl ?_
  intro g cap w1 hown hgrow hat hlt
  exact hK g cap w1 (h.grewI hown hgrow hat)

theorem Two.stepL {q:Nat} (hg:o.guard=none) (s x:Operand) (hop:o.op=.call { callee:=.builtin .append,args:=#[s,x],argTypes:=#[26,26] }) (hs:a.eval s=lv1) (hx:a.eval x=.slice (some ⟨q,0,none⟩) 1 1)
    (h:Two WB base iv lv ID xc iv1 ni ic lv1 nl lc qi (some q) W) (hxl:xc.length=7) (h1:∀ u∈xc,u.oneCell'=true) (hn:nl < 1000000000) (hb:base≤WB.heap.size)
    (hK:∀ g cap w1,Two WB base iv lv ID xc iv1 ni ic (.slice (some ⟨g,0,none⟩) (nl+1) cap) (nl+1) (lc++xc) qi none w1→K (a.put o.dst (.slice (some ⟨g,0,none⟩) (nl+1) cap)) w1) :
    if Region.wanted o (yielded ops a.tmps)=true then Oper.wp Tryz.prog o a W K Q else E:=by
  obtain ⟨i0,hi,hz0,hz1,hz2⟩:=info_parts infoVal
  have hsz:=h.st.size
  refine step_append_lies W hg s x 26 hop base 28 i0 (.agg #[.int .i64 0,.int .i64 0,.slice none 0 0,.int .i64 0,.int .i64 0,.slice none 0 0,.slice none 0 0]) 7 104 Tryz.underlying26 hi hz0 hz1 hz2 rfl (by omega) lv1 nl lc hs h.rl ⟨q,0,none⟩ 1 1 xc hx (by rw [hxl]) (World.news_of_block (cs:=xc.toArray) (h.bl q rfl).1) h1 (by omega) (by unfold maxLen;omega) (by omega) (by omega) W.heap.size rfl ?_
  intro g cap w1 hown hgrow hat hlt
  exact hK g cap w1 (h.grewL hown hgrow hat)

end

end Go.Proofs.YtmjcnomgpikncaaGreatDoor

namespace Go.Proofs.YtmjcnomgpikncaaGreatDoor

open Go.RowKit Go.Deep



open Go.Proofs.YtmjcnomgpikncaaGreatDoorW.PrintWords

def RowI (ok:Nat→Prop) (w:World) (base:Nat) (iv:Value) (ids:List Int):Prop:=(∀ k,iv.ownBlock=some k→ok k)∧w.ownsRow base 3 1 iv ids.length (encs (Value.int .i64) ids)

theorem RowI.nil (ok:Nat→Prop) (w:World) (base:Nat):RowI ok w base (.slice none 0 0) []:=⟨fun k hk=>by simp [Value.ownBlock] at hk,own_nil _ _ _ _⟩

theorem RowI.mono {ok ok':Nat→Prop} {w:World} {base:Nat} {iv:Value} {ids:List Int} (h:RowI ok w base iv ids) (hk:∀ k,ok k→k < w.heap.size→ok' k):RowI ok' w base iv ids:=⟨fun k hb=>hk k (h.1 k hb) (own_lt h.2 k hb),h.2⟩

theorem RowI.move {ok:Nat→Prop} {w w1:World} {base:Nat} {iv:Value} {ids:List Int} (h:RowI ok w base iv ids) (hk:∀ k,ok k→k < w.heap.size→w1.heap[k]?=w.heap[k]?):RowI ok w1 base iv ids:=⟨h.1,own_move h.2 (fun k hb=>hk k (h.1 k hb) (own_lt h.2 k hb))⟩

theorem RowI.step {n:Nat} {S2 S3:List Nat} {wr W3:World} {base:Nat} {iv:Value} {ids:List Int} (h:RowI (fun b=>n < b∧b∉S2) wr base iv ids) (hs:Step S2 S3 wr W3):RowI (fun b=>n < b∧b∉S3) W3 base iv ids :=
  ((h.mono (ok':=fun b=>(n < b∧b∉S3)∧b∉S2) (fun b hb hl=>⟨⟨hb.1,fun hm=>by
    rcases hs.own b hm with h3 | h3
    · exact hb.2 h3
    · omega⟩,hb.2⟩)).move (fun b hb hl=>hs.block b hl hb.2)).mono (fun b hb _=>hb.1)

theorem RowO.step {n GB:Nat} {S2 S3:List Nat} {wr W3:World} {base:Nat} {u:Value} {xs:List Val} (h:RowO (fun b=>n < b∧b∉S2∧b≠GB) wr base u xs) (hs:Step S2 S3 wr W3):RowO (fun b=>n < b∧b∉S3∧b≠GB) W3 base u xs :=
  ((h.mono (ok':=fun b=>(n < b∧b∉S3∧b≠GB)∧b∉S2) (fun b hb hl=>⟨⟨hb.1,fun hm=>by
    rcases hs.own b hm with h3 | h3
    · exact hb.2.1 h3
    · omega,hb.2.2⟩,hb.2.1⟩)).move (fun b hb hl=>hs.block b hl hb.2) hs.size).mono (fun b hb _=>hb.1)

theorem RowO.valI {n GB:Nat} {S2:List Nat} {w:World} {base:Nat} {u iv:Value} {xs:List Val} {ids:List Int} (h:RowO (fun b=>n < b∧b∉S2∧b≠GB) w base u xs) (hi:RowI (fun b=>n < b∧b∉S2) w base iv ids):HasO (fun b=>n < b∧b∉S2) w ⟨12,0,[],0,0,ids,xs⟩ [.int .i64 12,.int .i64 0,.slice none 0 0,.int .i64 0,.int .i64 0,iv,u] :=
  RowO.valF (h.mono (fun b hb _=>⟨hb.1,hb.2.1⟩)) (base':=base) (Kd.R_of_own hi.2 hi.1) 12

theorem RowO.two {ok:Nat→Prop} {WB W9:World} {base:Nat} {iv u ID iv1 lv1:Value} {xs:List Val} {x:Val} {xc lc ic ic1 lc1:List Value} {n1:Nat} (h1:∀ k,u.ownBlock=some k→ok k) (hr:Reps (HasO (fun k=>ok k∧some k≠u.ownBlock) WB) 7 xs lc)
    (hx:HasO (fun k=>ok k∧some k≠u.ownBlock) WB x xc) (hne:∀ k,ok k→iv.ownBlock≠some k) (hfresh:∀ k,WB.heap.size≤k→ok k)
    (h:Two WB base iv u ID xc iv1 n1 ic1 lv1 (xs.length+1) (lc++xc) none none W9):RowO (fun k=>ok k∧iv1.ownBlock≠some k) W9 base lv1 (xs++[x]):=by
  have hcl:xc.length=7:=kVal.K_len hx.now
  refine ⟨fun k hk=>⟨?_,fun e=>h.ne k e hk⟩,lc++xc,?_,?_⟩
  · rcases h.ol k hk with h' | h'
    · exact h1 k h'
    · exact hfresh k h'
  · have:(xs++[x]).length=xs.length+1:=by simp
    rw [this]
    exact h.rl
  · have hmv:∀ v c,HasO (fun k=>ok k∧some k≠u.ownBlock) WB v c→HasO (fun k=>(ok k∧iv1.ownBlock≠some k)∧some k≠lv1.ownBlock) W9 v c:=fun v c hv=>by
      refine HasO.mono (HasO.move (HasO.mono hv (ok':=fun k=>(ok k∧some k≠u.ownBlock)∧k < WB.heap.size) (fun k h1 h2=>⟨h1,h2⟩)) (fun k hk1 hk2=>h.st.block k hk2 (fun hm=>?_)) h.st.size) (fun k hk1 hk2=>⟨⟨hk1.1.1,fun e=>?_⟩,fun e=>?_⟩)
      · rcases List.mem_append.1 hm with h' | h'
        · exact hne k hk1.1.1 (Option.mem_toList.1 h')
        · exact hk1.1.2 (Option.mem_toList.1 h').symm
      · rcases h.oi k e with h' | h'
        · exact hne k hk1.1.1 h'
        · have:=hk1.2;omega
      · rcases h.ol k e.symm with h' | h'
        · exact hk1.1.2 h'.symm
        · have:=hk1.2;omega
    exact (hr.imp_ hmv).snoc (hmv x xc hx) hcl

end Go.Proofs.YtmjcnomgpikncaaGreatDoor

namespace Go.Proofs.YtmjcnomgpikncaaGreatDoor

open Go.RowKit Go.Deep



open Go.Proofs.YtmjcnomgpikncaaGreatDoorW.PrintWords Go.Proofs.YtmjcnomgpikncaaGreatDoorW.PrintLast

theorem one7 (a b c d:Int) (A2 A5 A6:Option Addr) (n2 n5 n6 a2 a5 a6:Nat):∀ u∈[Value.int .i64 a,.int .i64 b,.slice A2 n2 a2,.int .i64 c,.int .i64 d,.slice A5 n5 a5,.slice A6 n6 a6],u.oneCell'=true:=by
  intro u hu
  simp at hu
  rcases hu with rfl | rfl | rfl | rfl | rfl | rfl | rfl <;> rfl

set_option maxRecDepth 100000 in
set_option maxHeartbeats 2000000 in
theorem getStruct_any (P:PR) (gv:Int→P.σ→Option (Val × Nat × P.σ)) (D:Int) (hD:1≤D∧D < 9223372036854775808) (hG:Gets P gv (D - 1)) (f:Nat) (hf:f < 900000000) {S:List Nat} {s:P.σ} {w:World} (h:P.Is S s w) {r:Val × Nat × P.σ}
 (hr0:((P.run s .strB).bind fun a=>if a.2.1=0 then getF P.run gv f [] [] a.2.2 else some (⟨12,0,[],0,0,[],[]⟩,a.2.1,a.2.2))=some r) :
 Calls Tryz.prog 74 #[.iface P.ty P.ptr,.int .i64 D] w (GotV P r S w):=by
 rw [Option.bind_eq_some_iff] at hr0
 obtain ⟨⟨g,k,s1⟩,hr,hr0⟩:=hr0
 dsimp only at hr0
 have HR:=Lib.hid hr0
 have HG:=Lib.hid hG
 clear hr0 hG
 obtain ⟨hm,hn,hen⟩:=P.m_strB
 obtain ⟨hm2,hn2,hen2⟩:=P.m_fldB
 obtain ⟨hm3,hn3,hen3⟩:=P.m_fldE
 obtain ⟨hm4,hn4,hen4⟩:=P.m_strE
 have hc:=ctx_any
 have HO:=Lib.hid (show ∀ W,Step [] [] w W→Calls Tryz.prog (P.fn "ReadStructBegin") #[P.ptr,ctxV] W (TellsV P.Is (fun ev=>.tuple #[.string ByteArray.empty,ev]) k s1 S W) from fun W hW=>P.at_ h hr W hW)
 have HF:=Lib.hid (P.lt h)
 obtain ⟨W0,hW0⟩:∃ W0,W0=(w.alloc (.cells #[.int .i64 0,.int .i64 0,.slice none 0 0,.int .i64 0,.int .i64 0,.slice none 0 0,.slice none 0 0] 28)).alloc (.cells #[.int .i64 12,.int .i64 0,.slice none 0 0,.int .i64 0,.int .i64 0,.slice none 0 0,.slice none 0 0] 28):=⟨_,rfl⟩
 have hS0:Step [] [] w W0:=by rw [hW0];exact ((Step.refl [] w).alloc _).alloc _
 have HBR0:=Lib.hid (show W0.heap[w.heap.size]?=some (.cells #[.int .i64 0,.int .i64 0,.slice none 0 0,.int .i64 0,.int .i64 0,.slice none 0 0,.slice none 0 0] 28 (0,0)) by rw [hW0];exact heap_alloc_old (heap_alloc_new w _) _)
 have HBV0:=Lib.hid (show W0.heap[w.heap.size+1]?=some (.cells #[.int .i64 12,.int .i64 0,.slice none 0 0,.int .i64 0,.int .i64 0,.slice none 0 0,.slice none 0 0] 28 (0,0)) by rw [hW0];exact heap_alloc_at (by simp) _)
 have HS0:=Lib.hid hS0
 clear hr h hS0
 go_enter Tryz.func74,Tryz.ntmps74
 go_wp2_with (fail)
 go_upto_region 2 with (fail)
 rw [← hW0]
 clear hW0
 go_cut [8] (fun u8 wx=>∃ S1,IsErr k u8 wx∧P.Is S1 s1 wx∧Step S S1 W0 wx)
 case first =>
  go_region_held3 (fun _=>True) (trivial)
   (first
    | (go_at_call 53;refine (hc _).mono ?_;rintro e w' ⟨rfl,rfl⟩)
    | ((with_reducible refine (HO.out _ ?_).mono ?_);(with_reducible exact HS0.out.drew);rintro e W1 ⟨ev,S1,rfl,he,hI,hs⟩;replace hs:=(Step.refl S W0).drew.trans hs))
  all_goals (go_wp2_with (fail);go_meet;exact ⟨_,he,hI,hs⟩)
 case rest =>
 obtain ⟨S1,he,hI,hs⟩:=hcut
 have hbr:=(hs.block w.heap.size (lt_heap HBR0.out) (fun hm=>by have:=HF.out _ hm;omega)).trans HBR0.out
 have hbv:=(hs.block (w.heap.size+1) (lt_heap HBV0.out) (fun hm=>by have:=HF.out _ hm;omega)).trans HBV0.out
 obtain ⟨c0,c1,c2,c3,c4,c5,c6⟩:=cells7 hbv
 obtain ⟨d0,d1,d2,d3,d4,d5,d6⟩:=cells7 hbr
 have hfr:=frozen_heap hbr
 have hfz:=frozen_heap hbv
 have hlr:=lt_heap hbr
 have hlv:=lt_heap hbv
 have HBR:=Lib.hid hbr
 have HBV:=Lib.hid hbv
 have HI:=Lib.hid hI
 have HSW:=Lib.hid ((HS0.out.more (S1:=S) (T1:=S) (by simp) (fun k hk=>.inr (.inl hk))).trans hs)
 have HOB:=Lib.hid (show ∀ b,b∈[w.heap.size,w.heap.size+1]→w.heap.size≤b∧b∉S1 from fun b hb=>by
  simp only [List.mem_cons,List.not_mem_nil,or_false] at hb
  have hl0:=lt_heap HBV0.out
  refine ⟨by omega,fun hm=>?_⟩
  rcases hs.own b hm with h1 | h1
  · have:=HF.out _ h1;omega
  · omega)
 have HE:=Lib.hid he
 clear hbr hbv hI hs
 rcases he with ⟨rfl,rfl⟩ | ⟨bb,tt,er,ms,hk1,hk2,rfl,hbb⟩
 case inr =>
  have hrr:=HR.out
  rw [if_neg (by omega)] at hrr
  injection hrr with hrr
  subst hrr
  go_wp2
  obtain ⟨W6,e2,h6,hs6⟩:=set7 HBR.out (.int .i64 12) (.int .i64 0) (.slice none 0 0) (.int .i64 0) (.int .i64 0) (.slice none 0 0) (.slice none 0 0)
  rw [e2]
  obtain ⟨r0,r1,r2,r3,r4,r5,r6⟩:=cells7 h6
  refine bodyPost_ret (v:=.tuple #[.agg #[.int .i64 12,.int .i64 0,.slice none 0 0,.int .i64 0,.int .i64 0,.slice none 0 0,.slice none 0 0],.iface 235 (.pointer (some ⟨bb,0,none⟩))]) (by simp [results,Tryz.results74,go_sem, *]) rfl ?_
  obtain ⟨hI6,hs66⟩:=gotV_end (HSW.out) HI.out (fun b hb=>by
   simp only [List.mem_cons,List.not_mem_nil,or_false] at hb
   subst hb
   exact ⟨by omega,(HOB.out _ (by simp)).2⟩) hs6
  have hval:=HasO.move (RowO.valI (n:=w.heap.size+1) (S2:=S1) (GB:=0) (RowO.nil _ _ 0) (RowI.nil _ _ _)) (w1:=W6) (fun b hb hlt2=>hs6.block b hlt2 (by simp only [List.mem_cons,List.not_mem_nil,or_false];have:=hb.1;omega)) hs6.size
  exact ⟨_,[.int .i64 12,.int .i64 0,.slice none 0 0,.int .i64 0,.int .i64 0,.slice none 0 0,.slice none 0 0],_,rfl,hval.mono (fun b hb _=>⟨by have:=hb.1;omega,hb.2⟩),IsErrG.step_at (Or.inl HE.out) hs6 (fun b hb=>by
   simp only [List.mem_cons,List.not_mem_nil,or_false] at hb
   subst hb
   exact ⟨_,_,_,HBR.out,by decide⟩),hI6,hs66⟩
 case inl =>
 clear HE
 have HR:=Lib.hid ((if_pos rfl).symm.trans HR.out)
 have HNS:=Lib.hid (show w.heap.size∉S1∧w.heap.size+1∉S1 from ⟨(HOB.out _ (by simp)).2,(HOB.out _ (by simp)).2⟩)
 clear c0 c1 c2 c3 c4 c5 c6 d0 d1 d2 d3 d4 d5 d6 hfz hfr
 go_wp2_with (fail)
 go_loopg [12] f (fun gk u12 wr=>∃ (S2:List Nat) (s2:P.σ) (ids:List Int) (xs:List Val) (iv u:Value) (GB:Nat),Hid (ids.length+gk≤f∧xs.length+gk≤f)∧Hid (getF P.run gv gk ids xs s2=some r)∧Hid (P.Is S2 s2 wr)∧Hid (Step S S2 w wr)∧Hid ((∀ k,iv.ownBlock=some k→k=GB)∧GB < wr.heap.size)∧Hid (RowI (fun b=>w.heap.size+1 < b∧b∉S2) wr w.heap.size iv ids)∧Hid (RowO (fun b=>w.heap.size+1 < b∧b∉S2∧b≠GB) wr w.heap.size u xs)∧Hid (wr.heap[w.heap.size+1]?=some (.cells #[.int .i64 12,.int .i64 0,.slice none 0 0,.int .i64 0,.int .i64 0,iv,u] 28 (0,0)))∧Hid (wr.heap[w.heap.size]?=some (.cells #[.int .i64 0,.int .i64 0,.slice none 0 0,.int .i64 0,.int .i64 0,.slice none 0 0,.slice none 0 0] 28 (0,0)))∧Hid (w.heap.size∉S2∧w.heap.size+1∉S2))
 case atStart=>exact ⟨S1,s1,[],[],.slice none 0 0,.slice none 0 0,w.heap.size,Lib.hid ⟨by simp,by simp⟩,HR,HI,HSW,Lib.hid ⟨fun k hk=>by simp [Value.ownBlock] at hk,by omega⟩,Lib.hid (RowI.nil _ _ _),Lib.hid (RowO.nil _ _ _),HBV,HBR,HNS⟩
 case round =>
  clear HR HI HSW HBV HBR HNS HOB HBR0 HBV0 HS0 HO HF hlr hlv
  obtain ⟨S2,s2,ids,xs,iv,u,GB,HLN,hrun,HI2,HS2,HGB,HRI,HRO,HVB,HRB,HNS2⟩:=hrel
  obtain ⟨gn,rfl⟩:∃ gn,gk=gn+1:=by
   cases gk with
   | zero=>have h':=hrun.out;simp [getF] at h'
   | succ gn=>exact ⟨gn,rfl⟩
  have hq:=hrun.out
  rw [getF,Option.bind_eq_some_iff] at hq
  obtain ⟨⟨a,ka,sa⟩,ha,hq⟩:=hq
  dsimp only at hq
  have HQ:=Lib.hid hq
  have hfit:=P.fits ha
  have hat:=hfit.1 (by decide)
  have haid:=hfit.2.2.2.2.2.1
  have HO5:=Lib.hid (show ∀ W,Step [] [] wr W→Calls Tryz.prog (P.fn "ReadFieldBegin") #[P.ptr,ctxV] W (TellsV P.Is (fun ev=>.tuple #[.string ByteArray.empty,.int .u8 a.t,.int .i16 a.id,ev]) ka sa S2 W) from fun W hW=>P.at_ HI2.out ha W hW)
  have HWR:=Lib.hid (Step.refl [] wr)
  have hlv2:=lt_heap HVB.out
  have hlr2:=lt_heap HRB.out
  clear hq hrun ha
  go_upto_region 5 with (fail)
  go_cut [10,11,12] (fun u10 u11 u12 wx=>u10=.int .u8 a.t∧u11=.int .i16 a.id∧∃ S5,IsErr ka u12 wx∧P.Is S5 sa wx∧Step S2 S5 wr wx)
  case first =>
   go_region_held3 (fun _=>True) (trivial)
    (first
     | (go_at_call 53;refine (hc _).mono ?_;rintro e w' ⟨rfl,rfl⟩)
     | ((with_reducible refine (HO5.out _ ?_).mono ?_);(with_reducible exact HWR.out.drew);rintro e W5 ⟨ev5,S5,rfl,he5,hI5,hs5⟩;replace hs5:=(Step.refl S2 wr).drew.trans hs5))
   all_goals (go_wp2_with (fail);go_meet;exact ⟨rfl,rfl,_,he5,hI5,hs5⟩)
  case rest =>
  obtain ⟨rfl,rfl,S5,he5,hI5,hs5⟩:=hcut
  have hv5:=(hs5.block _ hlv2 HNS2.out.2).trans HVB.out
  have hr5:=(hs5.block _ hlr2 HNS2.out.1).trans HRB.out
  have hn5:w.heap.size∉S5∧w.heap.size+1∉S5:=⟨fun hm=>by
   rcases hs5.own _ hm with h' | h'
   · exact HNS2.out.1 h'
   · omega,fun hm=>by
   rcases hs5.own _ hm with h' | h'
   · exact HNS2.out.2 h'
   · omega⟩
  obtain ⟨ii,ic,rfl⟩:∃ ii ic,iv=.slice ii ids.length ic:=by
   obtain ⟨A,c,h1,_⟩:=own_reads_of (d:=0) HRI.out.2
   exact ⟨A,c,h1⟩
  obtain ⟨ui,uc,rfl⟩:∃ ui uc,u=.slice ui xs.length uc:=by
   obtain ⟨A,c,h1,_⟩:=HRO.out.reads
   exact ⟨A,c,h1⟩
  have HRI5:=Lib.hid (HRI.out.step hs5)
  have HRO5:=Lib.hid (HRO.out.step hs5)
  have HS5:=Lib.hid (HS2.out.trans hs5)
  have HGB5:=Lib.hid (show (∀ k,(Value.slice ii ids.length ic).ownBlock=some k→k=GB)∧GB < wc.heap.size from ⟨HGB.out.1,Nat.lt_of_lt_of_le HGB.out.2 hs5.size⟩)
  have HI5:=Lib.hid hI5
  have HV5:=Lib.hid hv5
  have HR5:=Lib.hid hr5
  have HN5:=Lib.hid hn5
  have HE5:=Lib.hid he5
  obtain ⟨c0,c1,c2,c3,c4,c5,c6⟩:=cells7 hv5
  obtain ⟨d0,d1,d2,d3,d4,d5,d6⟩:=cells7 hr5
  have hfr:=frozen_heap hr5
  have hfz:=frozen_heap hv5
  have hlv5:=lt_heap hv5
  have hlr5:=lt_heap hr5
  have hls5:=hs5.size
  clear hI5 hs5 hv5 hr5 hn5 HRI HRO HS2 HGB HVB HRB HNS2 HI2 HO5 HWR hlv2 hlr2
  rcases he5 with ⟨rfl,rfl⟩ | ⟨bb,tt,er,ms,hk1,hk2,rfl,hbb⟩
  case inr =>
   have hrr:=HQ.out
   rw [if_neg (by omega)] at hrr
   injection hrr with hrr
   subst hrr
   go_wp2
   obtain ⟨W6,e2,h6,hs6⟩:=set7 HR5.out (.int .i64 12) (.int .i64 0) (.slice none 0 0) (.int .i64 0) (.int .i64 0) (.slice ii ids.length ic) (.slice ui xs.length uc)
   rw [e2]
   obtain ⟨r0,r1,r2,r3,r4,r5,r6⟩:=cells7 h6
   refine bodyPost_ret (v:=.tuple #[.agg #[.int .i64 12,.int .i64 0,.slice none 0 0,.int .i64 0,.int .i64 0,.slice ii ids.length ic,.slice ui xs.length uc],.iface 235 (.pointer (some ⟨bb,0,none⟩))]) (by simp [results,Tryz.results74,go_sem, *]) rfl ?_
   obtain ⟨hI6,hs66⟩:=gotV_end (HS5.out) HI5.out (fun b hb=>by
    simp only [List.mem_cons,List.not_mem_nil,or_false] at hb
    subst hb
    exact ⟨by omega,HN5.out.1⟩) hs6
   have hval:=HasO.move (RowO.valI (n:=w.heap.size+1) (GB:=GB) HRO5.out HRI5.out) (w1:=W6) (fun b hb hlt2=>hs6.block b hlt2 (by simp only [List.mem_cons,List.not_mem_nil,or_false];have:=hb.1;omega)) hs6.size
   exact ⟨_,[.int .i64 12,.int .i64 0,.slice none 0 0,.int .i64 0,.int .i64 0,.slice ii ids.length ic,.slice ui xs.length uc],_,rfl,hval.mono (fun b hb _=>⟨by have:=hb.1;omega,hb.2⟩),IsErrG.step_at (Or.inl (Or.inr ⟨bb,tt,er,ms,rfl,hk2,rfl,hbb⟩)) hs6 (fun b hb=>by
    simp only [List.mem_cons,List.not_mem_nil,or_false] at hb
    subst hb
    exact ⟨_,_,_,HR5.out,by decide⟩),hI6,hs66⟩
  case inl =>
  clear HE5
  have HQ:=Lib.hid ((if_pos rfl).symm.trans HQ.out)
  by_cases hstop:a.t=0
  case pos =>
   have hrr:=HQ.out
   rw [if_pos hstop,Option.map_eq_some_iff] at hrr
   obtain ⟨b,hb1,hrr⟩:=hrr
   subst hrr
   have HO9:=Lib.hid (show ∀ W,Step [] [] wc W→Calls Tryz.prog (P.fn "ReadStructEnd") #[P.ptr,ctxV] W (TellsV P.Is (fun ev=>ev) b.2.1 b.2.2 S5 W) from fun W hW=>P.at_ HI5.out hb1 W hW)
   have HBX:=Lib.hid (show ∀ S9 W,Step S5 S9 wc W→W.heap[w.heap.size+1]?=some (.cells #[.int .i64 12,.int .i64 0,.slice none 0 0,.int .i64 0,.int .i64 0,.slice ii ids.length ic,.slice ui xs.length uc] 28 (0,0)) from fun S9 W hW=>(hW.block _ hlv5 HN5.out.2).trans HV5.out)
   have HCX:=Lib.hid (show ∀ S9 W,Step S5 S9 wc W→W.cell? ⟨w.heap.size+1,0,none⟩=some (.int .i64 12)∧W.cell? ⟨w.heap.size+1,1,none⟩=some (.int .i64 0)∧W.cell? ⟨w.heap.size+1,2,none⟩=some (.slice none 0 0)∧W.cell? ⟨w.heap.size+1,3,none⟩=some (.int .i64 0)∧W.cell? ⟨w.heap.size+1,4,none⟩=some (.int .i64 0)∧W.cell? ⟨w.heap.size+1,5,none⟩=some (.slice ii ids.length ic)∧W.cell? ⟨w.heap.size+1,6,none⟩=some (.slice ui xs.length uc) from fun S9 W hW=>cells7 (HBX.out S9 W hW))
   have HC0:=Lib.hid (HCX.out _ _ (Step.refl S5 wc))
   have HC1:=Lib.hid (HCX.out _ _ (Step.refl S5 wc).drew)
   clear hb1 c0 c1 c2 c3 c4 c5 c6 d0 d1 d2 d3 d4 d5 d6 hfr
   go_wp2_with (fail)
   go_region_held3 (fun W=>W.cell? ⟨w.heap.size+1,0,none⟩=some (.int .i64 12)∧W.cell? ⟨w.heap.size+1,1,none⟩=some (.int .i64 0)∧W.cell? ⟨w.heap.size+1,2,none⟩=some (.slice none 0 0)∧W.cell? ⟨w.heap.size+1,3,none⟩=some (.int .i64 0)∧W.cell? ⟨w.heap.size+1,4,none⟩=some (.int .i64 0)∧W.cell? ⟨w.heap.size+1,5,none⟩=some (.slice ii ids.length ic)∧W.cell? ⟨w.heap.size+1,6,none⟩=some (.slice ui xs.length uc)) (first | with_reducible exact HC0.out | with_reducible exact HC1.out | with_reducible exact HC3.out | (simp [go_sem, *];done) | fail)
    (first
     | (go_at_call 53;refine (hc _).mono ?_;rintro e w' ⟨rfl,rfl⟩)
     | ((with_reducible refine (HO9.out _ ?_).mono ?_);(with_reducible exact (Step.refl _ _).drew);rintro e W3 ⟨ev3,S3,rfl,he3,hI3,hs3⟩;replace hs3:=(Step.refl S5 wc).drew.trans hs3;have HC3:=Lib.hid (HCX.out _ _ hs3);have hr3:=(hs3.block _ hlr5 HN5.out.1).trans HR5.out;obtain ⟨d0,d1,d2,d3,d4,d5,d6⟩:=cells7 hr3;have hfr3:=frozen_heap hr3;have hlr3:=lt_heap hr3;have HR3:=Lib.hid hr3;clear hr3))
   all_goals (
    have hn3:w.heap.size∉S3:=fun hm=>by
     rcases hs3.own _ hm with h' | h'
     · exact HN5.out.1 h'
     · omega
    go_wp2
    obtain ⟨W6,e2,h6,hs6⟩:=set7 HR3.out (.int .i64 12) (.int .i64 0) (.slice none 0 0) (.int .i64 0) (.int .i64 0) (.slice ii ids.length ic) (.slice ui xs.length uc)
    rw [e2]
    obtain ⟨r0,r1,r2,r3,r4,r5,r6⟩:=cells7 h6
    refine bodyPost_ret (v:=.tuple #[.agg #[.int .i64 12,.int .i64 0,.slice none 0 0,.int .i64 0,.int .i64 0,.slice ii ids.length ic,.slice ui xs.length uc],ev3]) (by simp [results,Tryz.results74,go_sem, *]) rfl ?_
    obtain ⟨hI6,hs66⟩:=gotV_end (HS5.out.trans hs3) hI3 (fun b hb=>by
     simp only [List.mem_cons,List.not_mem_nil,or_false] at hb
     subst hb
     exact ⟨by omega,hn3⟩) hs6
    have hval:=HasO.move (RowO.valI (n:=w.heap.size+1) (GB:=GB) (HRO5.out.step hs3) (HRI5.out.step hs3)) (w1:=W6) (fun b hb hlt2=>hs6.block b hlt2 (by simp only [List.mem_cons,List.not_mem_nil,or_false];have:=hb.1;omega)) hs6.size
    exact ⟨_,[.int .i64 12,.int .i64 0,.slice none 0 0,.int .i64 0,.int .i64 0,.slice ii ids.length ic,.slice ui xs.length uc],S3,rfl,hval.mono (fun b hb _=>⟨by have:=hb.1;omega,hb.2⟩),IsErrG.step_at (Or.inl he3) hs6 (fun b hb=>by
     simp only [List.mem_cons,List.not_mem_nil,or_false] at hb
     subst hb
     exact ⟨_,_,_,HR3.out,by decide⟩),hI6,hs66⟩)
  case neg =>
  have hq:=HQ.out
  rw [if_neg hstop,Option.bind_eq_some_iff] at hq
  obtain ⟨q,hq1,hq2⟩:=hq
  have HQ2:=Lib.hid hq2
  have HGC:=Lib.hid (fun W (hW:Step [] [] wc W)=>HG.out S5 sa W a.t (P.step HI5.out hW (by simp)) hat.1 hat.2 q hq1)
  clear hq1 hq2
  go_wp2_with (fail)
  refine (HGC.out wc (Step.refl [] wc)).mono ?_
  rintro e W6 ⟨ev6,cs6,S6,rfl,hO6,hE6,hI6,hs6⟩
  obtain ⟨A2,a2,A5,a5,A6,a6,hcs6,-⟩:=kVal_open hO6.now
  have hv6:=(hs6.block _ hlv5 HN5.out.2).trans HV5.out
  have hr6:=(hs6.block _ hlr5 HN5.out.1).trans HR5.out
  subst hcs6
  clear c0 c1 c2 c3 c4 c5 c6 d0 d1 d2 d3 d4 d5 d6 hfr hfz
  obtain ⟨c0,c1,c2,c3,c4,c5,c6⟩:=cells7 hv6
  obtain ⟨d0,d1,d2,d3,d4,d5,d6⟩:=cells7 hr6
  have hfz:=frozen_heap hv6
  have hfr:=frozen_heap hr6
  have hlv6:=lt_heap hv6
  have hlr6:=lt_heap hr6
  have hls6:=hs6.size
  have HV6:=Lib.hid hv6
  have HR6:=Lib.hid hr6
  have HO6:=Lib.hid hO6
  have HE6:=Lib.hid hE6
  have HI6:=Lib.hid hI6
  have HS6:=Lib.hid hs6
  clear hv6 hr6 hO6 hE6 hI6 hs6
  go_wp2_with (fail)
  obtain ⟨WB,hWB⟩:∃ WB,WB=W6.alloc (.cells #[.int .i64 q.1.f0,.int .i64 q.1.f1,.slice A2 q.1.f2.length a2,.int .i64 q.1.f3,.int .i64 q.1.f4,.slice A5 q.1.f5.length a5,.slice A6 q.1.f6.length a6] 28):=⟨_,rfl⟩
  have hsB:WB.heap.size=W6.heap.size+1:=by rw [hWB];simp
  have hstB:Step [] [] W6 WB:=by rw [hWB];exact (Step.refl [] W6).alloc _
  have hxB:WB.heap[W6.heap.size]?=some (.cells #[.int .i64 q.1.f0,.int .i64 q.1.f1,.slice A2 q.1.f2.length a2,.int .i64 q.1.f3,.int .i64 q.1.f4,.slice A5 q.1.f5.length a5,.slice A6 q.1.f6.length a6] 28 (0,0)):=by rw [hWB];exact heap_alloc_new W6 _
  rw [← hWB]
  clear hWB
  have hvB:=(hstB.block _ hlv6 (by simp)).trans HV6.out
  have hrB:=(hstB.block _ hlr6 (by simp)).trans HR6.out
  obtain ⟨hrok,lc,hlown,hreps⟩:=RowO.move (HRO5.out.step HS6.out) (w1:=WB) (fun b hb hl=>hstB.block b hl (by simp)) hstB.size
  obtain ⟨hiok,hiown⟩:=RowI.move (HRI5.out.step HS6.out) (w1:=WB) (fun b hb hl=>hstB.block b hl (by simp))
  have hub:∀ k,(Value.slice ui xs.length uc).ownBlock=some k→k < wc.heap.size:=fun k hk=>by
   obtain ⟨_,inner,ho,_⟩:=HRO5.out
   exact own_lt ho k hk
  have hib:∀ k,(Value.slice ii ids.length ic).ownBlock=some k→k < wc.heap.size:=fun k hk=>own_lt HRI5.out.2 k hk
  have hxa:HasO (fun k=>(w.heap.size+1 < k∧k∉S6∧k≠GB)∧some k≠(Value.slice ui xs.length uc).ownBlock) WB q.1 [.int .i64 q.1.f0,.int .i64 q.1.f1,.slice A2 q.1.f2.length a2,.int .i64 q.1.f3,.int .i64 q.1.f4,.slice A5 q.1.f5.length a5,.slice A6 q.1.f6.length a6]:=(HO6.out.move (fun b hb hl=>hstB.block b hl (by simp)) hstB.size).mono (fun b hb _=>⟨⟨by have:=hb.1;omega,hb.2,fun e=>by have:=hb.1;have:=HGB5.out.2;omega⟩,fun e=>by have:=hub b e.symm;have:=hb.1;omega⟩)
  have hne0:∀ k,(Value.slice ii ids.length ic).ownBlock=some k→(Value.slice ui xs.length uc).ownBlock≠some k:=fun k hk h2=>(hrok k h2).2.2 (HGB5.out.1 k hk)
  have HT:=Lib.hid (Two.start (ID:=.int .i64 a.id) (xc:=[.int .i64 q.1.f0,.int .i64 q.1.f1,.slice A2 q.1.f2.length a2,.int .i64 q.1.f3,.int .i64 q.1.f4,.slice A5 q.1.f5.length a5,.slice A6 q.1.f6.length a6]) hiown hlown hne0)
  have HCX:=Lib.hid (show ∀ W,Step ((Value.slice ii ids.length ic).ownBlock.toList++(Value.slice ui xs.length uc).ownBlock.toList) ((Value.slice ii ids.length ic).ownBlock.toList++(Value.slice ui xs.length uc).ownBlock.toList) WB W→W.cell? ⟨w.heap.size+1,5,none⟩=some (.slice ii ids.length ic)∧W.cell? ⟨w.heap.size+1,6,none⟩=some (.slice ui xs.length uc)∧W.cell? ⟨W6.heap.size,0,none⟩=some (.int .i64 q.1.f0)∧W.cell? ⟨W6.heap.size,1,none⟩=some (.int .i64 q.1.f1)∧W.cell? ⟨W6.heap.size,2,none⟩=some (.slice A2 q.1.f2.length a2)∧W.cell? ⟨W6.heap.size,3,none⟩=some (.int .i64 q.1.f3)∧W.cell? ⟨W6.heap.size,4,none⟩=some (.int .i64 q.1.f4)∧W.cell? ⟨W6.heap.size,5,none⟩=some (.slice A5 q.1.f5.length a5)∧W.cell? ⟨W6.heap.size,6,none⟩=some (.slice A6 q.1.f6.length a6) from fun W hW=>by
   have h1:W.heap[w.heap.size+1]?=_:=(hW.block _ (by omega) (fun hm=>by
    rcases List.mem_append.1 hm with h' | h'
    · have:=(hiok _ (Option.mem_toList.1 h')).1;omega
    · have:=(hrok _ (Option.mem_toList.1 h')).1;omega)).trans hvB
   have h2:W.heap[W6.heap.size]?=_:=(hW.block _ (by omega) (fun hm=>by
    rcases List.mem_append.1 hm with h' | h'
    · have:=hib _ (Option.mem_toList.1 h');omega
    · have:=hub _ (Option.mem_toList.1 h');omega)).trans hxB
   obtain ⟨_,_,_,_,_,k5,k6⟩:=cells7 h1
   obtain ⟨m0,m1,m2,m3,m4,m5,m6⟩:=cells7 h2
   exact ⟨k5,k6,m0,m1,m2,m3,m4,m5,m6⟩)
  have HVX:=Lib.hid (show ∀ W,Step ((Value.slice ii ids.length ic).ownBlock.toList++(Value.slice ui xs.length uc).ownBlock.toList) ((Value.slice ii ids.length ic).ownBlock.toList++(Value.slice ui xs.length uc).ownBlock.toList) WB W→W.heap[w.heap.size+1]?=some (.cells #[.int .i64 12,.int .i64 0,.slice none 0 0,.int .i64 0,.int .i64 0,.slice ii ids.length ic,.slice ui xs.length uc] 28 (0,0)) from fun W hW=>(hW.block _ (by omega) (fun hm=>by
   rcases List.mem_append.1 hm with h' | h'
   · have:=(hiok _ (Option.mem_toList.1 h')).1;omega
   · have:=(hrok _ (Option.mem_toList.1 h')).1;omega)).trans hvB)
  have HVB6:=Lib.hid hvB
  have HRB6:=Lib.hid hrB
  have HROK:=Lib.hid hrok
  have HIOK:=Lib.hid hiok
  have HREPS:=Lib.hid hreps
  have HXA:=Lib.hid hxa
  have HSTB:=Lib.hid hstB
  have HUB:=Lib.hid hub
  have HIB:=Lib.hid hib
  have hlen:=HLN.out
  have haid2:=haid
  have hwid:IntKind.i64.wrap a.id=a.id:=by rw [IntKind.wrap_i64];omega
  have hwid2:wrap64 a.id=a.id:=by unfold wrap64;omega
  have hnI:ids.length < 1000000000:=by omega
  have hone:=one7
  obtain ⟨gI,cI,gL,cL,hdum⟩:∃ gI cI gL cL:Nat,gI=cI∧gL=cL:=⟨0,0,0,0,rfl,rfl⟩
  clear hdum
  have hnL:xs.length < 1000000000:=by omega
  have hbB:w.heap.size≤WB.heap.size:=by omega
  have HSB:=Lib.hid hsB
  clear hvB hrB hrok hiok hreps hxa hstB hub hib hne0 hxB hlown hiown c0 c1 c2 c3 c4 c5 c6 d0 d1 d2 d3 d4 d5 d6 hfr hfz hsB
  go_upto_region 11 with (fail)
  go_cut [66,71] (fun u66 u71 wx=>∃ gi ci gl cl W9,u66=.slice (some ⟨gi,0,none⟩) (ids.length+1) ci∧u71=.slice (some ⟨gl,0,none⟩) (xs.length+1) cl∧Two WB w.heap.size (.slice ii ids.length ic) (.slice ui xs.length uc) (.int .i64 a.id) [.int .i64 q.1.f0,.int .i64 q.1.f1,.slice A2 q.1.f2.length a2,.int .i64 q.1.f3,.int .i64 q.1.f4,.slice A5 q.1.f5.length a5,.slice A6 q.1.f6.length a6] (.slice (some ⟨gi,0,none⟩) (ids.length+1) ci) (ids.length+1) (encs (Value.int .i64) ids++[.int .i64 a.id]) (.slice (some ⟨gl,0,none⟩) (xs.length+1) cl) (xs.length+1) (lc++[.int .i64 q.1.f0,.int .i64 q.1.f1,.slice A2 q.1.f2.length a2,.int .i64 q.1.f3,.int .i64 q.1.f4,.slice A5 q.1.f5.length a5,.slice A6 q.1.f6.length a6]) none none W9∧wx=(W9.setCell ⟨w.heap.size+1,5,none⟩ (.slice (some ⟨gi,0,none⟩) (ids.length+1) ci)).setCell ⟨w.heap.size+1,6,none⟩ (.slice (some ⟨gl,0,none⟩) (xs.length+1) cl))
  case first =>
   refine start_ (n:=15) (S:=(fun W=>W.cell? ⟨w.heap.size+1,5,none⟩=some (.slice ii ids.length ic)∧W.cell? ⟨w.heap.size+1,6,none⟩=some (.slice ui xs.length uc)∧W.cell? ⟨W6.heap.size,0,none⟩=some (.int .i64 q.1.f0)∧W.cell? ⟨W6.heap.size,1,none⟩=some (.int .i64 q.1.f1)∧W.cell? ⟨W6.heap.size,2,none⟩=some (.slice A2 q.1.f2.length a2)∧W.cell? ⟨W6.heap.size,3,none⟩=some (.int .i64 q.1.f3)∧W.cell? ⟨W6.heap.size,4,none⟩=some (.int .i64 q.1.f4)∧W.cell? ⟨W6.heap.size,5,none⟩=some (.slice A5 q.1.f5.length a5)∧W.cell? ⟨W6.heap.size,6,none⟩=some (.slice A6 q.1.f6.length a6))) (ds:=[12,14]) #[false,false,false,false,false,false,false,false,false,false,false,false,false,false,false] (by kernel_rfl) rfl rfl (HCX.out _ (Step.refl _ _).drew) (fun hHeld=>?_)
   refine pure_ (i:=0) (N:=(some 61)) (v:=?_) (a':=?_) #[true,false,false,false,false,false,false,false,false,false,false,false,false,false,false] rfl rfl (by kernel_rfl) (fun _ _ _ h=>h) (Or.inl ⟨by rfl,?_⟩) ?_ ?_
   rotate_left
   · intro w'
     go_simp
     with_reducible rfl
   rotate_left
   · simp only [Act.put,List.setIfInBounds_toArray,List.set_cons_zero,List.set_cons_succ]
     rfl
   refine pure_ (i:=2) (N:=(some 63)) (v:=?_) (a':=?_) #[true,false,true,false,false,false,false,false,false,false,false,false,false,false,false] rfl rfl (by kernel_rfl) (fun _ _ _ h=>h) (Or.inl ⟨by rfl,?_⟩) ?_ ?_
   rotate_left
   · intro w'
     go_simp
     with_reducible rfl
   rotate_left
   · simp only [Act.put,List.setIfInBounds_toArray,List.set_cons_zero,List.set_cons_succ]
     rfl
   refine pure_ (i:=3) (N:=(some 64)) (v:=?_) (a':=?_) #[true,false,true,true,false,false,false,false,false,false,false,false,false,false,false] rfl rfl (by kernel_rfl) (fun _ _ _ h=>h) (Or.inl ⟨by rfl,?_⟩) ?_ ?_
   rotate_left
   · intro w'
     go_simp
     with_reducible rfl
   rotate_left
   · simp only [Act.put,List.setIfInBounds_toArray,List.set_cons_zero,List.set_cons_succ]
     rfl
   refine pure_ (i:=6) (N:=(some 67)) (v:=?_) (a':=?_) #[true,false,true,true,false,false,true,false,false,false,false,false,false,false,false] rfl rfl (by kernel_rfl) (fun _ _ _ h=>h) (Or.inl ⟨by rfl,?_⟩) ?_ ?_
   rotate_left
   · intro w'
     go_simp
     with_reducible rfl
   rotate_left
   · simp only [Act.put,List.setIfInBounds_toArray,List.set_cons_zero,List.set_cons_succ]
     rfl
   refine take_ (i:=1) (N:=(some 62)) (v:=?_) (a':=?_) #[true,true,true,true,false,false,true,false,false,false,false,false,false,false,false] rfl rfl (by kernel_rfl) (fun _ _ _ h=>h) (Or.inl ⟨by rfl,?_⟩) hHeld ?_ ?_
   rotate_left
   · rintro w' ⟨s0,s1,s2,s3,s4,s5,s6,s7,s8⟩
     go_simp
     with_reducible rfl
   rotate_left
   · simp only [Act.put,List.setIfInBounds_toArray,List.set_cons_zero,List.set_cons_succ]
     rfl
   refine take_ (i:=7) (N:=(some 68)) (v:=?_) (a':=?_) #[true,true,true,true,false,false,true,true,false,false,false,false,false,false,false] rfl rfl (by kernel_rfl) (fun _ _ _ h=>h) (Or.inl ⟨by rfl,?_⟩) hHeld ?_ ?_
   rotate_left
   · rintro w' ⟨s0,s1,s2,s3,s4,s5,s6,s7,s8⟩
     go_simp
     with_reducible rfl
   rotate_left
   · simp only [Act.put,List.setIfInBounds_toArray,List.set_cons_zero,List.set_cons_succ]
     rfl
   refine take_ (i:=8) (N:=(some 69)) (v:=?_) (a':=?_) #[true,true,true,true,false,false,true,true,true,false,false,false,false,false,false] rfl rfl (by kernel_rfl) (fun _ _ _ h=>h) (Or.inl ⟨by rfl,?_⟩) hHeld ?_ ?_
   rotate_left
   · rintro w' ⟨s0,s1,s2,s3,s4,s5,s6,s7,s8⟩
     go_simp
     with_reducible rfl
   rotate_left
   · simp only [Act.put,List.setIfInBounds_toArray,List.set_cons_zero,List.set_cons_succ]
     rfl
   refine join_ (σ:=(Nat × Nat) × (Nat × Nat) × (Nat × Nat)) 3 #[true,true,true,true,true,true,true,true,true,true,true,true,false,false,false] (fun s=>[(65,.slice (some ⟨s.2.2.1,0,none⟩) 1 1),(66,(.slice (some ⟨s.1.1,0,none⟩) (ids.length+1) s.1.2)),(70,.slice (some ⟨s.2.2.2,0,none⟩) 1 1),(71,(.slice (some ⟨s.2.1.1,0,none⟩) (xs.length+1) s.2.1.2)),(72,.pointer (some ⟨w.heap.size+1,5,none⟩))]) (fun s w9=>Two WB w.heap.size (.slice ii ids.length ic) (.slice ui xs.length uc) (.int .i64 a.id) [.int .i64 q.1.f0,.int .i64 q.1.f1,.slice A2 q.1.f2.length a2,.int .i64 q.1.f3,.int .i64 q.1.f4,.slice A5 q.1.f5.length a5,.slice A6 q.1.f6.length a6]  (.slice (some ⟨s.1.1,0,none⟩) (ids.length+1) s.1.2) (ids.length+1) (encs (Value.int .i64) ids++[.int .i64 a.id]) (.slice (some ⟨s.2.1.1,0,none⟩) (xs.length+1) s.2.1.2) (xs.length+1) (lc++[.int .i64 q.1.f0,.int .i64 q.1.f1,.slice A2 q.1.f2.length a2,.int .i64 q.1.f3,.int .i64 q.1.f4,.slice A5 q.1.f5.length a5,.slice A6 q.1.f6.length a6]) none none w9) ?cont (fun HCONT=>?_)
   case cont =>
    rintro ⟨⟨gi,ci⟩,⟨gl,cl⟩,⟨q1,q2⟩⟩ w9 hT9
    dsimp only at hT9 ⊢
    have hv9:=HVX.out _ hT9.st
    obtain ⟨k0,k1,k2,k3,k4,k5,k6⟩:=cells7 hv9
    have fz9:=frozen_heap hv9
    have lt9:=lt_heap hv9
    have HT9:=Lib.hid hT9
    clear hv9 hT9
    simp only [putAll,Act.put,List.setIfInBounds_toArray,List.set_cons_zero,List.set_cons_succ]
    refine last_ (i:=12) (N:=none) #[true,true,true,true,true,true,true,true,true,true,true,true,true,false,false] rfl rfl (by kernel_rfl) (by decide) (fun K hK=>?_)
    refine skip_ (w1:=w9.setCell ⟨w.heap.size+1,5,none⟩ (.slice (some ⟨gi,0,none⟩) (ids.length+1) ci)) (by rfl) rfl (by go_simp) ?_
    refine hK.out _ _ ?_
    clear hK K
    refine pure_ (i:=13) (N:=(some 73)) (v:=?_) (a':=?_) #[true,true,true,true,true,true,true,true,true,true,true,true,true,true,false] rfl rfl (by kernel_rfl) (fun _ _ _ h=>h) (Or.inl ⟨by rfl,?_⟩) ?_ ?_
    rotate_left
    · intro w'
      go_simp
      with_reducible rfl
    rotate_left
    · simp only [Act.put,List.setIfInBounds_toArray,List.set_cons_zero,List.set_cons_succ]
      rfl
    refine last_ (i:=14) (N:=none) #[true,true,true,true,true,true,true,true,true,true,true,true,true,true,true] rfl rfl (by kernel_rfl) (by decide) (fun K hK=>?_)
    refine skip_ (w1:=(w9.setCell ⟨w.heap.size+1,5,none⟩ (.slice (some ⟨gi,0,none⟩) (ids.length+1) ci)).setCell ⟨w.heap.size+1,6,none⟩ (.slice (some ⟨gl,0,none⟩) (xs.length+1) cl)) (by rfl) rfl (by go_simp) ?_
    refine hK.out _ _ ?_
    clear hK K
    refine done_ (by kernel_rfl) ?_
    go_wp2_with (fail)
    go_meet
    exact ⟨gi,ci,gl,cl,w9,rfl,rfl,HT9.out,rfl⟩
   refine two_ (i:=4) (j:=9) (Ni:=(some 65)) (Nj:=(some 70)) #[true,true,true,true,true,false,true,true,true,false,false,false,false,false,false] #[true,true,true,true,false,false,true,true,true,true,false,false,false,false,false] rfl rfl rfl rfl (by kernel_rfl) (by decide) (by decide) (fun K hK=>?_) (fun K hK=>?_)
   · have hdum:=()
     refine value_ (w1:=(WB.alloc (.cells #[.int .i64 a.id] 3)).drew) (v:=.slice (some ⟨WB.heap.size,0,none⟩) 1 1) (by rfl) rfl (by go_simp) ?_
     refine hK.out _ _ (HCX.out _ (HT.out.allocI (q:=WB.heap.size) (by simp)).drew.st) (fun hHeld=>?_)
     clear hK K
     refine norm_ (a':=?_) ?_ ?_
     rotate_left
     · show Act.put _ (some 65) _=_
       simp only [Act.put,List.setIfInBounds_toArray,List.set_cons_zero,List.set_cons_succ]
       rfl
     refine two_ (i:=5) (j:=9) (Ni:=(some 66)) (Nj:=(some 70)) #[true,true,true,true,true,true,true,true,true,false,false,false,false,false,false] #[true,true,true,true,true,false,true,true,true,true,false,false,false,false,false] rfl rfl rfl rfl (by kernel_rfl) (by decide) (by decide) (fun K hK=>?_) (fun K hK=>?_)
     · have hdum:=()
       apply Two.stepI (h:=(HT.out.allocI (q:=WB.heap.size) (by simp)).drew) (hn:=hnI) (hb:=hbB)
       · rfl
       · rfl
       · rfl
       · rfl
       · rfl
       intro gI cI wI hTI
       refine hK.out _ _ (HCX.out _ hTI.st) (fun hHeld=>?_)
       clear hK K
       refine norm_ (a':=?_) ?_ ?_
       rotate_left
       · show Act.put _ (some 66) _=_
         simp only [Act.put,List.setIfInBounds_toArray,List.set_cons_zero,List.set_cons_succ]
         rfl
       refine pure_ (i:=11) (N:=(some 72)) (v:=?_) (a':=?_) #[true,true,true,true,true,true,true,true,true,false,false,true,false,false,false] rfl rfl (by kernel_rfl) (fun _ _ _ h=>h) (Or.inl ⟨by rfl,?_⟩) ?_ ?_
       rotate_left
       · intro w'
         go_simp
         with_reducible rfl
       rotate_left
       · simp only [Act.put,List.setIfInBounds_toArray,List.set_cons_zero,List.set_cons_succ]
         rfl
       refine one_ (i:=9) (N:=(some 70)) #[true,true,true,true,true,true,true,true,true,true,false,true,false,false,false] rfl rfl (by kernel_rfl) (by decide) (fun K hK=>?_)
       refine value_ (w1:=(wI.alloc (.cells #[.int .i64 q.1.f0,.int .i64 q.1.f1,.slice A2 q.1.f2.length a2,.int .i64 q.1.f3,.int .i64 q.1.f4,.slice A5 q.1.f5.length a5,.slice A6 q.1.f6.length a6] 28))) (v:=.slice (some ⟨wI.heap.size,0,none⟩) 1 1) (by rfl) rfl (by go_simp) ?_
       refine hK.out _ _ (HCX.out _ (hTI.allocL (q:=wI.heap.size) (by simp)).st) (fun hHeld=>?_)
       clear hK K
       refine norm_ (a':=?_) ?_ ?_
       rotate_left
       · show Act.put _ (some 70) _=_
         simp only [Act.put,List.setIfInBounds_toArray,List.set_cons_zero,List.set_cons_succ]
         rfl
       refine one_ (i:=10) (N:=(some 71)) #[true,true,true,true,true,true,true,true,true,true,true,true,false,false,false] rfl rfl (by kernel_rfl) (by decide) (fun K hK=>?_)
       apply Two.stepL (h:=(hTI.allocL (q:=wI.heap.size) (by simp))) (hn:=hnL) (hb:=hbB)
       · rfl
       · rfl
       · rfl
       · rfl
       · rfl
       · exact hone _ _ _ _ _ _ _ _ _ _ _ _ _
       intro gL cL wL hTL
       refine hK.out _ _ (HCX.out _ hTL.st) (fun hHeld=>?_)
       clear hK K
       refine norm_ (a':=?_) ?_ ?_
       rotate_left
       · show Act.put _ (some 71) _=_
         simp only [Act.put,List.setIfInBounds_toArray,List.set_cons_zero,List.set_cons_succ]
         rfl
       have hh:=HCONT ((gI,cI),(gL,cL),(WB.heap.size,wI.heap.size)) _ hTL
       simp only [putAll,Act.put,List.setIfInBounds_toArray,List.set_cons_zero,List.set_cons_succ] at hh
       exact hh
     · have hdum:=()
       refine value_ (w1:=((WB.alloc (.cells #[.int .i64 a.id] 3)).alloc (.cells #[.int .i64 q.1.f0,.int .i64 q.1.f1,.slice A2 q.1.f2.length a2,.int .i64 q.1.f3,.int .i64 q.1.f4,.slice A5 q.1.f5.length a5,.slice A6 q.1.f6.length a6] 28)).drew) (v:=.slice (some ⟨WB.heap.size+1,0,none⟩) 1 1) (by rfl) rfl (by go_simp) ?_
       refine hK.out _ _ (HCX.out _ ((HT.out.allocI (q:=WB.heap.size) (by simp)).allocL (q:=WB.heap.size+1) (by simp)).drew.st) (fun hHeld=>?_)
       clear hK K
       refine norm_ (a':=?_) ?_ ?_
       rotate_left
       · show Act.put _ (some 70) _=_
         simp only [Act.put,List.setIfInBounds_toArray,List.set_cons_zero,List.set_cons_succ]
         rfl
       refine one_ (i:=5) (N:=(some 66)) #[true,true,true,true,true,true,true,true,true,true,false,false,false,false,false] rfl rfl (by kernel_rfl) (by decide) (fun K hK=>?_)
       apply Two.stepI (h:=((HT.out.allocI (q:=WB.heap.size) (by simp)).allocL (q:=WB.heap.size+1) (by simp)).drew) (hn:=hnI) (hb:=hbB)
       · rfl
       · rfl
       · rfl
       · rfl
       · rfl
       intro gI cI wI hTI
       refine hK.out _ _ (HCX.out _ hTI.st) (fun hHeld=>?_)
       clear hK K
       refine norm_ (a':=?_) ?_ ?_
       rotate_left
       · show Act.put _ (some 66) _=_
         simp only [Act.put,List.setIfInBounds_toArray,List.set_cons_zero,List.set_cons_succ]
         rfl
       refine pure_ (i:=11) (N:=(some 72)) (v:=?_) (a':=?_) #[true,true,true,true,true,true,true,true,true,true,false,true,false,false,false] rfl rfl (by kernel_rfl) (fun _ _ _ h=>h) (Or.inl ⟨by rfl,?_⟩) ?_ ?_
       rotate_left
       · intro w'
         go_simp
         with_reducible rfl
       rotate_left
       · simp only [Act.put,List.setIfInBounds_toArray,List.set_cons_zero,List.set_cons_succ]
         rfl
       refine one_ (i:=10) (N:=(some 71)) #[true,true,true,true,true,true,true,true,true,true,true,true,false,false,false] rfl rfl (by kernel_rfl) (by decide) (fun K hK=>?_)
       apply Two.stepL (h:=hTI) (hn:=hnL) (hb:=hbB)
       · rfl
       · rfl
       · rfl
       · rfl
       · rfl
       · exact hone _ _ _ _ _ _ _ _ _ _ _ _ _
       intro gL cL wL hTL
       refine hK.out _ _ (HCX.out _ hTL.st) (fun hHeld=>?_)
       clear hK K
       refine norm_ (a':=?_) ?_ ?_
       rotate_left
       · show Act.put _ (some 71) _=_
         simp only [Act.put,List.setIfInBounds_toArray,List.set_cons_zero,List.set_cons_succ]
         rfl
       have hh:=HCONT ((gI,cI),(gL,cL),(WB.heap.size,WB.heap.size+1)) _ hTL
       simp only [putAll,Act.put,List.setIfInBounds_toArray,List.set_cons_zero,List.set_cons_succ] at hh
       exact hh
   · have hdum:=()
     refine value_ (w1:=(WB.alloc (.cells #[.int .i64 q.1.f0,.int .i64 q.1.f1,.slice A2 q.1.f2.length a2,.int .i64 q.1.f3,.int .i64 q.1.f4,.slice A5 q.1.f5.length a5,.slice A6 q.1.f6.length a6] 28)).drew) (v:=.slice (some ⟨WB.heap.size,0,none⟩) 1 1) (by rfl) rfl (by go_simp) ?_
     refine hK.out _ _ (HCX.out _ (HT.out.allocL (q:=WB.heap.size) (by simp)).drew.st) (fun hHeld=>?_)
     clear hK K
     refine norm_ (a':=?_) ?_ ?_
     rotate_left
     · show Act.put _ (some 70) _=_
       simp only [Act.put,List.setIfInBounds_toArray,List.set_cons_zero,List.set_cons_succ]
       rfl
     refine one_ (i:=4) (N:=(some 65)) #[true,true,true,true,true,false,true,true,true,true,false,false,false,false,false] rfl rfl (by kernel_rfl) (by decide) (fun K hK=>?_)
     refine value_ (w1:=((WB.alloc (.cells #[.int .i64 q.1.f0,.int .i64 q.1.f1,.slice A2 q.1.f2.length a2,.int .i64 q.1.f3,.int .i64 q.1.f4,.slice A5 q.1.f5.length a5,.slice A6 q.1.f6.length a6] 28)).alloc (.cells #[.int .i64 a.id] 3)).drew) (v:=.slice (some ⟨WB.heap.size+1,0,none⟩) 1 1) (by rfl) rfl (by go_simp) ?_
     refine hK.out _ _ (HCX.out _ ((HT.out.allocL (q:=WB.heap.size) (by simp)).allocI (q:=WB.heap.size+1) (by simp)).drew.st) (fun hHeld=>?_)
     clear hK K
     refine norm_ (a':=?_) ?_ ?_
     rotate_left
     · show Act.put _ (some 65) _=_
       simp only [Act.put,List.setIfInBounds_toArray,List.set_cons_zero,List.set_cons_succ]
       rfl
     refine one_ (i:=5) (N:=(some 66)) #[true,true,true,true,true,true,true,true,true,true,false,false,false,false,false] rfl rfl (by kernel_rfl) (by decide) (fun K hK=>?_)
     apply Two.stepI (h:=((HT.out.allocL (q:=WB.heap.size) (by simp)).allocI (q:=WB.heap.size+1) (by simp)).drew) (hn:=hnI) (hb:=hbB)
     · rfl
     · rfl
     · rfl
     · rfl
     · rfl
     intro gI cI wI hTI
     refine hK.out _ _ (HCX.out _ hTI.st) (fun hHeld=>?_)
     clear hK K
     refine norm_ (a':=?_) ?_ ?_
     rotate_left
     · show Act.put _ (some 66) _=_
       simp only [Act.put,List.setIfInBounds_toArray,List.set_cons_zero,List.set_cons_succ]
       rfl
     refine pure_ (i:=11) (N:=(some 72)) (v:=?_) (a':=?_) #[true,true,true,true,true,true,true,true,true,true,false,true,false,false,false] rfl rfl (by kernel_rfl) (fun _ _ _ h=>h) (Or.inl ⟨by rfl,?_⟩) ?_ ?_
     rotate_left
     · intro w'
       go_simp
       with_reducible rfl
     rotate_left
     · simp only [Act.put,List.setIfInBounds_toArray,List.set_cons_zero,List.set_cons_succ]
       rfl
     refine one_ (i:=10) (N:=(some 71)) #[true,true,true,true,true,true,true,true,true,true,true,true,false,false,false] rfl rfl (by kernel_rfl) (by decide) (fun K hK=>?_)
     apply Two.stepL (h:=hTI) (hn:=hnL) (hb:=hbB)
     · rfl
     · rfl
     · rfl
     · rfl
     · rfl
     · exact hone _ _ _ _ _ _ _ _ _ _ _ _ _
     intro gL cL wL hTL
     refine hK.out _ _ (HCX.out _ hTL.st) (fun hHeld=>?_)
     clear hK K
     refine norm_ (a':=?_) ?_ ?_
     rotate_left
     · show Act.put _ (some 71) _=_
       simp only [Act.put,List.setIfInBounds_toArray,List.set_cons_zero,List.set_cons_succ]
       rfl
     have hh:=HCONT ((gI,cI),(gL,cL),(WB.heap.size+1,WB.heap.size)) _ hTL
     simp only [putAll,Act.put,List.setIfInBounds_toArray,List.set_cons_zero,List.set_cons_succ] at hh
     exact hh
  case rest =>
  obtain ⟨gi,ci,gl,cl,W9,rfl,rfl,hT9,rfl⟩:=hcut
  obtain ⟨W10,hW10⟩:∃ W10,W10=(W9.setCell ⟨w.heap.size+1,5,none⟩ (.slice (some ⟨gi,0,none⟩) (ids.length+1) ci)).setCell ⟨w.heap.size+1,6,none⟩ (.slice (some ⟨gl,0,none⟩) (xs.length+1) cl):=⟨_,rfl⟩
  obtain ⟨XB,hXB⟩:∃ XB,XB=(w.heap.size+1) :: ((Value.slice ii ids.length ic).ownBlock.toList++(Value.slice ui xs.length uc).ownBlock.toList):=⟨_,rfl⟩
  have hlB:=hT9.st.size
  have hsBq:=HSB.out
  have hv9:=HVX.out _ hT9.st
  have hr9:=(hT9.st.block w.heap.size (by omega) (fun hm=>by
   rcases List.mem_append.1 hm with h' | h'
   · have:=(HIOK.out _ (Option.mem_toList.1 h')).1;omega
   · have:=(HROK.out _ (Option.mem_toList.1 h')).1;omega)).trans HRB6.out
  have hv10:W10.heap[w.heap.size+1]?=some (.cells #[.int .i64 12,.int .i64 0,.slice none 0 0,.int .i64 0,.int .i64 0,.slice (some ⟨gi,0,none⟩) (ids.length+1) ci,.slice (some ⟨gl,0,none⟩) (xs.length+1) cl] 28 (0,0)):=by rw [hW10];exact (heap_set_same (o:=6) ((heap_set_same (o:=5) hv9 _).trans rfl) _).trans rfl
  have hst10:Step [w.heap.size+1] [w.heap.size+1] W9 W10:=by rw [hW10];exact ((Step.refl [w.heap.size+1] W9).setCell (p:=⟨w.heap.size+1,5,none⟩) (.inl (by simp)) _).setCell (p:=⟨w.heap.size+1,6,none⟩) (.inl (by simp)) _
  have hot10:∀ b,b≠w.heap.size+1→W10.heap[b]?=W9.heap[b]?:=fun b hb=>by rw [hW10,Below.heap_setCell _ _ _ _ (by show b≠w.heap.size+1;exact hb),Below.heap_setCell _ _ _ _ (by show b≠w.heap.size+1;exact hb)]
  have hsz10:W10.heap.size=W9.heap.size:=by rw [hW10];simp [World.setCell]
  have hr10:=(hot10 w.heap.size (by omega)).trans hr9
  rw [← hW10]
  clear hW10
  have hn6:w.heap.size∉S6∧w.heap.size+1∉S6:=⟨fun hm=>by
   rcases HS6.out.own _ hm with h' | h'
   · exact HN5.out.1 h'
   · omega,fun hm=>by
   rcases HS6.out.own _ hm with h' | h'
   · exact HN5.out.2 h'
   · omega⟩
  have hBX:Step XB XB WB W10:=(hT9.st.more (S1:=XB) (T1:=XB) (fun k hk=>by rw [hXB];exact List.mem_cons_of_mem _ hk) (fun k hk=>.inr (.inl hk))).trans (hst10.more (S1:=XB) (T1:=XB) (fun k hk=>by simp only [List.mem_cons,List.not_mem_nil,or_false] at hk;rw [hXB,hk];exact List.mem_cons_self) (fun k hk=>.inr (.inl hk)))
  have hOB:∀ b,b∈XB→w.heap.size≤b∧b∉S6:=fun b hb=>by
   rw [hXB] at hb
   rcases List.mem_cons.1 hb with rfl | hb
   · exact ⟨by omega,hn6.2⟩
   · rcases List.mem_append.1 hb with h' | h'
     · have h2:=HIOK.out _ (Option.mem_toList.1 h');exact ⟨by have:=h2.1;omega,h2.2⟩
     · have h2:=HROK.out _ (Option.mem_toList.1 h');exact ⟨by have:=h2.1;omega,h2.2.1⟩
  obtain ⟨hI10,hs10⟩:=gotV_end (HS5.out.trans HS6.out) HI6.out hOB ((HSTB.out.more (S1:=XB) (T1:=XB) (by simp) (fun k hk=>.inr (.inl hk))).trans hBX)
  have hE10:IsErrG q.2.1 ev6 W10:=(HE6.out.step_at HSTB.out (fun b hb=>by simp at hb)).step_at hBX (fun b hb=>by
   rw [hXB] at hb
   rcases List.mem_cons.1 hb with rfl | hb
   · exact ⟨_,_,_,HVB6.out,by decide⟩
   · rcases List.mem_append.1 hb with h' | h'
     · obtain ⟨cells,hcc⟩:=own_typed HT.out.ri b (Option.mem_toList.1 h')
       exact ⟨_,_,_,hcc,by decide⟩
     · obtain ⟨cells,hcc⟩:=own_typed HT.out.rl b (Option.mem_toList.1 h')
       exact ⟨_,_,_,hcc,by decide⟩)
  have hro9:=RowO.two (ic:=[]) (lc1:=[]) (ok:=fun b=>w.heap.size+1 < b∧b∉S6∧b≠GB) HROK.out HREPS.out HXA.out (fun k hk e=>hk.2.2 (HGB5.out.1 k e)) (fun k hk=>⟨by omega,fun hm=>by have:=P.lt HI6.out _ hm;omega,by have:=HGB5.out.2;omega⟩) hT9
  have hro10:RowO (fun b=>w.heap.size+1 < b∧b∉S6∧b≠gi) W10 w.heap.size (.slice (some ⟨gl,0,none⟩) (xs.length+1) cl) (xs++[q.1]):=(hro9.mono (ok':=fun b=>w.heap.size+1 < b∧b∉S6∧b≠gi) (fun b hb _=>⟨hb.1.1,hb.1.2.1,fun e=>hb.2 (by rw [e];rfl)⟩)).move (fun b hb hl=>hot10 b (by have:=hb.1;omega)) (by omega)
  have hri10:RowI (fun b=>w.heap.size+1 < b∧b∉S6) W10 w.heap.size (.slice (some ⟨gi,0,none⟩) (ids.length+1) ci) (ids++[a.id]):=RowI.move (w:=W9) ⟨fun k hk=>by
   rcases hT9.oi k hk with h' | h'
   · exact HIOK.out k h'
   · exact ⟨by omega,fun hm=>by have:=P.lt HI6.out _ hm;omega⟩,by
   have h1:=hT9.ri
   have e1:(ids++[a.id]).length=ids.length+1:=by simp
   have e2:encs (Value.int .i64) (ids++[a.id])=encs (Value.int .i64) ids++[.int .i64 a.id]:=by simp [encs]
   rw [e1,e2]
   exact h1⟩ (fun b hb hl=>hot10 b (by have:=hb.1;omega))
  have hgi:gi < W10.heap.size:=own_lt hri10.2 gi rfl
  have hnx:=HQ2.out
  have HI10:=Lib.hid hI10
  have HS10:=Lib.hid hs10
  have HE10:=Lib.hid hE10
  have HRO10:=Lib.hid hro10
  have HRI10:=Lib.hid hri10
  have HV10:=Lib.hid hv10
  have HR10:=Lib.hid hr10
  have HN6:=Lib.hid hn6
  have HNX:=Lib.hid hnx
  obtain ⟨c0,c1,c2,c3,c4,c5,c6⟩:=cells7 hv10
  obtain ⟨d0,d1,d2,d3,d4,d5,d6⟩:=cells7 hr10
  have hfr:=frozen_heap hr10
  have hfz:=frozen_heap hv10
  have hlv10:=lt_heap hv10
  have hlr10:=lt_heap hr10
  clear hv9 hr9 hv10 hr10 hst10 hot10 hBX hOB hXB hro9 hro10 hri10 hI10 hs10 hnx hn6 hT9 HT HCX HVX HVB6 HRB6 HROK HIOK HREPS HXA HSTB HUB HIB hone hwid hwid2 hlv6 hlr6 hls6 hlv5 hlr5 hls5 HQ2 HGC HO6 HE6 HI6 HV6 HR6 HRO5 HRI5 HGB5 HV5 HR5 HN5 HQ HSB
  rcases hE10 with (⟨h0,rfl⟩ | ⟨bb,tt,er,ms,hk1,hk2,rfl,hbb⟩) | ⟨hk1,hk2,rfl⟩
  case inr =>
   have hrr:=HNX.out
   rw [if_neg (by omega)] at hrr
   injection hrr with hrr
   subst hrr
   go_wp2
   obtain ⟨W6,e2,h6,hs6⟩:=set7 HR10.out (.int .i64 12) (.int .i64 0) (.slice none 0 0) (.int .i64 0) (.int .i64 0) (.slice (some ⟨gi,0,none⟩) (ids.length+1) ci) (.slice (some ⟨gl,0,none⟩) (xs.length+1) cl)
   rw [e2]
   obtain ⟨r0,r1,r2,r3,r4,r5,r6⟩:=cells7 h6
   refine bodyPost_ret (v:=.tuple #[.agg #[.int .i64 12,.int .i64 0,.slice none 0 0,.int .i64 0,.int .i64 0,.slice (some ⟨gi,0,none⟩) (ids.length+1) ci,.slice (some ⟨gl,0,none⟩) (xs.length+1) cl],.iface 157 (.int .i64 (q.2.1:Nat))]) (by simp [results,Tryz.results74,go_sem, *]) rfl ?_
   obtain ⟨hI6,hs66⟩:=gotV_end (HS10.out) HI10.out (fun b hb=>by
    simp only [List.mem_cons,List.not_mem_nil,or_false] at hb
    subst hb
    exact ⟨by omega,HN6.out.1⟩) hs6
   have hval:=HasO.move (RowO.valI (n:=w.heap.size+1) (GB:=gi) HRO10.out HRI10.out) (w1:=W6) (fun b hb hlt2=>hs6.block b hlt2 (by simp only [List.mem_cons,List.not_mem_nil,or_false];have:=hb.1;omega)) hs6.size
   exact ⟨_,[.int .i64 12,.int .i64 0,.slice none 0 0,.int .i64 0,.int .i64 0,.slice (some ⟨gi,0,none⟩) (ids.length+1) ci,.slice (some ⟨gl,0,none⟩) (xs.length+1) cl],_,rfl,hval.mono (fun b hb _=>⟨by have:=hb.1;omega,hb.2⟩),IsErrG.step_at (HE10.out) hs6 (fun b hb=>by
    simp only [List.mem_cons,List.not_mem_nil,or_false] at hb
    subst hb
    exact ⟨_,_,_,HR10.out,by decide⟩),hI6,hs66⟩
  case inl.inr =>
   have hrr:=HNX.out
   rw [if_neg (by omega)] at hrr
   injection hrr with hrr
   subst hrr
   go_wp2
   obtain ⟨W6,e2,h6,hs6⟩:=set7 HR10.out (.int .i64 12) (.int .i64 0) (.slice none 0 0) (.int .i64 0) (.int .i64 0) (.slice (some ⟨gi,0,none⟩) (ids.length+1) ci) (.slice (some ⟨gl,0,none⟩) (xs.length+1) cl)
   rw [e2]
   obtain ⟨r0,r1,r2,r3,r4,r5,r6⟩:=cells7 h6
   refine bodyPost_ret (v:=.tuple #[.agg #[.int .i64 12,.int .i64 0,.slice none 0 0,.int .i64 0,.int .i64 0,.slice (some ⟨gi,0,none⟩) (ids.length+1) ci,.slice (some ⟨gl,0,none⟩) (xs.length+1) cl],.iface 235 (.pointer (some ⟨bb,0,none⟩))]) (by simp [results,Tryz.results74,go_sem, *]) rfl ?_
   obtain ⟨hI6,hs66⟩:=gotV_end (HS10.out) HI10.out (fun b hb=>by
    simp only [List.mem_cons,List.not_mem_nil,or_false] at hb
    subst hb
    exact ⟨by omega,HN6.out.1⟩) hs6
   have hval:=HasO.move (RowO.valI (n:=w.heap.size+1) (GB:=gi) HRO10.out HRI10.out) (w1:=W6) (fun b hb hlt2=>hs6.block b hlt2 (by simp only [List.mem_cons,List.not_mem_nil,or_false];have:=hb.1;omega)) hs6.size
   exact ⟨_,[.int .i64 12,.int .i64 0,.slice none 0 0,.int .i64 0,.int .i64 0,.slice (some ⟨gi,0,none⟩) (ids.length+1) ci,.slice (some ⟨gl,0,none⟩) (xs.length+1) cl],_,rfl,hval.mono (fun b hb _=>⟨by have:=hb.1;omega,hb.2⟩),IsErrG.step_at (HE10.out) hs6 (fun b hb=>by
    simp only [List.mem_cons,List.not_mem_nil,or_false] at hb
    subst hb
    exact ⟨_,_,_,HR10.out,by decide⟩),hI6,hs66⟩
  case inl.inl =>
  clear HE10
  have hrr:=HNX.out
  rw [if_pos h0,Option.bind_eq_some_iff] at hrr
  obtain ⟨b,hb1,hb2⟩:=hrr
  have HB2:=Lib.hid hb2
  have HO11:=Lib.hid (show ∀ W,Step [] [] W10 W→Calls Tryz.prog (P.fn "ReadFieldEnd") #[P.ptr,ctxV] W (TellsV P.Is (fun ev=>ev) b.2.1 b.2.2 S6 W) from fun W hW=>P.at_ HI10.out hb1 W hW)
  clear hb1 hb2 HNX
  go_upto_region 14 with (fail)
  go_cut [14] (fun u14 wx=>∃ S7,IsErr b.2.1 u14 wx∧P.Is S7 b.2.2 wx∧Step S6 S7 W10 wx)
  case first =>
   go_region_held3 (fun _=>True) (trivial)
    (first
     | (go_at_call 53;refine (hc _).mono ?_;rintro e w' ⟨rfl,rfl⟩)
     | ((with_reducible refine (HO11.out _ ?_).mono ?_);(with_reducible exact (Step.refl [] W10).drew);rintro e W7 ⟨ev7,S7,rfl,he7,hI7,hs7⟩;replace hs7:=(Step.refl S6 W10).drew.trans hs7))
   all_goals (go_wp2_with (fail);go_meet;exact ⟨_,he7,hI7,hs7⟩)
  case rest =>
  obtain ⟨S7,he7,hI7,hs7⟩:=hcut
  have hv7:=(hs7.block _ hlv10 HN6.out.2).trans HV10.out
  have hr7:=(hs7.block _ hlr10 HN6.out.1).trans HR10.out
  have hn7:w.heap.size∉S7∧w.heap.size+1∉S7:=⟨fun hm=>by
   rcases hs7.own _ hm with h' | h'
   · exact HN6.out.1 h'
   · omega,fun hm=>by
   rcases hs7.own _ hm with h' | h'
   · exact HN6.out.2 h'
   · omega⟩
  have HRO7:=Lib.hid (HRO10.out.step hs7)
  have HRI7:=Lib.hid (HRI10.out.step hs7)
  have HS7:=Lib.hid (HS10.out.trans hs7)
  have hlg7:=Nat.lt_of_lt_of_le hgi hs7.size
  have HI7:=Lib.hid hI7
  have HV7:=Lib.hid hv7
  have HR7:=Lib.hid hr7
  have HN7:=Lib.hid hn7
  have HE7:=Lib.hid he7
  clear c0 c1 c2 c3 c4 c5 c6 d0 d1 d2 d3 d4 d5 d6 hfr hfz
  obtain ⟨c0,c1,c2,c3,c4,c5,c6⟩:=cells7 hv7
  obtain ⟨d0,d1,d2,d3,d4,d5,d6⟩:=cells7 hr7
  have hfr:=frozen_heap hr7
  have hfz:=frozen_heap hv7
  have hlv7:=lt_heap hv7
  have hlr7:=lt_heap hr7
  clear hI7 hs7 hv7 hr7 hn7 HRO10 HRI10 HS10 HI10 HV10 HR10 HN6 HO11 hlv10 hlr10 hgi
  rcases he7 with ⟨h7,rfl⟩ | ⟨bb,tt,er,ms,hk1,hk2,rfl,hbb⟩
  case inr =>
   have hrr:=HB2.out
   rw [if_neg (by omega)] at hrr
   injection hrr with hrr
   subst hrr
   go_wp2
   obtain ⟨W6,e2,h6,hs6⟩:=set7 HR7.out (.int .i64 12) (.int .i64 0) (.slice none 0 0) (.int .i64 0) (.int .i64 0) (.slice (some ⟨gi,0,none⟩) (ids.length+1) ci) (.slice (some ⟨gl,0,none⟩) (xs.length+1) cl)
   rw [e2]
   obtain ⟨r0,r1,r2,r3,r4,r5,r6⟩:=cells7 h6
   refine bodyPost_ret (v:=.tuple #[.agg #[.int .i64 12,.int .i64 0,.slice none 0 0,.int .i64 0,.int .i64 0,.slice (some ⟨gi,0,none⟩) (ids.length+1) ci,.slice (some ⟨gl,0,none⟩) (xs.length+1) cl],.iface 235 (.pointer (some ⟨bb,0,none⟩))]) (by simp [results,Tryz.results74,go_sem, *]) rfl ?_
   obtain ⟨hI6,hs66⟩:=gotV_end (HS7.out) HI7.out (fun b hb=>by
    simp only [List.mem_cons,List.not_mem_nil,or_false] at hb
    subst hb
    exact ⟨by omega,HN7.out.1⟩) hs6
   have hval:=HasO.move (RowO.valI (n:=w.heap.size+1) (GB:=gi) HRO7.out HRI7.out) (w1:=W6) (fun b hb hlt2=>hs6.block b hlt2 (by simp only [List.mem_cons,List.not_mem_nil,or_false];have:=hb.1;omega)) hs6.size
   exact ⟨_,[.int .i64 12,.int .i64 0,.slice none 0 0,.int .i64 0,.int .i64 0,.slice (some ⟨gi,0,none⟩) (ids.length+1) ci,.slice (some ⟨gl,0,none⟩) (xs.length+1) cl],_,rfl,hval.mono (fun b hb _=>⟨by have:=hb.1;omega,hb.2⟩),IsErrG.step_at (Or.inl HE7.out) hs6 (fun b hb=>by
    simp only [List.mem_cons,List.not_mem_nil,or_false] at hb
    subst hb
    exact ⟨_,_,_,HR7.out,by decide⟩),hI6,hs66⟩
  case inl =>
  have hnx:=(if_pos h7).symm.trans HB2.out
  have HNX:=Lib.hid hnx
  clear hnx HB2 HE7
  go_wp2_with (fail)
  go_roundg gn
  case measure=>omega
  case rel=>exact ⟨S7,b.2.2,ids++[a.id],xs++[q.1],_,_,gi,Lib.hid ⟨by simp;omega,by simp;omega⟩,HNX,HI7,HS7,Lib.hid ⟨fun k hk=>by injection hk with hk;exact hk.symm,hlg7⟩,HRI7,HRO7,HV7,HR7,HN7⟩

end Go.Proofs.YtmjcnomgpikncaaGreatDoor

namespace Go.Proofs.YtmjcnomgpikncaaGreatDoor

open Go.RowKit Go.Deep



open Go.Proofs.YtmjcnomgpikncaaGreatDoorW.PrintWords

set_option maxRecDepth 100000 in
set_option maxHeartbeats 2000000 in
theorem get_struct (P:PR) (D:Int) (hD:1≤D∧D < 9223372036854775808) {S:List Nat} {s:P.σ} {w:World} (h:P.Is S s w) {r:Val × Nat × P.σ}
    (hc:∀ W,Step [] [] w W→Calls Tryz.prog 74 #[.iface P.ty P.ptr,.int .i64 D] W (GotV P r S W)) :
    Calls Tryz.prog 49 #[.iface P.ty P.ptr,.int .u8 12,.int .i64 D] w (GotV P r S w):=by
  have HC:=Lib.hid hc
  have HF:=Lib.hid (P.lt h)
  clear hc h
  go_enter Tryz.func49,Tryz.ntmps49
  go_wp2_with (fail)
  refine (HC.out _ ((((Step.refl [] w).alloc _).alloc _).alloc _)).mono ?_
  rintro e W1 ⟨ev,cs,S1,rfl,hO,hE,hI,hs⟩
  obtain ⟨A2,a2,A5,a5,A6,a6,rfl,-⟩:=kVal_open hO.now
  have hbr:=(hs.block w.heap.size (by simp <;> omega) (fun hm=>by have:=HF.out _ hm;omega)).trans (heap_alloc_old (heap_alloc_old (heap_alloc_new w _) _) _)
  obtain ⟨d0,d1,d2,d3,d4,d5,d6⟩:=cells7 hbr
  have hfr:=frozen_heap hbr
  have hlr:=lt_heap hbr
  have HBR:=Lib.hid hbr
  have HO:=Lib.hid hO
  have HE:=Lib.hid hE
  have HI:=Lib.hid hI
  have HS:=Lib.hid hs
  clear hbr hO hE hI hs
  go_wp2
  obtain ⟨W6,e2,h6,hs6⟩:=set7 HBR.out (.int .i64 r.1.f0) (.int .i64 r.1.f1) (.slice A2 r.1.f2.length a2) (.int .i64 r.1.f3) (.int .i64 r.1.f4) (.slice A5 r.1.f5.length a5) (.slice A6 r.1.f6.length a6)
  rw [e2]
  obtain ⟨r0,r1,r2,r3,r4,r5,r6⟩:=cells7 h6
  refine bodyPost_ret (v:=.tuple #[.agg #[.int .i64 r.1.f0,.int .i64 r.1.f1,.slice A2 r.1.f2.length a2,.int .i64 r.1.f3,.int .i64 r.1.f4,.slice A5 r.1.f5.length a5,.slice A6 r.1.f6.length a6],ev]) (by simp [results,Tryz.results49,go_sem, *]) rfl ?_
  obtain ⟨hI6,hs66⟩:=gotV_end (((((Step.refl S w).alloc _).alloc _).alloc _).trans HS.out) HI.out (fun b hb=>by
    simp only [List.mem_cons,List.not_mem_nil,or_false] at hb
    subst hb
    refine ⟨Nat.le_refl _,fun hm=>?_⟩
    rcases HS.out.own _ hm with h1 | h1
    · have:=HF.out _ h1;omega
    · simp at h1;omega) hs6
  have hO6:=HO.out.move (w1:=W6) (fun b hb hlt=>hs6.block b hlt (by simp only [List.mem_cons,List.not_mem_nil,or_false];have:=hb.1;simp at this;omega)) hs6.size
  exact ⟨_,[.int .i64 r.1.f0,.int .i64 r.1.f1,.slice A2 r.1.f2.length a2,.int .i64 r.1.f3,.int .i64 r.1.f4,.slice A5 r.1.f5.length a5,.slice A6 r.1.f6.length a6],S1,rfl,hO6.mono (fun b hb _=>⟨by have:=hb.1;simp at this;omega,hb.2⟩),HE.out.step_at hs6 (fun b hb=>by
    simp only [List.mem_cons,List.not_mem_nil,or_false] at hb
    subst hb
    exact ⟨_,_,_,HBR.out,by decide⟩),hI6,hs66⟩

theorem blank (P:PR) {S:List Nat} {s:P.σ} {w:World} (h:P.Is S s w) (t:Int) (k:Nat) (hk:50≤k∧k≤54) {o1 o2:Obj}:GotV P (⟨t,0,[],0,0,[],[]⟩,k,s) S w (.returned (.tuple #[.agg #[.int .i64 t,.int .i64 0,.slice none 0 0,.int .i64 0,.int .i64 0,.slice none 0 0,.slice none 0 0],.iface 157 (.int .i64 (k:Nat))])) ((w.alloc o1).alloc o2) :=
  ⟨_,[.int .i64 t,.int .i64 0,.slice none 0 0,.int .i64 0,.int .i64 0,.slice none 0 0,.slice none 0 0],S,rfl,(RowO.nil _ _ 0).val t 0 0,.inr ⟨hk.1,hk.2,rfl⟩,P.step h (((Step.refl [] w).alloc _).alloc _) (by simp),((Step.refl S w).alloc _).alloc _⟩

set_option maxRecDepth 100000 in
set_option maxHeartbeats 2000000 in
theorem get_deep (P:PR) (D t:Int) (hD:-9223372036854775808≤D∧D≤0) (ht:0≤t∧t < 256) {S:List Nat} {s:P.σ} {w:World} (h:P.Is S s w) :
    Calls Tryz.prog 49 #[.iface P.ty P.ptr,.int .u8 t,.int .i64 D] w (GotV P (⟨t,0,[],0,0,[],[]⟩,50,s) S w):=by
  have HI:=Lib.hid h
  have hwt:IntKind.i64.wrap t=t:=by rw [IntKind.wrap_i64];omega
  clear h
  go_enter Tryz.func49,Tryz.ntmps49
  go_wp2
  obtain ⟨r0,r1,r2,r3,r4,r5,r6⟩:=cells7 (heap_alloc_old (heap_alloc_new w (.cells #[.int .i64 t,.int .i64 0,.slice none 0 0,.int .i64 0,.int .i64 0,.slice none 0 0,.slice none 0 0] 28)) (.cells #[.int .i64 t,.int .i64 0,.slice none 0 0,.int .i64 0,.int .i64 0,.slice none 0 0,.slice none 0 0] 28))
  refine bodyPost_ret (v:=.tuple #[.agg #[.int .i64 t,.int .i64 0,.slice none 0 0,.int .i64 0,.int .i64 0,.slice none 0 0,.slice none 0 0],.iface 157 (.int .i64 50)]) (by simp [results,Tryz.results49,go_sem, *]) rfl ?_
  exact blank P HI.out t 50 ⟨by omega,by omega⟩

set_option maxRecDepth 100000 in
set_option maxHeartbeats 2000000 in
theorem get_no (P:PR) (D t:Int) (hD:1≤D∧D < 9223372036854775808) (ht:0≤t∧t < 256) (hn:ropOf t=none) (h4:¬ t=12∧¬ t=13∧¬ t=14∧¬ t=15) {S:List Nat} {s:P.σ} {w:World} (h:P.Is S s w) :
    Calls Tryz.prog 49 #[.iface P.ty P.ptr,.int .u8 t,.int .i64 D] w (GotV P (⟨t,0,[],0,0,[],[]⟩,51,s) S w):=by
  have HI:=Lib.hid h
  have hwt:IntKind.i64.wrap t=t:=by rw [IntKind.wrap_i64];omega
  have n2:¬ t=2:=by rintro rfl;simp [ropOf] at hn
  have n3:¬ t=3:=by rintro rfl;simp [ropOf] at hn
  have n4:¬ t=4:=by rintro rfl;simp [ropOf] at hn
  have n6:¬ t=6:=by rintro rfl;simp [ropOf] at hn
  have n8:¬ t=8:=by rintro rfl;simp [ropOf] at hn
  have n10:¬ t=10:=by rintro rfl;simp [ropOf] at hn
  have n11:¬ t=11:=by rintro rfl;simp [ropOf] at hn
  have n16:¬ t=16:=by rintro rfl;simp [ropOf] at hn
  obtain ⟨n12,n13,n14,n15⟩:=h4
  have hD0:¬ D≤0:=by omega
  clear h hn
  go_enter Tryz.func49,Tryz.ntmps49
  go_wp2
  obtain ⟨Wg,hWg⟩:∃ Wg,Wg=((w.alloc (.cells #[.int .i64 0,.int .i64 0,.slice none 0 0,.int .i64 0,.int .i64 0,.slice none 0 0,.slice none 0 0] 28)).alloc (.cells #[.int .i64 t,.int .i64 0,.slice none 0 0,.int .i64 0,.int .i64 0,.slice none 0 0,.slice none 0 0] 28)).alloc (.cells #[.int .i64 0,.int .i64 0,.int .i64 0,.int .i64 0,.int .i64 0,.int .i64 0,.slice none 0 0] 49):=⟨_,rfl⟩
  have hr2:Wg.heap[w.heap.size]?=some (.cells #[.int .i64 0,.int .i64 0,.slice none 0 0,.int .i64 0,.int .i64 0,.slice none 0 0,.slice none 0 0] 28 (0,0)):=by rw [hWg];exact heap_alloc_old (heap_alloc_old (heap_alloc_new w _) _) _
  have hv2:Wg.heap[w.heap.size+1]?=some (.cells #[.int .i64 t,.int .i64 0,.slice none 0 0,.int .i64 0,.int .i64 0,.slice none 0 0,.slice none 0 0] 28 (0,0)):=by rw [hWg];exact heap_alloc_old (heap_alloc_at (by simp) _) _
  have hg:Wg.heap[w.heap.size+1+1]?=some (.cells #[.int .i64 0,.int .i64 0,.int .i64 0,.int .i64 0,.int .i64 0,.int .i64 0,.slice none 0 0] 49 (0,0)):=by rw [hWg];exact heap_alloc_at (by simp) _
  have hsw:Step [] [] w Wg:=by rw [hWg];exact (((Step.refl [] w).alloc _).alloc _).alloc _
  rw [← hWg]
  clear hWg
  obtain ⟨d0,d1,d2,d3,d4,d5,d6⟩:=cells7 hr2
  obtain ⟨c0,c1,c2,c3,c4,c5,c6⟩:=cells7 hv2
  obtain ⟨b0,b1,b2,b3,b4,b5,b6⟩:=cells7 hg
  have hfv:=frozen_heap hv2
  have hfr:=frozen_heap hr2
  have hlr:=lt_heap hr2
  have HR2:=Lib.hid hr2
  have HSW:=Lib.hid hsw
  have HF:=Lib.hid (P.lt HI.out)
  clear hv2 hr2 hg hsw
  go_region_held3 (fun W'=>W'.cell? ⟨w.heap.size+1+1,5,none⟩=some (.int .i64 0)∧W'.cell? ⟨w.heap.size+1+1,6,none⟩=some (.slice none 0 0)) (first | exact ⟨b5,b6⟩ | (simp [go_sem, *];done))
    (fail)
  all_goals go_wp2
  all_goals (
    obtain ⟨W6,e2,h6,hs6⟩:=set7 (heap_set_other (p:=⟨w.heap.size+1,2,none⟩) (heap_set_other (p:=⟨w.heap.size+1,1,none⟩) HR2.out (by show w.heap.size≠w.heap.size+1;omega) (.int .i64 0)) (by show w.heap.size≠w.heap.size+1;omega) (.slice none 0 0)) (.int .i64 t) (.int .i64 0) (.slice none 0 0) (.int .i64 0) (.int .i64 0) (.slice none 0 0) (.slice none 0 0)
    rw [e2]
    have h7:W6.drew.heap[w.heap.size]?=some (.cells #[.int .i64 t,.int .i64 0,.slice none 0 0,.int .i64 0,.int .i64 0,.slice none 0 0,.slice none 0 0] 28 (0,0)):=h6
    obtain ⟨r0,r1,r2,r3,r4,r5,r6⟩:=cells7 h7
    refine bodyPost_ret (v:=.tuple #[.agg #[.int .i64 t,.int .i64 0,.slice none 0 0,.int .i64 0,.int .i64 0,.slice none 0 0,.slice none 0 0],.iface 157 (.int .i64 51)]) (by simp [results,Tryz.results49,go_sem, *]) rfl ?_
    have hs16:Step [w.heap.size,w.heap.size+1] [w.heap.size,w.heap.size+1] w W6.drew:=(((HSW.out.more (S1:=[w.heap.size,w.heap.size+1]) (T1:=[w.heap.size,w.heap.size+1]) (by simp) (fun k hk=>.inr (.inl hk))).setCell (p:=⟨w.heap.size+1,1,none⟩) (.inl (by simp)) _).setCell (p:=⟨w.heap.size+1,2,none⟩) (.inl (by simp)) _).trans ((hs6.more (S1:=[w.heap.size,w.heap.size+1]) (T1:=[w.heap.size,w.heap.size+1]) (by simp) (fun k hk=>.inr (.inl hk))).drew)
    exact ⟨_,[.int .i64 t,.int .i64 0,.slice none 0 0,.int .i64 0,.int .i64 0,.slice none 0 0,.slice none 0 0],S,rfl,(RowO.nil _ _ 0).val t 0 0,.inr ⟨by show 50≤51;omega,by show 51≤54;omega,rfl⟩,P.step HI.out hs16 (fun k hk hm=>by
      have:=HF.out k hk
      simp only [List.mem_cons,List.not_mem_nil,or_false] at hm
      omega),(Step.refl S w).fresh hs16 (fun k hk=>by
      simp only [List.mem_cons,List.not_mem_nil,or_false] at hk
      omega)⟩)

end Go.Proofs.YtmjcnomgpikncaaGreatDoor

namespace Go.Proofs.YtmjcnomgpikncaaGreatDoor

open Go.RowKit Go.Deep



open Go.Proofs.YtmjcnomgpikncaaGreatDoorW.PrintWords

theorem leaf_got (P:PR) {t:Int} {o:ROp} (ho:ropOf t=some o) (D:Int) (hD:1≤D∧D < 9223372036854775808) {S:List Nat} {s:P.σ} {w:World} (h:P.Is S s w) {g:RGot} {k:Nat} {s1:P.σ} (hr:P.run s o=some (g,k,s1)) :
    Calls Tryz.prog 49 #[.iface P.ty P.ptr,.int .u8 t,.int .i64 D] w (GotV P (⟨t,if t=11∨t=16 then 0 else g.n,if t=11∨t=16 then ints g.s else [],0,0,[],[]⟩,k,s1) S w):=by
  unfold ropOf at ho
  by_cases h2:t=2
  · subst h2
    rw [if_pos rfl] at ho
    injection ho with ho
    subst ho
    exact get_leaf P 2 13 (by omega) D hD h (g:={ n:=g.n }) (fun W hW=>(read_bool P _ _ _ _ _ _ (P.step h hW (by simp)) hr).mono fun _ _ h=>TellsV.num h)
  rw [if_neg h2] at ho
  by_cases h3:t=3
  · subst h3
    rw [if_pos rfl] at ho
    injection ho with ho
    subst ho
    exact get_leaf P 3 14 (by omega) D hD h (g:={ n:=g.n }) (fun W hW=>(read_byte P _ _ _ _ _ _ (P.step h hW (by simp)) hr).mono fun _ _ h=>TellsV.num h)
  rw [if_neg h3] at ho
  by_cases h4:t=4
  · subst h4
    rw [if_pos rfl] at ho
    injection ho with ho
    subst ho
    exact get_leaf P 4 18 (by omega) D hD h (g:={ n:=g.n }) (fun W hW=>(read_dbl P _ _ _ _ _ _ (P.step h hW (by simp)) hr).mono fun _ _ h=>TellsV.num h)
  rw [if_neg h4] at ho
  by_cases h6:t=6
  · subst h6
    rw [if_pos rfl] at ho
    injection ho with ho
    subst ho
    exact get_leaf P 6 15 (by omega) D hD h (g:={ n:=g.n }) (fun W hW=>(read_i16 P _ _ _ _ _ _ (P.step h hW (by simp)) hr).mono fun _ _ h=>TellsV.num h)
  rw [if_neg h6] at ho
  by_cases h8:t=8
  · subst h8
    rw [if_pos rfl] at ho
    injection ho with ho
    subst ho
    exact get_leaf P 8 16 (by omega) D hD h (g:={ n:=g.n }) (fun W hW=>(read_i32 P _ _ _ _ _ _ (P.step h hW (by simp)) hr).mono fun _ _ h=>TellsV.num h)
  rw [if_neg h8] at ho
  by_cases h10:t=10
  · subst h10
    rw [if_pos rfl] at ho
    injection ho with ho
    subst ho
    exact get_leaf P 10 17 (by omega) D hD h (g:={ n:=g.n }) (fun W hW=>(read_i64 P _ _ _ _ _ _ (P.step h hW (by simp)) hr).mono fun _ _ h=>TellsV.num h)
  rw [if_neg h10] at ho
  by_cases h11:t=11
  · subst h11
    rw [if_pos rfl] at ho
    injection ho with ho
    subst ho
    exact get_leaf P 11 19 (by omega) D hD h (g:={ s:=g.s }) (fun W hW=>read_str P _ _ _ _ _ _ (P.step h hW (by simp)) hr)
  rw [if_neg h11] at ho
  by_cases h16:t=16
  · subst h16
    rw [if_pos rfl] at ho
    injection ho with ho
    subst ho
    exact get_leaf P 16 21 (by omega) D hD h (g:={ s:=g.s }) (fun W hW=>read_uuid P _ _ _ _ _ _ (P.step h hW (by simp)) hr)
  rw [if_neg h16] at ho
  cases ho

theorem get_any (P:PR):∀ (f:Nat) (D:Int),f < 900000000→-9223372036854775807≤D→D < 9223372036854775808→Gets P (getV P.run f D) D
  | 0,D,hf,h0,h1=>fun S s w t hI ht0 ht1 r hr=>by simp [getV] at hr
  | f+1,D,hf,h0,h1=>fun S s w t hI ht0 ht1 r hr=>by
    rw [getV] at hr
    by_cases hD:D≤0
    · rw [if_pos hD] at hr
      injection hr with hr
      subst hr
      exact get_deep P D t ⟨by omega,hD⟩ ⟨ht0,ht1⟩ hI
    rw [if_neg hD] at hr
    have hD1:1≤D∧D < 9223372036854775808:=by omega
    have ih:=get_any P f (D - 1) (by omega) (by omega) (by omega)
    cases ho:ropOf t with
    | some o =>
      rw [ho] at hr
      simp only [Option.map_eq_some_iff] at hr
      obtain ⟨a,ha,rfl⟩:=hr
      exact leaf_got P ho D hD1 hI ha
    | none =>
      rw [ho] at hr
      dsimp only at hr
      by_cases h12:t=12
      · subst h12
        rw [if_pos rfl] at hr
        exact get_struct P D hD1 hI (fun W hW=>getStruct_any P _ D hD1 ih f (by omega) (P.step hI hW (by simp)) hr)
      rw [if_neg h12] at hr
      by_cases h13:t=13
      · subst h13
        rw [if_pos rfl] at hr
        exact get_map P D hD1 hI (fun W hW=>getMap_any P _ D hD1 ih (P.step hI hW (by simp)) hr)
      rw [if_neg h13] at hr
      by_cases h14:t=14
      · subst h14
        rw [if_pos rfl] at hr
        exact get_set P D hD1 hI (fun W hW=>getSet_any P _ D hD1 ih (P.step hI hW (by simp)) hr)
      rw [if_neg h14] at hr
      by_cases h15:t=15
      · subst h15
        rw [if_pos rfl] at hr
        exact get_lst P D hD1 hI (fun W hW=>getLst_any P _ D hD1 ih (P.step hI hW (by simp)) hr)
      rw [if_neg h15] at hr
      injection hr with hr
      subst hr
      exact get_no P D t hD1 ⟨ht0,ht1⟩ ho ⟨h12,h13,h14,h15⟩ hI

end Go.Proofs.YtmjcnomgpikncaaGreatDoor
