/- The writers of the compact protocol: ends, doubles, messages. No condition. -/
import Derived.Test.YtmjcnomgpikncaaGreatDoorMd3
import Derived.Test.YtmjcnomgpikncaaGreatDoorMd1
set_option linter.unusedVariables false
set_option linter.unusedSimpArgs false
namespace Go.Proofs.YtmjcnomgpikncaaGreatDoor

open Go.RowKit Go.Deep Go.Proofs.YtmjcnomgpikncaaGreatDoorW.PrintLast



def Keeps1 (p:Nat) (lf:Value) (W:World):Prop:=W.cell? ⟨p,3,none⟩=some lf∧W.frozen? ⟨p,3,none⟩=false

theorem CP.pop {p m b g r cap:Nat} {og cf n5:Value} {c:Cfg} {K:List Nat} {st:CSt} {sc:List Value} {cur:Array Value} {l:List UInt8} {w:World} {xs:List Int} {x:Int} {off:Nat} (hx:st.stk=xs++[x]) (hp:Cmp p (memV m) og cf ⟨.slice (some ⟨r,0,none⟩) st.stk.length cap,st.last,n5,st.pid,st.pend,st.bv,st.bn⟩ sc w) (hm:Mem m b g off (Lib.byteCells l) w) (hC:CfgAt c cf K w)
    (k1:w.heap[r]?=some (.cells cur 3 (0,0))) (k2:cur.size=cap) (k3:st.stk.length≤cap) (k4:cap≤maxLen) (k5:cur.toList.take st.stk.length=st.stk.map (Value.int .i64)) (k6:r≠p) (hd:p≠m∧p≠b∧p≠g) (hr:r≠m∧r≠b∧r≠g) (hK:∀ k,k∈K→k≠p∧k≠b∧k≠g∧k≠r) :
    CP p m og cf c off (p :: m :: b :: g :: r :: K) { st with stk:=xs,last:=x } l (((w.setCell ⟨p,4,none⟩ (.int .i64 x)).drew.drew).setCell ⟨p,3,none⟩ (.slice (some ⟨r,0,none⟩) xs.length cap)) ∧
      Step (p :: m :: b :: g :: r :: K) (p :: m :: b :: g :: r :: K) w (((w.setCell ⟨p,4,none⟩ (.int .i64 x)).drew.drew).setCell ⟨p,3,none⟩ (.slice (some ⟨r,0,none⟩) xs.length cap)):=by
  have hs:Step [p] [p] w (((w.setCell ⟨p,4,none⟩ (.int .i64 x)).drew.drew).setCell ⟨p,3,none⟩ (.slice (some ⟨r,0,none⟩) xs.length cap)) :=
    ((((Step.refl [p] w).setCell (p:=⟨p,4,none⟩) (.inl (by simp)) _).drew).drew).setCell (p:=⟨p,3,none⟩) (.inl (by simp)) _
  have hl:st.stk.length=xs.length+1:=by rw [hx];simp
  have hp1:(w.setCell ⟨p,4,none⟩ (.int .i64 x)).drew.drew.heap[p]?=_:=heap_set_same hp.1 _
  refine ⟨⟨b,g,r,K,.slice (some ⟨r,0,none⟩) xs.length cap,n5,sc,rfl,⟨?_,hp.2⟩,hm.step hs (by simp [Ne.symm hd.1]) (by simp [Ne.symm hd.2.1]) (by simp [Ne.symm hd.2.2]),hC.step hs (fun k hk=>by have:=hK k hk;simp [this]),.inr ⟨cap,cur,rfl,(hs.block r (lt_heap k1) (by simp [k6])).trans k1,k2,by dsimp only;omega,k4,?_,k6⟩,hd,hr,hK⟩,
    hs.more (by simp) (fun k hk=>.inr (.inl hk))⟩
  · rw [heap_set_same hp1]
    simp [CS.row]
  · have:=congrArg (List.take xs.length) k5
    rw [List.take_take,hx] at this
    simpa using this

set_option maxRecDepth 100000 in
set_option maxHeartbeats 1000000 in
theorem cp_strE {p m:Nat} {og cf:Value} {c:Cfg} {S:List Nat} {st:CSt} {l:List UInt8} {w:World} (h:CP p m og cf c 0 S st l w) (cx:Value) (xs:List Int) (x:Int) (hx:st.stk=xs++[x]) :
 Calls Tryz.prog 174 #[.pointer (some ⟨p,0,none⟩),cx] w (Did (CIs p m og cf c) S w (({ st with stk:=xs,last:=x },l),0)):=by
 obtain ⟨b,g,r,K,lf,n5,sc,rfl,hp,hm,hC,hk,hd,hr,hK⟩:=h
 have c3:w.cell? ⟨p,3,none⟩=some lf:=by rw [hp.cells];rfl
 have c4:w.cell? ⟨p,4,none⟩=some (.int .i64 st.last):=by rw [hp.cells];rfl
 have f4:=frozen_heap hp.1 4
 have f3:=frozen_heap hp.1 3
 rcases hk with ⟨rfl,h0,rfl⟩ | ⟨cap,cur,rfl,k1,k2,k3,k4,k5,k6⟩
 · rw [h0] at hx
   simp at hx
 have hl:st.stk.length=xs.length+1:=by rw [hx];simp
 have cx1:w.cell? ⟨r,xs.length,none⟩=some (.int .i64 x):=by
  rw [cell_heap k1]
  have:(cur.toList.take st.stk.length)[xs.length]?=(st.stk.map (Value.int .i64))[xs.length]?:=by rw [k5]
  rw [List.getElem?_take_of_lt (by omega),hx] at this
  simpa using this
 rw [hl] at c3
 obtain ⟨n,hn⟩:∃ n,xs.length=n:=⟨_,rfl⟩
 rw [hn] at c3 cx1
 have hnm:n+1≤9223372036854775807:=by unfold maxLen at k4;omega
 have hnc:n≤cap:=by omega
 have hw1:wrap64 ((n:Int)+1 - 1)=n:=by unfold wrap64;omega
 have hw2:wrap64 (n:Int)=n:=by unfold wrap64;omega
 have hw3:IntKind.i64.wrap ((n:Int)+1 - 1)=n:=by rw [IntKind.wrap_i64];omega
 have hw4:IntKind.i64.wrap (((n+1:Nat):Int) - 1)=n:=by rw [IntKind.wrap_i64];omega
 have hw5:IntKind.i64.wrap (n:Int)=n:=by rw [IntKind.wrap_i64];omega
 have hb1:(n:Int) < (n:Int)+1:=by omega
 have hb0:(0:Int)≤(n:Int):=by omega
 go_enter Tryz.func174,Tryz.ntmps174
 go_wp2_with (fail)
 go_region_held3 (fun W'=>W'.cell? ⟨p,3,none⟩=some (.slice (some ⟨r,0,none⟩) (n+1) cap)∧W'.cell? ⟨r,n,none⟩=some (.int .i64 x)∧W'.frozen? ⟨p,4,none⟩=false) (first | exact ⟨c3,cx1,f4⟩ | (simp [go_sem, *];done)) (fail)
 obtain ⟨W1,hW1⟩:∃ W1,W1=(w.setCell ⟨p,4,none⟩ (.int .i64 x)).drew:=⟨_,rfl⟩
 rw [← hW1]
 have d3:W1.cell? ⟨p,3,none⟩=some (.slice (some ⟨r,0,none⟩) (n+1) cap):=by rw [hW1];simp [go_sem,c3]
 have g3:W1.frozen? ⟨p,3,none⟩=false:=by rw [hW1];simp [go_sem,f3]
 have HW1:=Lib.hid hW1
 clear hW1 c3 c4 cx1 f4 f3
 have HP:=Lib.hid (CP.pop hx hp hm hC k1 k2 k3 k4 k5 k6 hd hr hK)
 go_wp2_with (fail)
 have HQ0:=Lib.hid (show Keeps1 p (.slice (some ⟨r,0,none⟩) (n+1) cap) W1 from ⟨d3,g3⟩)
 refine start_ (n:=15) (S:=Keeps1 p (.slice (some ⟨r,0,none⟩) (n+1) cap)) (ds:=[14]) #[false,false,false,false,false,false,false,false,false,false,false,false,false,false,false] (by kernel_rfl) rfl rfl HQ0.out (fun hHeld=>?_)
 refine pure_ (i:=0) (N:=some 28) (v:=?_) (a':=?_) #[true,false,false,false,false,false,false,false,false,false,false,false,false,false,false] rfl rfl (by kernel_rfl) (fun _ _ _ h=>h) (Or.inl ⟨by rfl,?_⟩) ?_ ?_
 rotate_left
 · intro w'
   go_simp
   with_reducible rfl
 rotate_left
 · simp only [Act.put,List.setIfInBounds_toArray,List.set_cons_zero,List.set_cons_succ,i64_w,i32_w,hw1,hw2,hw3,hw4,hw5]
   rfl
 refine pure_ (i:=1) (N:=some 29) (v:=?_) (a':=?_) #[true,true,false,false,false,false,false,false,false,false,false,false,false,false,false] rfl rfl (by kernel_rfl) (fun _ _ _ h=>h) (Or.inl ⟨by rfl,?_⟩) ?_ ?_
 rotate_left
 · intro w'
   go_simp
   with_reducible rfl
 rotate_left
 · simp only [Act.put,List.setIfInBounds_toArray,List.set_cons_zero,List.set_cons_succ,i64_w,i32_w,hw1,hw2,hw3,hw4,hw5]
   rfl
 refine pure_ (i:=5) (N:=some 33) (v:=?_) (a':=?_) #[true,true,false,false,false,true,false,false,false,false,false,false,false,false,false] rfl rfl (by kernel_rfl) (fun _ _ _ h=>h) (Or.inl ⟨by rfl,?_⟩) ?_ ?_
 rotate_left
 · intro w'
   go_simp
   with_reducible rfl
 rotate_left
 · simp only [Act.put,List.setIfInBounds_toArray,List.set_cons_zero,List.set_cons_succ,i64_w,i32_w,hw1,hw2,hw3,hw4,hw5]
   rfl
 refine pure_ (i:=2) (N:=some 30) (v:=?_) (a':=?_) #[true,true,true,false,false,true,false,false,false,false,false,false,false,false,false] rfl rfl (by kernel_rfl) (fun _ _ _ h=>h) (Or.inl ⟨by rfl,?_⟩) ?_ ?_
 rotate_left
 · intro w'
   go_simp
   with_reducible rfl
 rotate_left
 · simp only [Act.put,List.setIfInBounds_toArray,List.set_cons_zero,List.set_cons_succ,i64_w,i32_w,hw1,hw2,hw3,hw4,hw5]
   rfl
 refine pure_ (i:=3) (N:=some 31) (v:=?_) (a':=?_) #[true,true,true,true,false,true,false,false,false,false,false,false,false,false,false] rfl rfl (by kernel_rfl) (fun _ _ _ h=>h) (Or.inl ⟨by rfl,?_⟩) ?_ ?_
 rotate_left
 · intro w'
   go_simp
   with_reducible rfl
 rotate_left
 · simp only [Act.put,List.setIfInBounds_toArray,List.set_cons_zero,List.set_cons_succ,i64_w,i32_w,hw1,hw2,hw3,hw4,hw5]
   rfl
 refine pure_ (i:=6) (N:=some 34) (v:=?_) (a':=?_) #[true,true,true,true,false,true,true,false,false,false,false,false,false,false,false] rfl rfl (by kernel_rfl) (fun _ _ _ h=>h) (Or.inl ⟨by rfl,?_⟩) ?_ ?_
 rotate_left
 · intro w'
   go_simp
   with_reducible rfl
 rotate_left
 · simp only [Act.put,List.setIfInBounds_toArray,List.set_cons_zero,List.set_cons_succ,i64_w,i32_w,hw1,hw2,hw3,hw4,hw5]
   rfl
 refine pure_ (i:=7) (N:=some 35) (v:=?_) (a':=?_) #[true,true,true,true,false,true,true,true,false,false,false,false,false,false,false] rfl rfl (by kernel_rfl) (fun _ _ _ h=>h) (Or.inl ⟨by rfl,?_⟩) ?_ ?_
 rotate_left
 · intro w'
   go_simp
   with_reducible rfl
 rotate_left
 · simp only [Act.put,List.setIfInBounds_toArray,List.set_cons_zero,List.set_cons_succ,i64_w,i32_w,hw1,hw2,hw3,hw4,hw5]
   rfl
 refine take_ (i:=4) (N:=some 32) (v:=?_) (a':=?_) #[true,true,true,true,true,true,true,true,false,false,false,false,false,false,false] rfl rfl (by kernel_rfl) (fun _ _ _ h=>h) (Or.inl ⟨by rfl,?_⟩) hHeld ?_ ?_
 rotate_left
 · rintro w' ⟨s0,s1⟩
   go_simp
   with_reducible rfl
 rotate_left
 · simp only [Act.put,List.setIfInBounds_toArray,List.set_cons_zero,List.set_cons_succ,i64_w,i32_w,hw1,hw2,hw3,hw4,hw5]
   rfl
 refine take_ (i:=8) (N:=some 36) (v:=?_) (a':=?_) #[true,true,true,true,true,true,true,true,true,false,false,false,false,false,false] rfl rfl (by kernel_rfl) (fun _ _ _ h=>h) (Or.inl ⟨by rfl,?_⟩) hHeld ?_ ?_
 rotate_left
 · rintro w' ⟨s0,s1⟩
   go_simp
   with_reducible rfl
 rotate_left
 · simp only [Act.put,List.setIfInBounds_toArray,List.set_cons_zero,List.set_cons_succ,i64_w,i32_w,hw1,hw2,hw3,hw4,hw5]
   rfl
 refine pure_ (i:=9) (N:=some 37) (v:=?_) (a':=?_) #[true,true,true,true,true,true,true,true,true,true,false,false,false,false,false] rfl rfl (by kernel_rfl) (fun _ _ _ h=>h) (Or.inl ⟨by rfl,?_⟩) ?_ ?_
 rotate_left
 · intro w'
   go_simp
   with_reducible rfl
 rotate_left
 · simp only [Act.put,List.setIfInBounds_toArray,List.set_cons_zero,List.set_cons_succ,i64_w,i32_w,hw1,hw2,hw3,hw4,hw5]
   rfl
 refine pure_ (i:=10) (N:=some 38) (v:=?_) (a':=?_) #[true,true,true,true,true,true,true,true,true,true,true,false,false,false,false] rfl rfl (by kernel_rfl) (fun _ _ _ h=>h) (Or.inl ⟨by rfl,?_⟩) ?_ ?_
 rotate_left
 · intro w'
   go_simp
   with_reducible rfl
 rotate_left
 · simp only [Act.put,List.setIfInBounds_toArray,List.set_cons_zero,List.set_cons_succ,i64_w,i32_w,hw1,hw2,hw3,hw4,hw5]
   rfl
 refine pure_ (i:=11) (N:=some 39) (v:=?_) (a':=?_) #[true,true,true,true,true,true,true,true,true,true,true,true,false,false,false] rfl rfl (by kernel_rfl) (fun _ _ _ h=>h) (Or.inl ⟨by rfl,?_⟩) ?_ ?_
 rotate_left
 · intro w'
   go_simp
   with_reducible rfl
 rotate_left
 · simp only [Act.put,List.setIfInBounds_toArray,List.set_cons_zero,List.set_cons_succ,i64_w,i32_w,hw1,hw2,hw3,hw4,hw5]
   rfl
 refine pure_ (i:=12) (N:=some 40) (v:=?_) (a':=?_) #[true,true,true,true,true,true,true,true,true,true,true,true,true,false,false] rfl rfl (by kernel_rfl) (fun _ _ _ h=>h) (Or.inl ⟨by rfl,?_⟩) ?_ ?_
 rotate_left
 · intro w'
   go_simp
   with_reducible rfl
 rotate_left
 · simp only [Act.put,List.setIfInBounds_toArray,List.set_cons_zero,List.set_cons_succ,i64_w,i32_w,hw1,hw2,hw3,hw4,hw5]
   rfl
 refine pure_ (i:=13) (N:=some 41) (v:=?_) (a':=?_) #[true,true,true,true,true,true,true,true,true,true,true,true,true,true,false] rfl rfl (by kernel_rfl) (fun _ _ _ h=>h) (Or.inl ⟨by rfl,?_⟩) ?_ ?_
 rotate_left
 · intro w'
   go_simp
   with_reducible rfl
 rotate_left
 · simp only [Act.put,List.setIfInBounds_toArray,List.set_cons_zero,List.set_cons_succ,i64_w,i32_w,hw1,hw2,hw3,hw4,hw5]
   rfl
 obtain ⟨s0,s1⟩:=hHeld
 refine last_ (i:=14) (N:=none) #[true,true,true,true,true,true,true,true,true,true,true,true,true,true,true] rfl rfl (by kernel_rfl) (by decide) (fun K hK=>?_)
 refine skip_ (w1:=W1.drew.setCell ⟨p,3,none⟩ (.slice (some ⟨r,0,none⟩) n cap)) (by rfl) rfl (by go_simp) ?_
 refine hK.out _ _ ?_
 clear hK K
 refine done_ (by kernel_rfl) ?_
 go_wp2
 go_ret
 have hF:=HP.out
 rw [hn] at hF
 rw [HW1.out]
 exact ⟨_,_,rfl,IsErr.nil _,hF.1,hF.2⟩

end Go.Proofs.YtmjcnomgpikncaaGreatDoor

namespace Go.Proofs.YtmjcnomgpikncaaGreatDoor

open Go.RowKit Go.Deep



theorem Cmp.setAt {p:Nat} {tr og cf:Value} {s:CS} {sc:List Value} {w:World} (h:Cmp p tr og cf s sc w) (vs:List Value) (hv:vs.length≤64) (h1:∀ v∈vs,v.oneCell'=true) :
    ∃ sc1,Cmp p tr og cf s sc1 (w.setCells p 10 vs)∧sc1.take vs.length=vs:=by
  obtain ⟨cs1,e1,e2,e3⟩:=heap_setCells h.1 10 vs
  have hl:=h.2.1
  have e4:=e3 (by simp [CS.row,hl];omega)
  refine ⟨vs++sc.drop vs.length,⟨?_,by simp [hl];omega,fun v hv=>?_⟩,by simp⟩
  · rw [e1]
    congr 2
    apply Array.toList_inj.1
    rw [e4]
    simp [CS.row,Nat.add_comm 10]
  · rcases List.mem_append.1 hv with hv | hv
    · exact h1 v hv
    · exact h.2.2 v (List.mem_of_mem_drop hv)

theorem ownC1 {p m b g r:Nat} {K:List Nat} {w w1:World} (hs:Step [p] [p] w w1):Step (p :: m :: b :: g :: r :: K) (p :: m :: b :: g :: r :: K) w w1 :=
  hs.more (by simp) (fun k hk=>.inr (.inl hk))

set_option maxRecDepth 100000 in
set_option maxHeartbeats 1000000 in
theorem cp_dbl {p m:Nat} {og cf:Value} {c:Cfg} {S:List Nat} {st:CSt} {l:List UInt8} {w:World} (h:CP p m og cf c 0 S st l w) (cx:Value) (n:Nat) (hn:n < 18446744073709551616) (hlim:l.length+8≤140737488355328) :
    Calls Tryz.prog 157 #[.pointer (some ⟨p,0,none⟩),cx,.float .f64 n] w (Did (CIs p m og cf c) S w ((st,l++le8 n),0)):=by
  obtain ⟨b,g,r,K,lf,nm,sc,rfl,hp,h,hC,hk,hd,hr,hK⟩:=h
  have c0:w.cell? ⟨p,0,none⟩=some (memV m):=by rw [hp.cells];rfl
  have cm:=h.cell
  have hmeth:=mem_Write
  have hfb:=f64bits
  have hvl:=Lib.hid hn
  clear hn
  obtain ⟨L,hL⟩:∃ L,le8 n=L:=⟨_,rfl⟩
  have hLl:L.length=8:=by rw [← hL];simp [le8,Lib.leBytes_length]
  have HLe:=Lib.hid hL
  clear hL
  obtain ⟨x0,d0,f0⟩:=hp.cell 0 (by omega)
  obtain ⟨x1,d1,f1⟩:=hp.cell 1 (by omega)
  obtain ⟨x2,d2,f2⟩:=hp.cell 2 (by omega)
  obtain ⟨x3,d3,f3⟩:=hp.cell 3 (by omega)
  obtain ⟨x4,d4,f4⟩:=hp.cell 4 (by omega)
  obtain ⟨x5,d5,f5⟩:=hp.cell 5 (by omega)
  obtain ⟨x6,d6,f6⟩:=hp.cell 6 (by omega)
  obtain ⟨x7,d7,f7⟩:=hp.cell 7 (by omega)
  simp only [Nat.reduceAdd] at d0 f0 d1 f1 d2 f2 d3 f3 d4 f4 d5 f5 d6 f6 d7 f7
  go_enter Tryz.func157,Tryz.ntmps157
  go_wp2_with (fail)
  go_region_with (go_at_call 193;refine (Tryz.binary_LE_PutUint64 p 10 8 64 n hvl.out x0 x1 x2 x3 x4 x5 x6 x7 w.drew (Nat.le_refl _) d0 d1 d2 d3 d4 d5 d6 d7 f0 f1 f2 f3 f4 f5 f6 f7).mono ?_;rintro e _ ⟨rfl,rfl⟩)
  all_goals (
    obtain ⟨W1,hW1'⟩:∃ W1,W1=(w.alloc (.cells #[] 305)).drew.setCells p 10 (Lib.byteCells (Lib.leBytes 8 n)):=⟨_,rfl⟩
    rw [← hW1']
    rw [show Lib.leBytes 8 n=L from HLe.out] at hW1'
    have hbl:(Lib.byteCells L).length=8:=by rw [Lib.byteCells_length];exact hLl
    obtain ⟨sc1,hp1,hsc⟩:=(show Cmp p (memV m) og cf ⟨lf,st.last,nm,st.pid,st.pend,st.bv,st.bn⟩ sc (w.alloc (.cells #[] 305)).drew from hp.alloc _).setAt (Lib.byteCells L) (by omega) (Lib.byteCells_one _)
    rw [← hW1'] at hp1
    have hs1:Step [p] [p] w W1:=by rw [hW1'];exact (((Step.refl _ _).alloc _).drew).setCells (.inl (by simp)) _ _
    have h2:Mem m b g 0 (Lib.byteCells l) W1:=by
      rw [hW1']
      have ha:Mem m b g 0 (Lib.byteCells l) (w.alloc (.cells #[] 305)).drew:=h.alloc (.cells #[] 305)
      exact ha.carry (heap_setCells_other (Ne.symm hd.1) _ _) (heap_setCells_other (Ne.symm hd.2.1) _ _) (heap_setCells_other (Ne.symm hd.2.2) _ _)
    have hC1:=hC.step hs1 (fun k hk=>by have:=hK k hk;simp [this])
    have hk1:=hk.step hs1 (fun hrp=>by simpa using hrp)
    clear hW1'
    have c0':W1.cell? ⟨p,0,none⟩=some (memV m):=by rw [hp1.cells];rfl
    have cm':=h2.cell
    have hsrc:∀ j v',(Lib.byteCells L)[j]?=some v'→W1.cell? ((⟨p,10,none⟩:Addr).add j)=some v':=fun j v' hj=>by
      rw [Lib.addr_add,hp1.cells,Nat.add_comm]
      simp only [CS.row,List.getElem?_cons_succ]
      rw [← hsc,List.getElem?_take] at hj
      split at hj
      · exact hj
      · cases hj
    have HS:=Lib.hid hsrc
    have HL:=Lib.hid (hLl)
    clear hsrc hbl hsc c0 cm d0 d1 d2 d3 d4 d5 d6 d7 f0 f1 f2 f3 f4 f5 f6 f7 hvl
    have hwr:=Lib.hid (mem_writeBytes m b g 8 64 (some ⟨p,10,none⟩) l L W1 h2 HL.out (fun a ha=>by cases ha;exact ⟨⟨hd.2.1,hd.2.2,hp1.lt⟩,HS.out⟩) (by simp) hlim)
    go_wp2_with (go_at_call 72;refine hwr.out.mono ?_)
    rintro e W2 ⟨⟨n2,rfl⟩,g1,hM,hs⟩
    go_wp2_with (first | (go_at_call 178;go_in))
    go_ret
    rw [HLe.out]
    exact ⟨_,_,rfl,IsErr.nil _,CP.wrote0 hp1 hC1 hk1 hd hr hK hM hs,(ownC1 hs1).trans (ownC (with_p hs))⟩)

theorem verC (t:Int):bits .or .u8 1 (bits .and .u8 ((t % 256) * 32 % 256) 224)=((1+(t % 8).toNat * 32:Nat):Int):=by
  have h1:(t % 256) * 32 % 256=(t % 8) * 32:=by omega
  rw [h1]
  have h2:t % 8=0∨t % 8=1∨t % 8=2∨t % 8=3∨t % 8=4∨t % 8=5∨t % 8=6∨t % 8=7:=by omega
  rcases h2 with h | h | h | h | h | h | h | h <;> rw [h] <;> decide

set_option maxRecDepth 100000 in
set_option maxHeartbeats 1000000 in
theorem cp_msgB {p m:Nat} {og cf:Value} {c:Cfg} {S:List Nat} {st:CSt} {l:List UInt8} {w:World} (h:CP p m og cf c 0 S st l w) (cx:Value) (nm:List UInt8) (t seq:Int) (hs:nm.length≤2147483647) (hlim:l.length+nm.length+32≤140737488355328) :
    Calls Tryz.prog 168 #[.pointer (some ⟨p,0,none⟩),cx,strV nm,.int .i32 t,.int .i32 seq] w (Did (CIs p m og cf c) S w ((st,l++(0x82 :: (1+(t % 8).toNat * 32).toUInt8 :: (Lib.uvarint (seq % 4294967296).toNat++cText nm))),0)):=by
  obtain ⟨N,hN⟩:∃ N:Nat,(seq % 4294967296).toNat=N:=⟨_,rfl⟩
  rw [hN]
  have hN2:=Lib.hid (show seq % 4294967296=N by omega)
  have hlen:=Lib.hid (Lib.uvarint_length 4 N (by omega))
  have HV:=Lib.hid (verC t)
  clear hN
  go_enter Tryz.func168,Tryz.ntmps168
  go_wp2_with (fail)
  (refine (cp_directN h 130 (by omega) (by omega)).mono ?_;rintro e W1 ⟨ev,S1,rfl,he,h1,s1⟩)
  obtain rfl:=he.zero
  clear he
  go_wp2_with (fail)
  rw [HV.out]
  ((with_reducible refine (cp_directN h1 (1+(t % 8).toNat * 32) (by omega) (by simp;omega)).mono ?_);rintro e W2 ⟨ev,S2,rfl,he,h2,s2⟩)
  obtain rfl:=he.zero
  clear he
  go_wp2_with (fail)
  ((with_reducible refine (cp_varint32 h2 seq N hN2.out (by simp;omega)).mono ?_);rintro e W3 ⟨⟨k1,rfl⟩,S3,h3,s3⟩)
  go_wp2_with (fail)
  ((with_reducible refine (cp_str h3 _ nm hs (by have:=hlen.out;simp;omega)).mono ?_);rintro e W4 ⟨ev,S4,rfl,he,h4,s4⟩)
  obtain rfl:=he.zero
  clear he
  go_wp2
  go_ret
  refine ⟨_,_,rfl,IsErr.nil _,?_,s1.trans (s2.trans (s3.trans s4))⟩
  simpa [List.append_assoc] using h4

end Go.Proofs.YtmjcnomgpikncaaGreatDoor

namespace Go.Proofs.YtmjcnomgpikncaaGreatDoor

open Go.RowKit Go.Deep



theorem cp_msgE {p m:Nat} {og cf:Value} {c:Cfg} {S:List Nat} {st:CSt} {l:List UInt8} {w:World} (h:CP p m og cf c 0 S st l w) (cx:Value) :
    Calls Tryz.prog 169 #[.pointer (some ⟨p,0,none⟩),cx] w (Did (CIs p m og cf c) S w ((st,l),0)):=by
  go_enter Tryz.func169,Tryz.ntmps169
  go_wp2
  go_ret
  exact ⟨_,_,rfl,IsErr.nil _,h,Step.refl _ _⟩

theorem cp_fldE {p m:Nat} {og cf:Value} {c:Cfg} {S:List Nat} {st:CSt} {l:List UInt8} {w:World} (h:CP p m og cf c 0 S st l w) (cx:Value) :
    Calls Tryz.prog 159 #[.pointer (some ⟨p,0,none⟩),cx] w (Did (CIs p m og cf c) S w ((st,l),0)):=by
  go_enter Tryz.func159,Tryz.ntmps159
  go_wp2
  go_ret
  exact ⟨_,_,rfl,IsErr.nil _,h,Step.refl _ _⟩

theorem cp_mapE {p m:Nat} {og cf:Value} {c:Cfg} {S:List Nat} {st:CSt} {l:List UInt8} {w:World} (h:CP p m og cf c 0 S st l w) (cx:Value) :
    Calls Tryz.prog 167 #[.pointer (some ⟨p,0,none⟩),cx] w (Did (CIs p m og cf c) S w ((st,l),0)):=by
  go_enter Tryz.func167,Tryz.ntmps167
  go_wp2
  go_ret
  exact ⟨_,_,rfl,IsErr.nil _,h,Step.refl _ _⟩

theorem cp_lstE {p m:Nat} {og cf:Value} {c:Cfg} {S:List Nat} {st:CSt} {l:List UInt8} {w:World} (h:CP p m og cf c 0 S st l w) (cx:Value) :
    Calls Tryz.prog 165 #[.pointer (some ⟨p,0,none⟩),cx] w (Did (CIs p m og cf c) S w ((st,l),0)):=by
  go_enter Tryz.func165,Tryz.ntmps165
  go_wp2
  go_ret
  exact ⟨_,_,rfl,IsErr.nil _,h,Step.refl _ _⟩

theorem cp_setE {p m:Nat} {og cf:Value} {c:Cfg} {S:List Nat} {st:CSt} {l:List UInt8} {w:World} (h:CP p m og cf c 0 S st l w) (cx:Value) :
    Calls Tryz.prog 171 #[.pointer (some ⟨p,0,none⟩),cx] w (Did (CIs p m og cf c) S w ((st,l),0)):=by
  go_enter Tryz.func171,Tryz.ntmps171
  go_wp2
  go_ret
  exact ⟨_,_,rfl,IsErr.nil _,h,Step.refl _ _⟩

theorem errS_m (k b:Nat) (w:World):(method (k+1) 238 (.pointer (some ⟨b,0,none⟩)) "Error").run Tryz.prog w=.ok (283,.pointer (some ⟨b,0,none⟩)) w:=by kernel_rfl

theorem errS_n (k b:Nat) (w:World):(nilAhead (k+1) 238 (.pointer (some ⟨b,0,none⟩)) "Error").run Tryz.prog w=.ok (some false) w:=by kernel_rfl

set_option maxRecDepth 100000 in
set_option maxHeartbeats 1000000 in
theorem cp_strE_none {p m:Nat} {og cf:Value} {c:Cfg} {S:List Nat} {st:CSt} {l:List UInt8} {w:World} (h:CP p m og cf c 0 S st l w) (cx:Value) (hx:st.stk=[]) :
    Calls Tryz.prog 174 #[.pointer (some ⟨p,0,none⟩),cx] w (Did (CIs p m og cf c) S w ((st,l),11)):=by
  have HI:=Lib.hid h
  obtain ⟨b,g,r,K,lf,n5,sc,rfl,hp,hm,hC,hk,hd,hr,hK⟩:=h
  rw [hx] at hk
  have c3:∃ ad cap,w.cell? ⟨p,3,none⟩=some (.slice ad 0 cap):=by
    rcases hk with ⟨rfl,h0,rfl⟩ | ⟨cap,cur,rfl,k1,k2,k3,k4,k5,k6⟩
    · exact ⟨_,_,by rw [hp.cells];rfl⟩
    · exact ⟨_,_,by rw [hp.cells];rfl⟩
  obtain ⟨ad,cap,c3⟩:=c3
  clear hk hp hm hC hK hd hr hx
  have hem:=errS_m
  have hen:=errS_n
  go_enter Tryz.func174,Tryz.ntmps174
  go_wp2_with (first | (go_at_call 78;go_in) | (go_at_call 77;go_in) | (go_at_call 283;go_in))
  go_ret
  exact ⟨_,p :: m :: b :: g :: r :: K,rfl,.inr ⟨w.heap.size+1,1,_,_,rfl,by omega,rfl,heap_alloc_at (by simp) _⟩,HI.out.step (((Step.refl [] w).alloc _).alloc _) (by simp),((Step.refl _ _).alloc _).alloc _⟩

end Go.Proofs.YtmjcnomgpikncaaGreatDoor

namespace Go.Proofs.YtmjcnomgpikncaaGreatDoor

open Go.RowKit Go.Deep



set_option maxRecDepth 100000 in
set_option maxHeartbeats 2000000 in
theorem cp_bin {p m:Nat} {og cf:Value} {c:Cfg} {S:List Nat} {st:CSt} {l:List UInt8} {w:World} (h:CP p m og cf c 0 S st l w) (cx:Value) (s:List UInt8) (ao:Option Addr) (cp:Nat) (hs:s.length≤2147483647) (hlim:l.length+5+s.length≤140737488355328) (hsrc:LiesAt s ao S w) :
    Calls Tryz.prog 154 #[.pointer (some ⟨p,0,none⟩),cx,.slice ao s.length cp] w (Did (CIs p m og cf c) S w ((st,l++cText s),0)):=by
  have HO:=Lib.hid hsrc.2
  have HS:=Lib.hid hsrc.1
  have hw:IntKind.i32.wrap (s.length:Int)=s.length:=by rw [IntKind.wrap_i32];omega
  have HV:=Lib.hid (cp_varint32 h (s.length:Int) s.length (by omega) (by omega))
  have hlen:(Lib.uvarint s.length).length≤5:=Lib.uvarint_length 4 _ (by omega)
  have HLE:=Lib.hid hlen
  clear hlen hsrc
  by_cases h0:s.length=0
  · obtain rfl:s=[]:=List.length_eq_zero_iff.1 h0
    go_enter Tryz.func154,Tryz.ntmps154
    go_wp2_with (fail)
    refine HV.out.mono ?_
    rintro e W1 ⟨⟨k1,rfl⟩,S1,h1,s1⟩
    go_wp2
    go_ret
    exact ⟨_,_,rfl,IsErr.nil _,by simpa [cText] using h1,s1⟩
  · have h0':0 < (s.length:Int):=by omega
    go_enter Tryz.func154,Tryz.ntmps154
    go_wp2_with (fail)
    refine HV.out.mono ?_
    rintro e W1 ⟨⟨k1,rfl⟩,S1,h1,s1⟩
    obtain ⟨b,g,r,K,lf,nm,sc,rfl,hp,hm,hC,hk,hd,hr,hK⟩:=h1
    have c0:W1.cell? ⟨p,0,none⟩=some (memV m):=by rw [hp.cells];rfl
    have cm:=hm.cell
    have hmeth:=mem_Write
    have hgo:∀ k,k < w.heap.size→k∉S→k≠b∧k≠g:=fun k k1 k2=>by
      constructor
      · rintro rfl
        rcases s1.own k (by simp) with hh | hh
        · exact k2 hh
        · omega
      · rintro rfl
        rcases s1.own k (by simp) with hh | hh
        · exact k2 hh
        · omega
    have HG:=Lib.hid hgo
    clear hgo
    have HP:=Lib.hid hp
    clear hp
    go_wp2_with (go_at_call 72;refine (mem_writeBytes' m b g s.length cp ao _ s _ hm rfl (fun a ha h0n=>?_) HO.out (by simp only [List.length_append];have:=HLE.out;omega)).mono ?_)
    · obtain ⟨⟨k1,k2⟩,k3⟩:=HS.out a ha h0n
      obtain ⟨k4,k5⟩:=HG.out _ k1 k2
      refine ⟨⟨k4,k5,Nat.lt_of_lt_of_le k1 s1.size⟩,fun j v hj=>?_⟩
      rw [s1.cell (by rw [Lib.block_add];exact k1) (by rw [Lib.block_add];exact k2)]
      exact k3 j v hj
    rintro e W2 ⟨⟨n2,rfl⟩,g1,hM,s2⟩
    go_wp2
    go_ret
    refine ⟨_,_,rfl,IsErr.nil _,?_,s1.trans (ownC (with_p s2))⟩
    have hw:=CP.wrote0 HP.out hC hk hd hr hK hM s2
    rw [List.append_assoc] at hw
    exact hw

end Go.Proofs.YtmjcnomgpikncaaGreatDoor
