/- The compact protocol: fields, structs, messages are read. No condition. -/
import Derived.Test.YtmjcnomgpikncaaGreatDoorMu3
import Derived.Test.YtmjcnomgpikncaaGreatDoorMd4
set_option linter.unusedVariables false
set_option linter.unusedSimpArgs false
namespace Go.Proofs.YtmjcnomgpikncaaGreatDoor

open Go.RowKit Go.Deep



set_option maxRecDepth 100000 in
set_option maxHeartbeats 2000000 in
theorem isBool_any (p:Nat) (x k:Int) (h0:0≤x) (h1:x < 256) (hk:x % 16=k) (w:World) :
    Calls Tryz.prog 183 #[.pointer (some ⟨p,0,none⟩),.int .u8 x] w fun e w'=>e=.returned (.bool (decide (k=1∨k=2)))∧w=w':=by
  have hb:=and15 x h0 h1
  rw [hk] at hb
  by_cases h1:k=1
  · subst h1
    go_enter Tryz.func183,Tryz.ntmps183
    go_wp2
    (first | go_ret | go_ret2)
    exact ⟨rfl,rfl⟩
  · by_cases h2:k=2
    · subst h2
      go_enter Tryz.func183,Tryz.ntmps183
      go_wp2
      (first | go_ret | go_ret2)
      exact ⟨rfl,rfl⟩
    · have h3:decide (k=1∨k=2)=false:=by simpa using ⟨h1,h2⟩
      rw [h3]
      have h1':(k == 1)=false:=by simpa using h1
      have h2':(k == 2)=false:=by simpa using h2
      go_enter Tryz.func183,Tryz.ntmps183
      go_wp2
      (first | go_ret | go_ret2)
      exact ⟨rfl,rfl⟩

set_option maxRecDepth 100000 in
set_option maxHeartbeats 2000000 in
theorem cr_stop {p m:Nat} {og cf:Value} {c:Cfg} {S:List Nat} {st:CSt} {x:UInt8} {l:List UInt8} {w:World} (h:CR p m og cf c S (st,x :: l) w) (hx:(x.toNat:Int) % 16=0) :
    Calls Tryz.prog 134 #[.pointer (some ⟨p,0,none⟩),ctxV] w (RD (CR p m og cf c) S w (.tuple #[.string ByteArray.empty,.int .u8 0,.int .i16 0,.nilIface]) (st,l)):=by
  have HB:=Lib.hid (cr_direct h)
  have hxl:=x.toNat_lt
  obtain ⟨y,hy⟩:∃ y:Int,(x.toNat:Int)=y:=⟨_,rfl⟩
  have hand:=and15 y (by omega) (by omega)
  rw [hy] at HB hx
  rw [hx] at hand
  clear h hy hx hxl
  go_enter Tryz.func134,Tryz.ntmps134
  go_wp2_with (fail)
  refine HB.out.mono ?_
  rintro e W1 ⟨S1,rfl,hI,hs⟩
  go_wp2
  (try simp only [Exit.inBlock,Exit.then])
  refine bodyPost_ret (results_tmp4 rfl _ _ _) rfl ?_
  exact ⟨_,rfl,hI,hs⟩

def CSt.at_ (st:CSt) (k id:Int):CSt:=if k=1∨k=2 then { st with bv:=decide (k=1),bn:=true,last:=id } else { st with last:=id }

set_option maxRecDepth 100000 in
set_option maxHeartbeats 2000000 in
theorem cr_fldB_far {p m:Nat} {og cf:Value} {c:Cfg} {S:List Nat} {st:CSt} {x:UInt8} {l r:List UInt8} {k t a:Int} {w:World} (h:CR p m og cf c S (st,x :: l) w) (hk:(x.toNat:Int) % 16=k) (ht:cType k=some t) (hk0:¬ k=0) (hq:(x.toNat:Int) / 16=0) (hu:v64 l=some (a,r)) :
    Calls Tryz.prog 134 #[.pointer (some ⟨p,0,none⟩),ctxV] w (RD (CR p m og cf c) S w (.tuple #[.string ByteArray.empty,.int .u8 t,.int .i16 (IntKind.i16.wrap (unz32 a)),.nilIface]) (st.at_ k (IntKind.i16.wrap (unz32 a)),r)):=by
  have HB:=Lib.hid (cr_direct h)
  have hxl:=x.toNat_lt
  obtain ⟨y,hy⟩:∃ y:Int,(x.toNat:Int)=y:=⟨_,rfl⟩
  have hy0:0≤y∧y < 256:=by omega
  rw [hy] at HB hk hq
  have hand:=and15 y hy0.1 hy0.2
  have hand2:=and240 y hy0.1 hy0.2
  rw [hk] at hand
  have hqq:y / 16 * 16 / 16=y / 16:=by omega
  have htr:=cType_range ht
  have hkr:=cType_low ht
  have HT:=Lib.hid (fun w=>ctt_any p k k t (by omega) (by omega) (by omega) ht w)
  have HX:=Lib.hid (fun w=>isBool_any p y k (by omega) (by omega) hk w)
  rw [hq] at hqq
  have hqw:IntKind.i16.wrap 0=0:=by decide
  obtain ⟨id,hid⟩:∃ id,IntKind.i16.wrap (unz32 a)=id:=⟨_,rfl⟩
  rw [hid]
  have H2':=Lib.hid (fun S (W:World) (hW:CR p m og cf c S (st,l) W)=>cr_i16 hW hu)
  rw [hid] at H2'
  clear h hy hxl hk ht hu
  have hidr:-32768≤id∧id < 32768:=by rw [← hid,wrap_i16];omega
  have hidw:IntKind.i64.wrap id=id:=by rw [IntKind.wrap_i64];omega
  have hidw2:wrap64 id=id:=by unfold wrap64;omega
  clear hid
  go_enter Tryz.func134,Tryz.ntmps134
  go_wp2_with (fail)
  refine HB.out.mono ?_
  rintro e W1 ⟨S1,rfl,hI,hs⟩
  have H2:=Lib.hid (H2'.out _ _ hI)
  clear HB hI
  go_wp2_with (fail)
  refine H2.out.mono ?_
  rintro e W2 ⟨S2,rfl,hI,hs2⟩
  obtain ⟨off,hI⟩:=hI
  obtain ⟨c0,c4,⟨x5,c5⟩,c6,c7,c8,c9,f⟩:=hI.read
  have f4:=f 4
  have f8:=f 8
  have f9:=f 9
  have HI:=Lib.hid hI
  have HS:=Lib.hid (hs.trans hs2)
  clear f hI hs hs2 c0 c5 c6 c7 H2
  by_cases hb1:k=1
  · subst hb1
    go_wp2_with (first | (go_at_call 182;refine (HT.out _).mono ?_;rintro e w' ⟨rfl,rfl⟩) | (go_at_call 183;refine (HX.out _).mono ?_;rintro e w' ⟨rfl,rfl⟩))
    (try simp only [Exit.inBlock,Exit.then])
    refine bodyPost_ret (results_tmp4 rfl _ _ _) rfl ?_
    have e1:st.at_ 1 id={ st with bv:=true,bn:=true,last:=id }:=rfl
    rw [e1]
    exact ⟨_,rfl,⟨off,((HI.out.setBv _).setBn _).setLast _⟩,((HS.out.trans (HI.out.stepSet 8 _)).trans ((HI.out.setBv _).stepSet 9 _)).trans (((HI.out.setBv _).setBn _).stepSet 4 _)⟩
  · by_cases hb2:k=2
    · subst hb2
      go_wp2_with (first | (go_at_call 182;refine (HT.out _).mono ?_;rintro e w' ⟨rfl,rfl⟩) | (go_at_call 183;refine (HX.out _).mono ?_;rintro e w' ⟨rfl,rfl⟩))
      (try simp only [Exit.inBlock,Exit.then])
      refine bodyPost_ret (results_tmp4 rfl _ _ _) rfl ?_
      have e1:st.at_ 2 id={ st with bv:=false,bn:=true,last:=id }:=rfl
      rw [e1]
      exact ⟨_,rfl,⟨off,((HI.out.setBv _).setBn _).setLast _⟩,((HS.out.trans (HI.out.stepSet 8 _)).trans ((HI.out.setBv _).stepSet 9 _)).trans (((HI.out.setBv _).setBn _).stepSet 4 _)⟩
    · have e1:st.at_ k id={ st with last:=id }:=by unfold CSt.at_;rw [if_neg (by omega)]
      have e2:decide (k=1∨k=2)=false:=by simpa using ⟨hb1,hb2⟩
      rw [e2] at HX
      go_wp2_with (first | (go_at_call 182;refine (HT.out _).mono ?_;rintro e w' ⟨rfl,rfl⟩) | (go_at_call 183;refine (HX.out _).mono ?_;rintro e w' ⟨rfl,rfl⟩))
      (try simp only [Exit.inBlock,Exit.then])
      refine bodyPost_ret (results_tmp4 rfl _ _ _) rfl ?_
      rw [e1]
      exact ⟨_,rfl,⟨off,HI.out.setLast _⟩,HS.out.trans (HI.out.stepSet 4 _)⟩

set_option maxRecDepth 100000 in
set_option maxHeartbeats 2000000 in
theorem cr_fldB_near {p m:Nat} {og cf:Value} {c:Cfg} {S:List Nat} {st:CSt} {x:UInt8} {l r:List UInt8} {k t:Int} {w:World} (h:CR p m og cf c S (st,x :: l) w) (hk:(x.toNat:Int) % 16=k) (ht:cType k=some t) (hk0:¬ k=0) (hq:¬ (x.toNat:Int) / 16=0) :
    Calls Tryz.prog 134 #[.pointer (some ⟨p,0,none⟩),ctxV] w (RD (CR p m og cf c) S w (.tuple #[.string ByteArray.empty,.int .u8 t,.int .i16 (IntKind.i16.wrap (IntKind.i16.wrap st.last+(x.toNat:Int) / 16)),.nilIface]) (st.at_ k (IntKind.i16.wrap (IntKind.i16.wrap st.last+(x.toNat:Int) / 16)),l)):=by
  have HB:=Lib.hid (cr_direct h)
  have hxl:=x.toNat_lt
  obtain ⟨y,hy⟩:∃ y:Int,(x.toNat:Int)=y:=⟨_,rfl⟩
  have hy0:0≤y∧y < 256:=by omega
  rw [hy] at HB hk hq ⊢
  have hand:=and15 y hy0.1 hy0.2
  have hand2:=and240 y hy0.1 hy0.2
  rw [hk] at hand
  have hqq:y / 16 * 16 / 16=y / 16:=by omega
  have htr:=cType_range ht
  have hkr:=cType_low ht
  have HT:=Lib.hid (fun w=>ctt_any p k k t (by omega) (by omega) (by omega) ht w)
  have HX:=Lib.hid (fun w=>isBool_any p y k (by omega) (by omega) hk w)
  obtain ⟨q,hqe⟩:∃ q,y / 16=q:=⟨_,rfl⟩
  have hqr:0≤q∧q < 16:=by omega
  rw [hqe] at hqq hq ⊢
  have hqw:IntKind.i16.wrap q=q:=by rw [wrap_i16];omega
  obtain ⟨id,hid⟩:∃ id,IntKind.i16.wrap (IntKind.i16.wrap st.last+q)=id:=⟨_,rfl⟩
  rw [hid]
  clear h hy hxl hk ht
  have hidr:-32768≤id∧id < 32768:=by rw [← hid,wrap_i16];omega
  have hidw:IntKind.i64.wrap id=id:=by rw [IntKind.wrap_i64];omega
  have hidw2:wrap64 id=id:=by unfold wrap64;omega
  go_enter Tryz.func134,Tryz.ntmps134
  go_wp2_with (fail)
  refine HB.out.mono ?_
  rintro e W1 ⟨S1,rfl,hI,hs⟩
  obtain ⟨off,hI⟩:=hI
  obtain ⟨c0,c4,⟨x5,c5⟩,c6,c7,c8,c9,f⟩:=hI.read
  have f4:=f 4
  have f8:=f 8
  have f9:=f 9
  have HI:=Lib.hid hI
  have HS:=Lib.hid hs
  clear f hI hs c0 c5 c6 c7 HB
  have W2eq:W1=W1:=rfl
  by_cases hb1:k=1
  · subst hb1
    go_wp2_with (first | (go_at_call 182;refine (HT.out _).mono ?_;rintro e w' ⟨rfl,rfl⟩) | (go_at_call 183;refine (HX.out _).mono ?_;rintro e w' ⟨rfl,rfl⟩))
    (try simp only [Exit.inBlock,Exit.then])
    refine bodyPost_ret (results_tmp4 rfl _ _ _) rfl ?_
    have e1:st.at_ 1 id={ st with bv:=true,bn:=true,last:=id }:=rfl
    rw [e1]
    exact ⟨_,rfl,⟨off,((HI.out.setBv _).setBn _).setLast _⟩,((HS.out.trans (HI.out.stepSet 8 _)).trans ((HI.out.setBv _).stepSet 9 _)).trans (((HI.out.setBv _).setBn _).stepSet 4 _)⟩
  · by_cases hb2:k=2
    · subst hb2
      go_wp2_with (first | (go_at_call 182;refine (HT.out _).mono ?_;rintro e w' ⟨rfl,rfl⟩) | (go_at_call 183;refine (HX.out _).mono ?_;rintro e w' ⟨rfl,rfl⟩))
      (try simp only [Exit.inBlock,Exit.then])
      refine bodyPost_ret (results_tmp4 rfl _ _ _) rfl ?_
      have e1:st.at_ 2 id={ st with bv:=false,bn:=true,last:=id }:=rfl
      rw [e1]
      exact ⟨_,rfl,⟨off,((HI.out.setBv _).setBn _).setLast _⟩,((HS.out.trans (HI.out.stepSet 8 _)).trans ((HI.out.setBv _).stepSet 9 _)).trans (((HI.out.setBv _).setBn _).stepSet 4 _)⟩
    · have e1:st.at_ k id={ st with last:=id }:=by unfold CSt.at_;rw [if_neg (by omega)]
      have e2:decide (k=1∨k=2)=false:=by simpa using ⟨hb1,hb2⟩
      rw [e2] at HX
      go_wp2_with (first | (go_at_call 182;refine (HT.out _).mono ?_;rintro e w' ⟨rfl,rfl⟩) | (go_at_call 183;refine (HX.out _).mono ?_;rintro e w' ⟨rfl,rfl⟩))
      (try simp only [Exit.inBlock,Exit.then])
      refine bodyPost_ret (results_tmp4 rfl _ _ _) rfl ?_
      rw [e1]
      exact ⟨_,rfl,⟨off,HI.out.setLast _⟩,HS.out.trans (HI.out.stepSet 4 _)⟩

end Go.Proofs.YtmjcnomgpikncaaGreatDoor

namespace Go.Proofs.YtmjcnomgpikncaaGreatDoor

open Go.RowKit Go.Deep Go.Proofs.YtmjcnomgpikncaaGreatDoorW.PrintLast



set_option maxRecDepth 100000 in
set_option maxHeartbeats 1000000 in
theorem cr_strB {p m:Nat} {og cf:Value} {c:Cfg} {S:List Nat} {st:CSt} {l:List UInt8} {w:World} (h:CR p m og cf c S (st,l) w) (hlim:st.stk.length < 5000000000000) :
    Calls Tryz.prog 148 #[.pointer (some ⟨p,0,none⟩),ctxV] w (RD (CR p m og cf c) S w (.tuple #[.string ByteArray.empty,.nilIface]) ({ st with stk:=st.stk++[st.last],last:=0 },l)):=by
  obtain ⟨off,b,g,r,K,lf,n5,sc,rfl,hp,hm,hC,hk,hd,hr,hK⟩:=h
  dsimp only at hp hm hk
  obtain ⟨i0,hi,hz0,hz1,hz2⟩:=info_parts infoInt
  have hp1:∀ o,Cmp p (memV m) og cf ⟨lf,st.last,n5,st.pid,st.pend,st.bv,st.bn⟩ sc (w.alloc o):=fun o=>hp.alloc o
  have HP:=Lib.hid (fun o W2 g1 cap1=>@CP.push p m b g r g1 cap1 (w.heap.size+1) og cf lf n5 c K st sc l w (w.alloc o).drew W2 st.last off hp hm hC hk hd hr hK (((Step.refl [] w).alloc o).drew))
  have HO:=Lib.hid (fun o=>show (w.alloc o).drew.ownsRow 0 3 1 lf st.stk.length (st.stk.map (Value.int .i64)) from by
    have h1:=(hk.step ((Step.refl [] w).alloc o) (by simp)).owns
    exact h1)
  have HN:=Lib.hid (fun cs=>World.news_of_block (show (w.alloc (.cells cs 3)).drew.heap[w.heap.size]?=some (.cells cs 3 (0,0)) from heap_alloc_new w _))
  have hq2:∀ o W2,(w.alloc o).drew.grownBy W2 lf.ownBlock→W2.heap[p]?=some (.cells (CS.row (memV m) og cf ⟨lf,st.last,n5,st.pid,st.pend,st.bv,st.bn⟩ sc).toArray 220 (0,0)):=fun o W2 hg =>
    (hg.block p (by have:=hp.lt;simp;omega) (fun e=>by
      rcases hk.block with hb | ⟨hb,hrp⟩
      · rw [hb] at e;cases e
      · rw [hb] at e;injection e with e;exact hrp e.symm)).trans (heap_alloc_old hp.1 o)
  have HQ0:=Lib.hid (show Keeps3 p lf st.last w from Keeps3.of hp.1)
  have HQ1:=Lib.hid (fun o=>show Keeps3 p lf st.last (w.alloc o) from Keeps3.of (hp1 o).1)
  have HQ2:=Lib.hid (fun o W2 (hg:(w.alloc o).drew.grownBy W2 lf.ownBlock)=>show Keeps3 p lf st.last W2 from Keeps3.of (hq2 o W2 hg))
  clear hq2 hp hm hC hk hp1
  go_enter Tryz.func148,Tryz.ntmps148
  go_wp2_with (fail)
  refine start_ (n:=14) (S:=Keeps3 p lf st.last) (ds:=[13]) #[false,false,false,false,false,false,false,false,false,false,false,false,false,false] (by kernel_rfl) rfl rfl HQ0.out (fun hHeld=>?_)
  refine pure_ (i:=0) (N:=some 6) (v:=?_) (a':=?_) #[true,false,false,false,false,false,false,false,false,false,false,false,false,false] rfl rfl (by kernel_rfl) (fun _ _ _ h=>h) (Or.inl ⟨by rfl,?_⟩) ?_ ?_
  rotate_left
  · intro w'
    go_simp
    with_reducible rfl
  rotate_left
  · simp only [Act.put,List.setIfInBounds_toArray,List.set_cons_zero,List.set_cons_succ,i64_w,i32_w]
    rfl
  refine pure_ (i:=1) (N:=some 7) (v:=?_) (a':=?_) #[true,true,false,false,false,false,false,false,false,false,false,false,false,false] rfl rfl (by kernel_rfl) (fun _ _ _ h=>h) (Or.inl ⟨by rfl,?_⟩) ?_ ?_
  rotate_left
  · intro w'
    go_simp
    with_reducible rfl
  rotate_left
  · simp only [Act.put,List.setIfInBounds_toArray,List.set_cons_zero,List.set_cons_succ,i64_w,i32_w]
    rfl
  refine pure_ (i:=5) (N:=some 11) (v:=?_) (a':=?_) #[true,true,false,false,false,true,false,false,false,false,false,false,false,false] rfl rfl (by kernel_rfl) (fun _ _ _ h=>h) (Or.inl ⟨by rfl,?_⟩) ?_ ?_
  rotate_left
  · intro w'
    go_simp
    with_reducible rfl
  rotate_left
  · simp only [Act.put,List.setIfInBounds_toArray,List.set_cons_zero,List.set_cons_succ,i64_w,i32_w]
    rfl
  refine pure_ (i:=2) (N:=some 8) (v:=?_) (a':=?_) #[true,true,true,false,false,true,false,false,false,false,false,false,false,false] rfl rfl (by kernel_rfl) (fun _ _ _ h=>h) (Or.inl ⟨by rfl,?_⟩) ?_ ?_
  rotate_left
  · intro w'
    go_simp
    with_reducible rfl
  rotate_left
  · simp only [Act.put,List.setIfInBounds_toArray,List.set_cons_zero,List.set_cons_succ,i64_w,i32_w]
    rfl
  refine pure_ (i:=3) (N:=some 9) (v:=?_) (a':=?_) #[true,true,true,true,false,true,false,false,false,false,false,false,false,false] rfl rfl (by kernel_rfl) (fun _ _ _ h=>h) (Or.inl ⟨by rfl,?_⟩) ?_ ?_
  rotate_left
  · intro w'
    go_simp
    with_reducible rfl
  rotate_left
  · simp only [Act.put,List.setIfInBounds_toArray,List.set_cons_zero,List.set_cons_succ,i64_w,i32_w]
    rfl
  refine pure_ (i:=6) (N:=some 12) (v:=?_) (a':=?_) #[true,true,true,true,false,true,true,false,false,false,false,false,false,false] rfl rfl (by kernel_rfl) (fun _ _ _ h=>h) (Or.inl ⟨by rfl,?_⟩) ?_ ?_
  rotate_left
  · intro w'
    go_simp
    with_reducible rfl
  rotate_left
  · simp only [Act.put,List.setIfInBounds_toArray,List.set_cons_zero,List.set_cons_succ,i64_w,i32_w]
    rfl
  refine pure_ (i:=7) (N:=some 13) (v:=?_) (a':=?_) #[true,true,true,true,false,true,true,true,false,false,false,false,false,false] rfl rfl (by kernel_rfl) (fun _ _ _ h=>h) (Or.inl ⟨by rfl,?_⟩) ?_ ?_
  rotate_left
  · intro w'
    go_simp
    with_reducible rfl
  rotate_left
  · simp only [Act.put,List.setIfInBounds_toArray,List.set_cons_zero,List.set_cons_succ,i64_w,i32_w]
    rfl
  refine take_ (i:=4) (N:=some 10) (v:=?_) (a':=?_) #[true,true,true,true,true,true,true,true,false,false,false,false,false,false] rfl rfl (by kernel_rfl) (fun _ _ _ h=>h) (Or.inl ⟨by rfl,?_⟩) hHeld ?_ ?_
  rotate_left
  · rintro w' ⟨s0,s1,s2,s3⟩
    go_simp
    with_reducible rfl
  rotate_left
  · simp only [Act.put,List.setIfInBounds_toArray,List.set_cons_zero,List.set_cons_succ,i64_w,i32_w]
    rfl
  refine take_ (i:=8) (N:=some 14) (v:=?_) (a':=?_) #[true,true,true,true,true,true,true,true,true,false,false,false,false,false] rfl rfl (by kernel_rfl) (fun _ _ _ h=>h) (Or.inl ⟨by rfl,?_⟩) hHeld ?_ ?_
  rotate_left
  · rintro w' ⟨s0,s1,s2,s3⟩
    go_simp
    with_reducible rfl
  rotate_left
  · simp only [Act.put,List.setIfInBounds_toArray,List.set_cons_zero,List.set_cons_succ,i64_w,i32_w]
    rfl
  refine one_ (i:=9) (N:=some 15) #[true,true,true,true,true,true,true,true,true,true,false,false,false,false] rfl rfl (by kernel_rfl) (by decide) (fun K hK=>?_)
  refine value_ (w1:=(w.alloc (.cells #[.int .i64 st.last] 3)).drew) (v:=.slice (some ⟨w.heap.size,0,none⟩) 1 1) (by rfl) rfl (by go_simp) ?_
  refine hK.out _ _ (HQ1.out _) (fun hHeld=>?_)
  clear hK K
  refine norm_ (a':=?_) ?_ ?_
  rotate_left
  · show Act.put _ (some 15) _=_
    simp only [Act.put,List.setIfInBounds_toArray,List.set_cons_zero,List.set_cons_succ,i64_w,i32_w]
    rfl
  refine one_ (i:=10) (N:=some 16) #[true,true,true,true,true,true,true,true,true,true,true,false,false,false] rfl rfl (by kernel_rfl) (by decide) (fun K hK=>?_)
  (refine step_append_lies _ (by rfl) _ _ _ (by rfl) 0 3 i0 (.int .i64 0) 1 8 Tryz.underlying25 hi hz0 hz1 hz2 rfl (by omega) _ _ _ rfl (HO.out _) ⟨w.heap.size,0,none⟩ 1 1 _ rfl ?_ (HN.out _) ?_ (by omega) ?_ ?_ ?_ _ rfl ?_;rfl;(intro x hx;simp at hx;subst hx;rfl);(unfold maxLen;omega);omega;(simp <;> omega);intro g1 cap1 W2 hown hgrow hat hlt)
  refine hK.out _ _ (HQ2.out _ _ hgrow) (fun hHeld=>?_)
  clear hK K
  refine norm_ (a':=?_) ?_ ?_
  rotate_left
  · show Act.put _ (some 16) _=_
    simp only [Act.put,List.setIfInBounds_toArray,List.set_cons_zero,List.set_cons_succ,i64_w,i32_w]
    rfl
  refine pure_ (i:=11) (N:=some 17) (v:=?_) (a':=?_) #[true,true,true,true,true,true,true,true,true,true,true,true,false,false] rfl rfl (by kernel_rfl) (fun _ _ _ h=>h) (Or.inl ⟨by rfl,?_⟩) ?_ ?_
  rotate_left
  · intro w'
    go_simp
    with_reducible rfl
  rotate_left
  · simp only [Act.put,List.setIfInBounds_toArray,List.set_cons_zero,List.set_cons_succ,i64_w,i32_w]
    rfl
  refine pure_ (i:=12) (N:=some 18) (v:=?_) (a':=?_) #[true,true,true,true,true,true,true,true,true,true,true,true,true,false] rfl rfl (by kernel_rfl) (fun _ _ _ h=>h) (Or.inl ⟨by rfl,?_⟩) ?_ ?_
  rotate_left
  · intro w'
    go_simp
    with_reducible rfl
  rotate_left
  · simp only [Act.put,List.setIfInBounds_toArray,List.set_cons_zero,List.set_cons_succ,i64_w,i32_w]
    rfl
  have HOW:=Lib.hid hown
  have HGR:=Lib.hid hgrow
  have HAT:=Lib.hid hat
  clear hown hgrow hat
  obtain ⟨s0,s1,s2,s3⟩:=hHeld
  refine last_ (i:=13) (N:=none) #[true,true,true,true,true,true,true,true,true,true,true,true,true,true] rfl rfl (by kernel_rfl) (by decide) (fun K hK=>?_)
  refine skip_ (w1:=W2.setCell ⟨p,3,none⟩ (.slice (some ⟨g1,0,none⟩) (st.stk.length+1) cap1)) (by rfl) rfl (by go_simp) ?_
  refine hK.out _ _ ?_
  clear hK K
  refine done_ (by kernel_rfl) ?_
  go_wp2
  go_ret2
  have HF:=HP.out _ W2 g1 cap1 HGR.out HOW.out (by rcases HAT.out with h | h;exact .inl h;exact .inr (by simpa using h)) (by omega)
  exact ⟨_,rfl,⟨off,HF.1⟩,HF.2⟩

set_option maxRecDepth 100000 in
set_option maxHeartbeats 1000000 in
theorem cr_strE {p m:Nat} {og cf:Value} {c:Cfg} {S:List Nat} {st:CSt} {l:List UInt8} {w:World} (h:CR p m og cf c S (st,l) w) (xs:List Int) (x:Int) (hx:st.stk=xs++[x]) :
 Calls Tryz.prog 149 #[.pointer (some ⟨p,0,none⟩),ctxV] w (RD (CR p m og cf c) S w .nilIface ({ st with stk:=xs,last:=x },l)):=by
 obtain ⟨off,b,g,r,K,lf,n5,sc,rfl,hp,hm,hC,hk,hd,hr,hK⟩:=h
 dsimp only at hp hm hk
 have c3:w.cell? ⟨p,3,none⟩=some lf:=by rw [hp.cells];rfl
 have c4:w.cell? ⟨p,4,none⟩=some (.int .i64 st.last):=by rw [hp.cells];rfl
 have f4:=frozen_heap hp.1 4
 have f3:=frozen_heap hp.1 3
 rcases hk with ⟨rfl,h0,rfl⟩ | ⟨cap,cur,rfl,k1,k2,k3,k4,k5,k6⟩
 · rw [h0] at hx
   simp at hx
 have hl:st.stk.length=xs.length+1:=by rw [hx];simp
 have cx1:w.cell? ⟨r,xs.length,none⟩=some (.int .i64 x):=by
  rw [cell_heap k1]
  have:(cur.toList.take st.stk.length)[xs.length]?=(st.stk.map (Value.int .i64))[xs.length]?:=by rw [k5]
  rw [List.getElem?_take_of_lt (by omega),hx] at this
  simpa using this
 rw [hl] at c3
 obtain ⟨n,hn⟩:∃ n,xs.length=n:=⟨_,rfl⟩
 rw [hn] at c3 cx1
 have hnm:n+1≤9223372036854775807:=by unfold maxLen at k4;omega
 have hnc:n≤cap:=by omega
 have hw1:wrap64 ((n:Int)+1 - 1)=n:=by unfold wrap64;omega
 have hw2:wrap64 (n:Int)=n:=by unfold wrap64;omega
 have hw3:IntKind.i64.wrap ((n:Int)+1 - 1)=n:=by rw [IntKind.wrap_i64];omega
 have hw4:IntKind.i64.wrap (((n+1:Nat):Int) - 1)=n:=by rw [IntKind.wrap_i64];omega
 have hw5:IntKind.i64.wrap (n:Int)=n:=by rw [IntKind.wrap_i64];omega
 have hb1:(n:Int) < (n:Int)+1:=by omega
 have hb0:(0:Int)≤(n:Int):=by omega
 go_enter Tryz.func149,Tryz.ntmps149
 go_wp2_with (fail)
 go_region_held3 (fun W'=>W'.cell? ⟨p,3,none⟩=some (.slice (some ⟨r,0,none⟩) (n+1) cap)∧W'.cell? ⟨r,n,none⟩=some (.int .i64 x)∧W'.frozen? ⟨p,4,none⟩=false) (first | exact ⟨c3,cx1,f4⟩ | (simp [go_sem, *];done)) (fail)
 obtain ⟨W1,hW1⟩:∃ W1,W1=(w.setCell ⟨p,4,none⟩ (.int .i64 x)).drew:=⟨_,rfl⟩
 rw [← hW1]
 have d3:W1.cell? ⟨p,3,none⟩=some (.slice (some ⟨r,0,none⟩) (n+1) cap):=by rw [hW1];simp [go_sem,c3]
 have g3:W1.frozen? ⟨p,3,none⟩=false:=by rw [hW1];simp [go_sem,f3]
 have HW1:=Lib.hid hW1
 clear hW1 c3 c4 cx1 f4 f3
 have HP:=Lib.hid (CP.pop hx hp hm hC k1 k2 k3 k4 k5 k6 hd hr hK)
 go_wp2_with (fail)
 have HQ0:=Lib.hid (show Keeps1 p (.slice (some ⟨r,0,none⟩) (n+1) cap) W1 from ⟨d3,g3⟩)
 refine start_ (n:=15) (S:=Keeps1 p (.slice (some ⟨r,0,none⟩) (n+1) cap)) (ds:=[14]) #[false,false,false,false,false,false,false,false,false,false,false,false,false,false,false] (by kernel_rfl) rfl rfl HQ0.out (fun hHeld=>?_)
 refine pure_ (i:=0) (N:=some 28) (v:=?_) (a':=?_) #[true,false,false,false,false,false,false,false,false,false,false,false,false,false,false] rfl rfl (by kernel_rfl) (fun _ _ _ h=>h) (Or.inl ⟨by rfl,?_⟩) ?_ ?_
 rotate_left
 · intro w'
   go_simp
   with_reducible rfl
 rotate_left
 · simp only [Act.put,List.setIfInBounds_toArray,List.set_cons_zero,List.set_cons_succ,i64_w,i32_w,hw1,hw2,hw3,hw4,hw5]
   rfl
 refine pure_ (i:=1) (N:=some 29) (v:=?_) (a':=?_) #[true,true,false,false,false,false,false,false,false,false,false,false,false,false,false] rfl rfl (by kernel_rfl) (fun _ _ _ h=>h) (Or.inl ⟨by rfl,?_⟩) ?_ ?_
 rotate_left
 · intro w'
   go_simp
   with_reducible rfl
 rotate_left
 · simp only [Act.put,List.setIfInBounds_toArray,List.set_cons_zero,List.set_cons_succ,i64_w,i32_w,hw1,hw2,hw3,hw4,hw5]
   rfl
 refine pure_ (i:=5) (N:=some 33) (v:=?_) (a':=?_) #[true,true,false,false,false,true,false,false,false,false,false,false,false,false,false] rfl rfl (by kernel_rfl) (fun _ _ _ h=>h) (Or.inl ⟨by rfl,?_⟩) ?_ ?_
 rotate_left
 · intro w'
   go_simp
   with_reducible rfl
 rotate_left
 · simp only [Act.put,List.setIfInBounds_toArray,List.set_cons_zero,List.set_cons_succ,i64_w,i32_w,hw1,hw2,hw3,hw4,hw5]
   rfl
 refine pure_ (i:=2) (N:=some 30) (v:=?_) (a':=?_) #[true,true,true,false,false,true,false,false,false,false,false,false,false,false,false] rfl rfl (by kernel_rfl) (fun _ _ _ h=>h) (Or.inl ⟨by rfl,?_⟩) ?_ ?_
 rotate_left
 · intro w'
   go_simp
   with_reducible rfl
 rotate_left
 · simp only [Act.put,List.setIfInBounds_toArray,List.set_cons_zero,List.set_cons_succ,i64_w,i32_w,hw1,hw2,hw3,hw4,hw5]
   rfl
 refine pure_ (i:=3) (N:=some 31) (v:=?_) (a':=?_) #[true,true,true,true,false,true,false,false,false,false,false,false,false,false,false] rfl rfl (by kernel_rfl) (fun _ _ _ h=>h) (Or.inl ⟨by rfl,?_⟩) ?_ ?_
 rotate_left
 · intro w'
   go_simp
   with_reducible rfl
 rotate_left
 · simp only [Act.put,List.setIfInBounds_toArray,List.set_cons_zero,List.set_cons_succ,i64_w,i32_w,hw1,hw2,hw3,hw4,hw5]
   rfl
 refine pure_ (i:=6) (N:=some 34) (v:=?_) (a':=?_) #[true,true,true,true,false,true,true,false,false,false,false,false,false,false,false] rfl rfl (by kernel_rfl) (fun _ _ _ h=>h) (Or.inl ⟨by rfl,?_⟩) ?_ ?_
 rotate_left
 · intro w'
   go_simp
   with_reducible rfl
 rotate_left
 · simp only [Act.put,List.setIfInBounds_toArray,List.set_cons_zero,List.set_cons_succ,i64_w,i32_w,hw1,hw2,hw3,hw4,hw5]
   rfl
 refine pure_ (i:=7) (N:=some 35) (v:=?_) (a':=?_) #[true,true,true,true,false,true,true,true,false,false,false,false,false,false,false] rfl rfl (by kernel_rfl) (fun _ _ _ h=>h) (Or.inl ⟨by rfl,?_⟩) ?_ ?_
 rotate_left
 · intro w'
   go_simp
   with_reducible rfl
 rotate_left
 · simp only [Act.put,List.setIfInBounds_toArray,List.set_cons_zero,List.set_cons_succ,i64_w,i32_w,hw1,hw2,hw3,hw4,hw5]
   rfl
 refine take_ (i:=4) (N:=some 32) (v:=?_) (a':=?_) #[true,true,true,true,true,true,true,true,false,false,false,false,false,false,false] rfl rfl (by kernel_rfl) (fun _ _ _ h=>h) (Or.inl ⟨by rfl,?_⟩) hHeld ?_ ?_
 rotate_left
 · rintro w' ⟨s0,s1⟩
   go_simp
   with_reducible rfl
 rotate_left
 · simp only [Act.put,List.setIfInBounds_toArray,List.set_cons_zero,List.set_cons_succ,i64_w,i32_w,hw1,hw2,hw3,hw4,hw5]
   rfl
 refine take_ (i:=8) (N:=some 36) (v:=?_) (a':=?_) #[true,true,true,true,true,true,true,true,true,false,false,false,false,false,false] rfl rfl (by kernel_rfl) (fun _ _ _ h=>h) (Or.inl ⟨by rfl,?_⟩) hHeld ?_ ?_
 rotate_left
 · rintro w' ⟨s0,s1⟩
   go_simp
   with_reducible rfl
 rotate_left
 · simp only [Act.put,List.setIfInBounds_toArray,List.set_cons_zero,List.set_cons_succ,i64_w,i32_w,hw1,hw2,hw3,hw4,hw5]
   rfl
 refine pure_ (i:=9) (N:=some 37) (v:=?_) (a':=?_) #[true,true,true,true,true,true,true,true,true,true,false,false,false,false,false] rfl rfl (by kernel_rfl) (fun _ _ _ h=>h) (Or.inl ⟨by rfl,?_⟩) ?_ ?_
 rotate_left
 · intro w'
   go_simp
   with_reducible rfl
 rotate_left
 · simp only [Act.put,List.setIfInBounds_toArray,List.set_cons_zero,List.set_cons_succ,i64_w,i32_w,hw1,hw2,hw3,hw4,hw5]
   rfl
 refine pure_ (i:=10) (N:=some 38) (v:=?_) (a':=?_) #[true,true,true,true,true,true,true,true,true,true,true,false,false,false,false] rfl rfl (by kernel_rfl) (fun _ _ _ h=>h) (Or.inl ⟨by rfl,?_⟩) ?_ ?_
 rotate_left
 · intro w'
   go_simp
   with_reducible rfl
 rotate_left
 · simp only [Act.put,List.setIfInBounds_toArray,List.set_cons_zero,List.set_cons_succ,i64_w,i32_w,hw1,hw2,hw3,hw4,hw5]
   rfl
 refine pure_ (i:=11) (N:=some 39) (v:=?_) (a':=?_) #[true,true,true,true,true,true,true,true,true,true,true,true,false,false,false] rfl rfl (by kernel_rfl) (fun _ _ _ h=>h) (Or.inl ⟨by rfl,?_⟩) ?_ ?_
 rotate_left
 · intro w'
   go_simp
   with_reducible rfl
 rotate_left
 · simp only [Act.put,List.setIfInBounds_toArray,List.set_cons_zero,List.set_cons_succ,i64_w,i32_w,hw1,hw2,hw3,hw4,hw5]
   rfl
 refine pure_ (i:=12) (N:=some 40) (v:=?_) (a':=?_) #[true,true,true,true,true,true,true,true,true,true,true,true,true,false,false] rfl rfl (by kernel_rfl) (fun _ _ _ h=>h) (Or.inl ⟨by rfl,?_⟩) ?_ ?_
 rotate_left
 · intro w'
   go_simp
   with_reducible rfl
 rotate_left
 · simp only [Act.put,List.setIfInBounds_toArray,List.set_cons_zero,List.set_cons_succ,i64_w,i32_w,hw1,hw2,hw3,hw4,hw5]
   rfl
 refine pure_ (i:=13) (N:=some 41) (v:=?_) (a':=?_) #[true,true,true,true,true,true,true,true,true,true,true,true,true,true,false] rfl rfl (by kernel_rfl) (fun _ _ _ h=>h) (Or.inl ⟨by rfl,?_⟩) ?_ ?_
 rotate_left
 · intro w'
   go_simp
   with_reducible rfl
 rotate_left
 · simp only [Act.put,List.setIfInBounds_toArray,List.set_cons_zero,List.set_cons_succ,i64_w,i32_w,hw1,hw2,hw3,hw4,hw5]
   rfl
 obtain ⟨s0,s1⟩:=hHeld
 refine last_ (i:=14) (N:=none) #[true,true,true,true,true,true,true,true,true,true,true,true,true,true,true] rfl rfl (by kernel_rfl) (by decide) (fun K hK=>?_)
 refine skip_ (w1:=W1.drew.setCell ⟨p,3,none⟩ (.slice (some ⟨r,0,none⟩) n cap)) (by rfl) rfl (by go_simp) ?_
 refine hK.out _ _ ?_
 clear hK K
 refine done_ (by kernel_rfl) ?_
 go_wp2
 go_ret
 have hF:=HP.out
 rw [hn] at hF
 rw [HW1.out]
 exact ⟨_,rfl,⟨off,hF.1⟩,hF.2⟩

set_option maxRecDepth 100000 in
set_option maxHeartbeats 1000000 in
theorem cr_strE_none {p m:Nat} {og cf:Value} {c:Cfg} {S:List Nat} {st:CSt} {l:List UInt8} {w:World} (h:CR p m og cf c S (st,l) w) (hx:st.stk=[]) :
    Calls Tryz.prog 149 #[.pointer (some ⟨p,0,none⟩),ctxV] w (Told (CR p m og cf c) .strE S w ({},11,(st,l))):=by
  have HI:=Lib.hid h
  obtain ⟨off,b,g,r,K,lf,n5,sc,rfl,hp,hm,hC,hk,hd,hr,hK⟩:=h
  dsimp only at hp hm hk
  rw [hx] at hk
  have c3:∃ ad cap,w.cell? ⟨p,3,none⟩=some (.slice ad 0 cap):=by
    rcases hk with ⟨rfl,h0,rfl⟩ | ⟨cap,cur,rfl,k1,k2,k3,k4,k5,k6⟩
    · exact ⟨_,_,by rw [hp.cells];rfl⟩
    · exact ⟨_,_,by rw [hp.cells];rfl⟩
  obtain ⟨ad,cap,c3⟩:=c3
  clear hk hp hm hC hK hd hr hx
  have hem:=errS_m
  have hen:=errS_n
  go_enter Tryz.func149,Tryz.ntmps149
  go_wp2_with (first | (go_at_call 78;go_in) | (go_at_call 77;go_in) | (go_at_call 283;go_in))
  go_ret
  exact ⟨_,p :: m :: b :: g :: r :: K,rfl,.inr ⟨w.heap.size+1,1,_,_,rfl,by omega,rfl,heap_alloc_at (by simp) _⟩,HI.out.step (((Step.refl [] w).alloc _).alloc _) (by simp),((Step.refl _ _).alloc _).alloc _⟩

end Go.Proofs.YtmjcnomgpikncaaGreatDoor

namespace Go.Proofs.YtmjcnomgpikncaaGreatDoor

open Go.RowKit Go.Deep



theorem cr_msgE {p m:Nat} {og cf:Value} {c:Cfg} {S:List Nat} {st:CSt} {l:List UInt8} {w:World} (h:CR p m og cf c S (st,l) w):Calls Tryz.prog 144 #[.pointer (some ⟨p,0,none⟩),ctxV] w (RD (CR p m og cf c) S w .nilIface (st,l)):=by
  go_enter Tryz.func144,Tryz.ntmps144
  go_wp2
  go_ret
  exact ⟨_,rfl,h,Step.refl _ _⟩

theorem cr_fldE {p m:Nat} {og cf:Value} {c:Cfg} {S:List Nat} {st:CSt} {l:List UInt8} {w:World} (h:CR p m og cf c S (st,l) w):Calls Tryz.prog 135 #[.pointer (some ⟨p,0,none⟩),ctxV] w (RD (CR p m og cf c) S w .nilIface (st,l)):=by
  go_enter Tryz.func135,Tryz.ntmps135
  go_wp2
  go_ret
  exact ⟨_,rfl,h,Step.refl _ _⟩

theorem cr_mapE {p m:Nat} {og cf:Value} {c:Cfg} {S:List Nat} {st:CSt} {l:List UInt8} {w:World} (h:CR p m og cf c S (st,l) w):Calls Tryz.prog 142 #[.pointer (some ⟨p,0,none⟩),ctxV] w (RD (CR p m og cf c) S w .nilIface (st,l)):=by
  go_enter Tryz.func142,Tryz.ntmps142
  go_wp2
  go_ret
  exact ⟨_,rfl,h,Step.refl _ _⟩

theorem cr_lstE {p m:Nat} {og cf:Value} {c:Cfg} {S:List Nat} {st:CSt} {l:List UInt8} {w:World} (h:CR p m og cf c S (st,l) w):Calls Tryz.prog 140 #[.pointer (some ⟨p,0,none⟩),ctxV] w (RD (CR p m og cf c) S w .nilIface (st,l)):=by
  go_enter Tryz.func140,Tryz.ntmps140
  go_wp2
  go_ret
  exact ⟨_,rfl,h,Step.refl _ _⟩

theorem cr_setE {p m:Nat} {og cf:Value} {c:Cfg} {S:List Nat} {st:CSt} {l:List UInt8} {w:World} (h:CR p m og cf c S (st,l) w):Calls Tryz.prog 146 #[.pointer (some ⟨p,0,none⟩),ctxV] w (RD (CR p m og cf c) S w .nilIface (st,l)):=by
  go_enter Tryz.func146,Tryz.ntmps146
  go_wp2
  go_ret
  exact ⟨_,rfl,h,Step.refl _ _⟩

theorem and31 (x:Int) (h0:0≤x) (h1:x < 256):bits .and .u8 x 31=x % 32:=bits_mask .u8 8 (by decide) wraps_u8 5 (by decide) x h0 h1

theorem and7 (x:Int) (h0:0≤x) (h1:x < 256):bits .and .u8 x 7=x % 8:=bits_mask .u8 8 (by decide) wraps_u8 3 (by decide) x h0 h1

set_option maxRecDepth 100000 in
set_option maxHeartbeats 2000000 in
theorem cr_msgB_id {p m:Nat} {og cf:Value} {c:Cfg} {S:List Nat} {st:CSt} {x:UInt8} {l:List UInt8} {w:World} (h:CR p m og cf c S (st,x :: l) w) (hx:¬ (x.toNat:Int)=130) :
    Calls Tryz.prog 143 #[.pointer (some ⟨p,0,none⟩),ctxV] w (Told (CR p m og cf c) .msgB S w ({},14,(st,l))):=by
  have hmeth:=ctx_Deadline
  have hnil:=ctx_nil_Deadline
  have hem:=errS_m
  have hen:=errS_n
  have HX:=Lib.hid (fun W (hW:Step [] [] w W)=>cr_direct (h.step hW (by simp)))
  obtain ⟨y,hy⟩:∃ y:Int,(x.toNat:Int)=y:=⟨_,rfl⟩
  rw [hy] at HX hx
  clear h hy
  go_enter Tryz.func143,Tryz.ntmps143
  go_wp2_with fail
  refine (deadline_any _).mono ?_
  rintro e W0 ⟨rfl,hb0⟩
  have hs0:Step [] [] w W0:=Step.ofBelow hb0
  have hs1:∀ o,Step [] [] w (W0.alloc o):=fun o=>hs0.alloc o
  have HS0:=Lib.hid hs0
  have HS1:=Lib.hid hs1
  clear hs0 hs1 hb0
  go_wp2_with fail
  refine wp_loop_rounds 1 ?_
  rw [rounds_succ]
  go_wp2_with fail
  refine (HX.out _ (HS1.out _)).mono ?_
  rintro e W1 ⟨S1,rfl,hI,hs⟩
  go_wp2_with (first | (go_at_call 78;go_in) | (go_at_call 77;go_in) | (go_at_call 283;go_in))
  (try simp only [Exit.inBlock,Exit.then])
  refine bodyPost_ret (results_tmp4 rfl _ _ _) rfl ?_
  exact ⟨_,S1,rfl,.inr ⟨W1.heap.size+1,4,_,_,rfl,by omega,rfl,heap_alloc_at (by simp) _⟩,hI.step (((Step.refl [] W1).alloc _).alloc _) (by simp),((((HS1.out _).more (by simp) (fun k hk=>.inr (.inl hk))).trans hs).alloc _).alloc _⟩

set_option maxRecDepth 100000 in
set_option maxHeartbeats 2000000 in
theorem cr_msgB_version {p m:Nat} {og cf:Value} {c:Cfg} {S:List Nat} {st:CSt} {x y:UInt8} {l:List UInt8} {w:World} (h:CR p m og cf c S (st,x :: y :: l) w) (hx:(x.toNat:Int)=130) (hy:¬ (y.toNat:Int) % 32=1) :
    Calls Tryz.prog 143 #[.pointer (some ⟨p,0,none⟩),ctxV] w (Told (CR p m og cf c) .msgB S w ({ t:=(y.toNat:Int) / 32 },14,(st,l))):=by
  have hmeth:=ctx_Deadline
  have hnil:=ctx_nil_Deadline
  have hem:=errS_m
  have hen:=errS_n
  have HX:=Lib.hid (fun W (hW:Step [] [] w W)=>cr_direct (h.step hW (by simp)))
  have hyl:=y.toNat_lt
  obtain ⟨z,hz⟩:∃ z:Int,(y.toNat:Int)=z:=⟨_,rfl⟩
  have hz0:0≤z∧z < 256:=by omega
  rw [hx] at HX
  rw [hz] at hy ⊢
  have h31:=and31 z hz0.1 hz0.2
  have h7:=and7 (z / 32) (by omega) (by omega)
  obtain ⟨v,hv⟩:∃ v,z % 32=v:=⟨_,rfl⟩
  rw [hv] at h31 hy
  obtain ⟨q,hq⟩:∃ q,z / 32=q:=⟨_,rfl⟩
  have hqr:0≤q∧q < 8:=by omega
  rw [hq] at h7 ⊢
  rw [show q % 8=q by omega] at h7
  have hqw:IntKind.i32.wrap q=q:=by rw [IntKind.wrap_i32];omega
  have hqw2:wrap32 q=q:=by unfold wrap32;omega
  clear h hx hyl
  go_enter Tryz.func143,Tryz.ntmps143
  go_wp2_with fail
  refine (deadline_any _).mono ?_
  rintro e W0 ⟨rfl,hb0⟩
  have hs0:Step [] [] w W0:=Step.ofBelow hb0
  have hs1:∀ o,Step [] [] w (W0.alloc o):=fun o=>hs0.alloc o
  have HS0:=Lib.hid hs0
  have HS1:=Lib.hid hs1
  clear hs0 hs1 hb0
  go_wp2_with fail
  refine wp_loop_rounds 1 ?_
  rw [rounds_succ]
  go_wp2_with fail
  refine (HX.out _ (HS1.out _)).mono ?_
  rintro e W1 ⟨S1,rfl,hI1,hs1⟩
  have HY:=Lib.hid (cr_direct hI1)
  rw [hz] at HY
  clear hI1 hz
  go_wp2_with fail
  refine HY.out.mono ?_
  rintro e W2 ⟨S2,rfl,hI,hs2⟩
  go_wp2_with (first | (go_at_call 78;go_in) | (go_at_call 77;go_in) | (go_at_call 283;go_in))
  (try simp only [Exit.inBlock,Exit.then])
  refine bodyPost_ret (results_tmp4 rfl _ _ _) rfl ?_
  exact ⟨_,S2,rfl,.inr ⟨W2.heap.size+1,4,_,_,rfl,by omega,rfl,heap_alloc_at (by simp) _⟩,hI.step (((Step.refl [] W2).alloc _).alloc _) (by simp),(((((HS1.out _).more (by simp) (fun k hk=>.inr (.inl hk))).trans hs1).trans hs2).alloc _).alloc _⟩

set_option maxRecDepth 100000 in
set_option maxHeartbeats 2000000 in
theorem cr_msgB {p m:Nat} {og cf:Value} {c:Cfg} {S:List Nat} {st:CSt} {x y:UInt8} {l r r2 s:List UInt8} {a:Int} {k:Nat} {w:World} (h:CR p m og cf c S (st,x :: y :: l) w) (hx:(x.toNat:Int)=130) (hy:(y.toNat:Int) % 32=1) (hu:v64 l=some (a,r))
    (hs:∀ S (W:World),CR p m og cf c S (st,r) W→Calls Tryz.prog 147 #[.pointer (some ⟨p,0,none⟩),ctxV] W (Told (CR p m og cf c) .str S W ({ s:=s },k,(st,r2)))) :
    Calls Tryz.prog 143 #[.pointer (some ⟨p,0,none⟩),ctxV] w (Told (CR p m og cf c) .msgB S w ({ s:=s,t:=(y.toNat:Int) / 32,n:=wrap32 a },k,(st,r2))):=by
  have hmeth:=ctx_Deadline
  have hnil:=ctx_nil_Deadline
  have HX:=Lib.hid (fun W (hW:Step [] [] w W)=>cr_direct (h.step hW (by simp)))
  have hyl:=y.toNat_lt
  obtain ⟨z,hz⟩:∃ z:Int,(y.toNat:Int)=z:=⟨_,rfl⟩
  have hz0:0≤z∧z < 256:=by omega
  rw [hx] at HX
  rw [hz] at hy ⊢
  have h31:=and31 z hz0.1 hz0.2
  have h7:=and7 (z / 32) (by omega) (by omega)
  rw [hy] at h31
  obtain ⟨q,hq⟩:∃ q,z / 32=q:=⟨_,rfl⟩
  have hqr:0≤q∧q < 8:=by omega
  rw [hq] at h7 ⊢
  rw [show q % 8=q by omega] at h7
  have hqw:IntKind.i32.wrap q=q:=by rw [IntKind.wrap_i32];omega
  have hqw2:wrap32 q=q:=by unfold wrap32;omega
  have HU:=Lib.hid hu
  have HSS:=Lib.hid hs
  clear h hx hyl hu hs
  go_enter Tryz.func143,Tryz.ntmps143
  go_wp2_with fail
  refine (deadline_any _).mono ?_
  rintro e W0 ⟨rfl,hb0⟩
  have hs0:Step [] [] w W0:=Step.ofBelow hb0
  have hs1:∀ o,Step [] [] w (W0.alloc o):=fun o=>hs0.alloc o
  have HS0:=Lib.hid hs0
  have HS1:=Lib.hid hs1
  clear hs0 hs1 hb0
  go_wp2_with fail
  refine wp_loop_rounds 1 ?_
  rw [rounds_succ]
  go_wp2_with fail
  refine (HX.out _ (HS1.out _)).mono ?_
  rintro e W1 ⟨S1,rfl,hI1,hs1⟩
  have HY:=Lib.hid (cr_direct hI1)
  rw [hz] at HY
  clear hI1 hz
  go_wp2_with fail
  refine HY.out.mono ?_
  rintro e W2 ⟨S2,rfl,hI2,hs2⟩
  have HV:=Lib.hid (cr_v32 hI2 HU.out)
  have HS2:=Lib.hid ((((HS1.out _).more (by simp) (fun k hk=>.inr (.inl hk))).trans hs1).trans hs2)
  clear hI2 hs1 hs2 HY
  go_wp2_with fail
  refine HV.out.mono ?_
  rintro e W3 ⟨S3,rfl,hI3,hs3⟩
  have HR:=Lib.hid (HSS.out _ _ hI3)
  have HS3:=Lib.hid (HS2.out.trans hs3)
  clear hI3 hs3 HV HS2
  go_wp2_with fail
  refine HR.out.mono ?_
  rintro e W4 ⟨ev,S4,rfl,he,hI,hs4⟩
  have HE:=Lib.hid he
  clear he
  dsimp only [ROp.tup]
  go_wp2
  (try simp only [Exit.inBlock,Exit.then])
  refine bodyPost_ret (results_tmp4 rfl _ _ _) rfl ?_
  exact ⟨ev,S4,rfl,HE.out,hI,HS3.out.trans hs4⟩

end Go.Proofs.YtmjcnomgpikncaaGreatDoor
