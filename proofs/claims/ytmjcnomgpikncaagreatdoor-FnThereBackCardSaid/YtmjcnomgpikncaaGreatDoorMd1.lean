/- The writers of the binary protocol. No condition. -/
import Derived.Test.YtmjcnomgpikncaaGreatDoorMa2
import Derived.Test.YtmjcnomgpikncaaGreatDoorMc
import Derived.Outline
set_option linter.unusedVariables false
set_option linter.unusedSimpArgs false
namespace Go.Proofs.YtmjcnomgpikncaaGreatDoor

open Go.RowKit Go.Deep



set_option maxHeartbeats 2000000 in
set_option maxRecDepth 100000 in
theorem buf_writeString_none (b g:Nat) (bs:List Value) (s:ByteArray) (w:World) (h:Buf b g 0 bs w) (hs0:s.size=0) :
    Calls Tryz.prog 116 #[.pointer (some ⟨b,0,none⟩),.string s] w fun e w'=>e=.returned (.tuple #[.int .i64 0,.nilIface])∧Buf b g 0 bs w'∧Step [b,g] [b,g] w w':=by
  obtain ⟨lr,c2,f2⟩:=h.cell2
  have h0:=h.last 0
  have hst0:Step [b,g] [b,g] w (w.setCell ⟨b,2,none⟩ (.int .i8 0)):=(Step.refl _ _).setCell (p:=⟨b,2,none⟩) (.inl (by simp)) _
  have hce:∀ d dLen dCap W,(Builtin.copy_ #[24,9] 3 #[.slice d dLen dCap,.string s]).run Tryz.prog W=.ok (goInt 0) W:=fun d dLen dCap W=>Lib.run_copy_empty_string W 24 9 3 5 d dLen dCap s Tryz.underlying24 (by rw [size8];rfl) hs0
  obtain rfl:s=ByteArray.empty:=by
    cases s with | mk a=>exact congrArg ByteArray.mk (Array.eq_empty_of_size_eq_zero hs0)
  obtain ⟨lr0,⟨hbk,rfl,_,rfl⟩ | ⟨cap,cur,hbk,hgb,hg,hnc,hcm,hcs,htk⟩⟩:=id h0
  · have d0:(w.setCell ⟨g,2,none⟩ (.int .i8 0)).cell? ⟨g,0,none⟩=some (.slice none 0 0):=by rw [cell_heap hbk];rfl
    have hT:=Tryz.Buffer_tryGrow_room g none 0 0 0 _ d0 (frozen_heap hbk 0) (Nat.le_refl _) (Nat.zero_le _) (Nat.le_refl _)
    have hbk2:=heap_set_same (o:=0) hbk (.slice none (0+0) 0)
    have d1:((w.setCell ⟨g,2,none⟩ (.int .i8 0)).setCell ⟨g,0,none⟩ (.slice none (0+0) 0)).cell? ⟨g,0,none⟩=some (.slice none 0 0):=by rw [cell_heap hbk2];rfl
    have hs1:Step [g,g] [g,g] w ((w.setCell ⟨g,2,none⟩ (.int .i8 0)).setCell ⟨g,0,none⟩ (.slice none (0+0) 0)):=hst0.setCell (p:=⟨g,0,none⟩) (.inl (by simp)) _
    have hB:Buf g g 0 [] ((w.setCell ⟨g,2,none⟩ (.int .i8 0)).setCell ⟨g,0,none⟩ (.slice none (0+0) 0)):=⟨lr0,.inl ⟨by rw [hbk2];simp,rfl,rfl,rfl⟩⟩
    clear hbk2
    go_enter Tryz.func116,Tryz.ntmps116
    go_wp2_with (go_at_call 85;refine hT.mono ?_;rintro e W1 ⟨rfl,rfl⟩)
    all_goals (go_ret2;exact ⟨by simp,hB,hs1⟩)
  · simp only [Nat.zero_add,List.drop_zero] at hbk hnc htk
    have d0:(w.setCell ⟨b,2,none⟩ (.int .i8 0)).cell? ⟨b,0,none⟩=some (.slice (some ⟨g,0,none⟩) bs.length cap):=by rw [cell_heap hbk];rfl
    have hT:=Tryz.Buffer_tryGrow_room b (some ⟨g,0,none⟩) bs.length cap 0 _ d0 (frozen_heap hbk 0) hnc hcm (by omega)
    have hbk2:=heap_set_same (o:=0) hbk (.slice (some ⟨g,0,none⟩) (bs.length+0) cap)
    have d1:((w.setCell ⟨b,2,none⟩ (.int .i8 0)).setCell ⟨b,0,none⟩ (.slice (some ⟨g,0,none⟩) (bs.length+0) cap)).cell? ⟨b,0,none⟩=some (.slice (some ⟨g,0,none⟩) bs.length cap):=by rw [cell_heap hbk2];rfl
    have hs1:Step [b,g] [b,g] w ((w.setCell ⟨b,2,none⟩ (.int .i8 0)).setCell ⟨b,0,none⟩ (.slice (some ⟨g,0,none⟩) (bs.length+0) cap)):=hst0.setCell (p:=⟨b,0,none⟩) (.inl (by simp)) _
    have hB:Buf b g 0 bs ((w.setCell ⟨b,2,none⟩ (.int .i8 0)).setCell ⟨b,0,none⟩ (.slice (some ⟨g,0,none⟩) (bs.length+0) cap)) :=
      ⟨lr0,.inr ⟨cap,cur,by rw [hbk2];simp,hgb,heap_set_other hg hgb _,by omega,hcm,hcs,by simpa using htk⟩⟩
    clear hbk2
    unfold maxLen at hcm
    by_cases hne:cap=bs.length
    · subst hne
      go_enter Tryz.func116,Tryz.ntmps116
      go_wp2_with (go_at_call 85;refine hT.mono ?_;rintro e W1 ⟨rfl,rfl⟩)
      all_goals (go_ret2;exact ⟨by simp,hB,hs1⟩)
    · go_enter Tryz.func116,Tryz.ntmps116
      go_wp2_with (go_at_call 85;refine hT.mono ?_;rintro e W1 ⟨rfl,rfl⟩)
      all_goals (go_ret2;exact ⟨by simp,hB,hs1⟩)

theorem mem_writeString (m b g:Nat) (l s:List UInt8) (w:World) (h:Mem m b g 0 (Lib.byteCells l) w) (hlim:l.length+s.length≤140737488355328) :
    Calls Tryz.prog 116 #[.pointer (some ⟨b,0,none⟩),.string ⟨s.toArray⟩] w fun e w'=>(∃ n,e=.returned (.tuple #[.int .i64 n,.nilIface]))∧∃ g1,Mem m b g1 0 (Lib.byteCells (l++s)) w'∧Step [b,g] [b,g1] w w':=by
  by_cases hs:s.length=0
  · refine (buf_writeString_none b g _ _ w h.2.2.2 (by show s.toArray.size=0;simpa using hs)).mono ?_
    rintro e w' ⟨rfl,hB,hst⟩
    obtain rfl:s=[]:=List.length_eq_zero_iff.1 hs
    exact ⟨⟨_,rfl⟩,g,by rw [List.append_nil];exact h.turn hB hst,hst⟩
  · refine (buf_writeString b g _ ⟨s.toArray⟩ w h.2.2.2 (Lib.byteCells_one _) (by show 1≤s.toArray.size;simp;omega) (by rw [Lib.byteCells_length];show l.length+s.toArray.size≤_;simpa using hlim)).mono ?_
    rintro e w' ⟨rfl,g1,hB,hst⟩
    refine ⟨⟨_,rfl⟩,g1,?_,hst⟩
    rw [Lib.byteCells_append]
    exact h.turn hB hst

theorem mem_writeBytes' (m b g n c:Nat) (ao:Option Addr) (l s:List UInt8) (w:World) (h:Mem m b g 0 (Lib.byteCells l) w) (hn:s.length=n) (hsrc:∀ a,ao=some a→0 < n→(a.block≠b∧a.block≠g∧a.block < w.heap.size)∧∀ j v,(Lib.byteCells s)[j]?=some v→w.cell? (a.add j)=some v) (hno:ao=none→n=0) (hlim:l.length+n≤140737488355328) :
    Calls Tryz.prog 72 #[.pointer (some ⟨b,0,none⟩),.slice ao n c] w fun e w'=>(∃ n,e=.returned (.tuple #[.int .i64 n,.nilIface]))∧∃ g1,Mem m b g1 0 (Lib.byteCells (l++s)) w'∧Step [b,g] [b,g1] w w':=by
  by_cases hs:n=0
  · subst hs
    obtain rfl:s=[]:=List.length_eq_zero_iff.1 hn
    refine (buf_write_none b g c _ ao w h.2.2.2).mono ?_
    rintro e w' ⟨rfl,hB,hst⟩
    exact ⟨⟨_,rfl⟩,g,by rw [List.append_nil];exact h.turn hB hst,hst⟩
  · cases ao with
    | none=>exact absurd (hno rfl) hs
    | some a =>
      obtain ⟨⟨k1,k2,k3⟩,k4⟩:=hsrc a rfl (by omega)
      refine (buf_write b g n c _ (Lib.byteCells s) a w h.2.2.2 (Lib.byteCells_one _) (by rw [Lib.byteCells_length];exact hn) k1 k2 k3 k4 (Lib.byteCells_one _) (by omega) (by rw [Lib.byteCells_length];exact hlim)).mono ?_
      rintro e w' ⟨rfl,g1,hB,hst⟩
      refine ⟨⟨_,rfl⟩,g1,?_,hst⟩
      rw [Lib.byteCells_append]
      exact h.turn hB hst

theorem mem_writeBytes (m b g n c:Nat) (ao:Option Addr) (l s:List UInt8) (w:World) (h:Mem m b g 0 (Lib.byteCells l) w) (hn:s.length=n) (hsrc:∀ a,ao=some a→(a.block≠b∧a.block≠g∧a.block < w.heap.size)∧∀ j v,(Lib.byteCells s)[j]?=some v→w.cell? (a.add j)=some v) (hno:ao=none→n=0) (hlim:l.length+n≤140737488355328) :
    Calls Tryz.prog 72 #[.pointer (some ⟨b,0,none⟩),.slice ao n c] w fun e w'=>(∃ n,e=.returned (.tuple #[.int .i64 n,.nilIface]))∧∃ g1,Mem m b g1 0 (Lib.byteCells (l++s)) w'∧Step [b,g] [b,g1] w w' :=
  mem_writeBytes' m b g n c ao l s w h hn (fun a ha _=>hsrc a ha) hno hlim

end Go.Proofs.YtmjcnomgpikncaaGreatDoor

namespace Go.Proofs.YtmjcnomgpikncaaGreatDoor

open Go.RowKit Go.Deep



structure Cfg where
  plain:Bool
  rb:Bool
  sb:Bool
  ms:Int
  ct:Int
  fr:Int

def CfgAt (c:Cfg) (cf:Value) (K:List Nat) (w:World):Prop :=
  (c.plain=true∧cf=.pointer none∧K=[]) ∨
    (c.plain=false∧∃ k r s,K=[k,r,s]∧cf=.pointer (some ⟨k,0,none⟩)∧k < w.heap.size∧r < w.heap.size∧s < w.heap.size∧IsConf k c.ms c.fr c.ct r s c.rb c.sb w)

theorem CfgAt.step {c:Cfg} {cf:Value} {K:List Nat} {w:World} (h:CfgAt c cf K w) {T U:List Nat} {w1:World} (hs:Step T U w w1) (hn:∀ k,k∈K→k∉T):CfgAt c cf K w1:=by
  rcases h with h | ⟨hp,k,r,s,rfl,hc,k1,k2,k3,h0,h1,h2,h3,h4,h5,h6⟩
  · exact .inl h
  · have hz:=hs.size
    have nk:=hn k (by simp)
    have nr:=hn r (by simp)
    have ns:=hn s (by simp)
    exact .inr ⟨hp,k,r,s,rfl,hc,by omega,by omega,by omega,(hs.cell k1 nk).trans h0,(hs.cell k1 nk).trans h1,(hs.cell k1 nk).trans h2,(hs.cell k1 nk).trans h3,(hs.cell k1 nk).trans h4,(hs.cell k2 nr).trans h5,(hs.cell k3 ns).trans h6⟩

theorem CfgAt.lt {c:Cfg} {cf:Value} {K:List Nat} {w:World} (h:CfgAt c cf K w):∀ k,k∈K→k < w.heap.size:=by
  rcases h with ⟨_,_,rfl⟩ | ⟨_,k,r,s,rfl,_,k1,k2,k3,_⟩
  · simp
  · intro x hx
    simp only [List.mem_cons,List.not_mem_nil,or_false] at hx
    rcases hx with rfl | rfl | rfl
    · exact k1
    · exact k2
    · exact k3

def Cfg.strictW (c:Cfg):Bool:=if c.plain then true else c.sb

def Cfg.message (c:Cfg):Int:=if c.plain then 104857600 else orElse c.ms 104857600

def Cfg.container (c:Cfg):Int:=if c.plain then 2147483647 else orElse c.ct 2147483647

theorem cfg_strictW {c:Cfg} {cf:Value} {K:List Nat} {w:World} (h:CfgAt c cf K w) :
    Calls Tryz.prog 261 #[cf] w fun e w'=>e=.returned (.bool c.strictW)∧w=w':=by
  rcases h with ⟨hp,rfl,rfl⟩ | ⟨hp,k,r,s,rfl,rfl,k1,k2,k3,h⟩
  · simp only [Cfg.strictW,hp,if_true];exact strictWrite_nil w
  · simp only [Cfg.strictW,hp];exact strictWrite_at k _ _ _ r s _ _ w h

theorem cfg_message {c:Cfg} {cf:Value} {K:List Nat} {w:World} (h:CfgAt c cf K w) :
    Calls Tryz.prog 198 #[cf] w fun e w'=>e=.returned (.int .i32 c.message)∧w=w':=by
  rcases h with ⟨hp,rfl,rfl⟩ | ⟨hp,k,r,s,rfl,rfl,k1,k2,k3,h⟩
  · simp only [Cfg.message,hp,if_true];exact maxMessage_nil w
  · simp only [Cfg.message,hp];exact maxMessage_at k _ _ _ r s _ _ w h

theorem cfg_container {c:Cfg} {cf:Value} {K:List Nat} {w:World} (h:CfgAt c cf K w) :
    Calls Tryz.prog 200 #[cf] w fun e w'=>e=.returned (.int .i32 c.container)∧w=w':=by
  rcases h with ⟨hp,rfl,rfl⟩ | ⟨hp,k,r,s,rfl,rfl,k1,k2,k3,h⟩
  · simp only [Cfg.container,hp,if_true];exact maxContainer_nil w
  · simp only [Cfg.container,hp];exact maxContainer_at k _ _ _ r s _ _ w h

def BW (p m:Nat) (og cf:Value) (c:Cfg) (S:List Nat) (l:List UInt8) (w:World):Prop :=
  ∃ b g sc K,S=p :: m :: b :: g :: K∧Bin p (memV m) og cf sc w∧Mem m b g 0 (Lib.byteCells l) w∧CfgAt c cf K w∧p≠m∧p≠b∧p≠g∧∀ k,k∈K→k≠p∧k≠b∧k≠g

theorem BW.step {p m:Nat} {og cf:Value} {c:Cfg} {S:List Nat} {l:List UInt8} {w:World} (h:BW p m og cf c S l w) {T U:List Nat} {w1:World} (hs:Step T U w w1) (hn:∀ k,k∈S→k∉T):BW p m og cf c S l w1:=by
  obtain ⟨b,g,sc,K,rfl,hp,hm,hc,r⟩:=h
  exact ⟨b,g,sc,K,rfl,hp.step hs (hn _ (by simp)),hm.step hs (hn _ (by simp)) (hn _ (by simp)) (hn _ (by simp)),hc.step hs (fun k hk=>hn k (by simp [hk])),r⟩

theorem BW.lt {p m:Nat} {og cf:Value} {c:Cfg} {S:List Nat} {l:List UInt8} {w:World} (h:BW p m og cf c S l w):∀ k,k∈S→k < w.heap.size:=by
  obtain ⟨b,g,sc,K,rfl,hp,hm,hc,r⟩:=h
  intro k hk
  simp only [List.mem_cons] at hk
  rcases hk with rfl | rfl | rfl | rfl | hk
  · exact hp.lt
  · exact hm.lt
  · exact hm.2.2.2.lt.1
  · exact hm.2.2.2.lt.2
  · exact hc.lt k hk

theorem ownK {p m b g g1:Nat} {K:List Nat} {w w1:World} (hs:Step [b,g] [b,g1] w w1):Step (p :: m :: b :: g :: K) (p :: m :: b :: g1 :: K) w w1:=by
  refine ⟨hs.os,hs.tape,hs.output,hs.size,fun k hk hn=>hs.block k hk (fun e=>hn ?_),fun k hk=>?_⟩
  · simp only [List.mem_cons,List.not_mem_nil,or_false] at e ⊢
    rcases e with rfl | rfl <;> simp
  · simp only [List.mem_cons] at hk ⊢
    rcases hk with rfl | rfl | rfl | rfl | hk
    · simp
    · simp
    · simp
    · rcases hs.own k (by simp) with hh | hh
      · simp only [List.mem_cons,List.not_mem_nil,or_false] at hh
        rcases hh with rfl | rfl <;> simp
      · exact .inr hh
    · simp [hk]

theorem ownP {p m b g:Nat} {K:List Nat} {w w1:World} (hs:Step [p] [p] w w1):Step (p :: m :: b :: g :: K) (p :: m :: b :: g :: K) w w1 :=
  ⟨hs.os,hs.tape,hs.output,hs.size,fun k hk hn=>hs.block k hk (fun e=>hn (by simp only [List.mem_cons,List.not_mem_nil,or_false] at e;subst e;simp)),fun k hk=>.inl hk⟩

theorem BW.wrote {p m b g g1:Nat} {og cf:Value} {c:Cfg} {K:List Nat} {sc:List Value} {l1:List UInt8} {w w1:World} (hp:Bin p (memV m) og cf sc w) (hC:CfgAt c cf K w) (hpm:p≠m) (hpb:p≠b) (hpg:p≠g) (hK:∀ k,k∈K→k≠p∧k≠b∧k≠g)
    (hM:Mem m b g1 0 (Lib.byteCells l1) w1) (hs:Step [b,g] [b,g1] w w1):BW p m og cf c (p :: m :: b :: g1 :: K) l1 w1:=by
  have hl:=hp.lt
  refine ⟨b,g1,sc,K,rfl,hp.step hs (by simp [hpb,hpg]),hM,hC.step hs (fun k hk=>by have:=hK k hk;simp [this]),hpm,hpb,?_,fun k hk=>⟨(hK k hk).1,(hK k hk).2.1,?_⟩⟩
  · rcases hs.own g1 (by simp) with hh | hh
    · simp only [List.mem_cons,List.not_mem_nil,or_false] at hh
      omega
    · omega
  · have h1:=hC.lt k hk
    have h2:=hK k hk
    rcases hs.own g1 (by simp) with hh | hh
    · simp only [List.mem_cons,List.not_mem_nil,or_false] at hh
      omega
    · omega

set_option maxRecDepth 100000 in
set_option maxHeartbeats 1000000 in
theorem bw_byte {p m:Nat} {og cf:Value} {c:Cfg} {S:List Nat} {l:List UInt8} {w:World} (h:BW p m og cf c S l w) (cx:Value) (x:Int) (hlim:l.length+1≤140737488355328) :
    Calls Tryz.prog 231 #[.pointer (some ⟨p,0,none⟩),cx,.int .i8 x] w (Did (BW p m og cf c) S w (l++[u8 x],0)):=by
  obtain ⟨b,g,sc,K,rfl,hp,hm,hC,hpm,hpb,hpg,hK⟩:=h
  refine (bin_writeByte p m b g og cf sc _ cx x w hp hm (Lib.byteCells_one _) (by rw [Lib.byteCells_length];exact hlim)).mono ?_
  rintro e W1 ⟨rfl,g1,hM,hs⟩
  have e1:Lib.byteCells l++[.int .u8 (x % 256)]=Lib.byteCells (l++[u8 x]):=by
    rw [Lib.byteCells_append]
    congr 1
    have h2:((u8 x).toNat:Int)=x % 256:=by
      unfold u8
      show (((x % 256).toNat % 256:Nat):Int)=x % 256
      omega
    simp [Lib.byteCells,h2]
  rw [e1] at hM
  exact ⟨_,_,rfl,IsErr.nil _,BW.wrote hp hC hpm hpb hpg hK hM hs,ownK hs⟩

set_option maxRecDepth 100000 in
set_option maxHeartbeats 1000000 in
theorem bw_i16 {p m:Nat} {og cf:Value} {c:Cfg} {S:List Nat} {l:List UInt8} {w:World} (h:BW p m og cf c S l w) (cx:Value) (x:Int) (hlim:l.length+2≤140737488355328) :
    Calls Tryz.prog 236 #[.pointer (some ⟨p,0,none⟩),cx,.int .i16 x] w (Did (BW p m og cf c) S w (l++be 2 x,0)):=by
  obtain ⟨b,g,sc,K,rfl,hp,h,hC,hpm,hpb,hpg,hK⟩:=h
  have c0:w.cell? ⟨p,0,none⟩=some (memV m):=by rw [hp.cells];rfl
  have cm:=h.cell
  have hmeth:=mem_Write
  obtain ⟨v,hv⟩:∃ v:Nat,x % 65536=v:=⟨(x % 65536).toNat,by omega⟩
  have hvl:=Lib.hid (show v < 65536 by omega)
  have hvt:(x % (256:Int) ^ 2).toNat=v:=by
    have e:(256:Int) ^ 2=65536:=by decide
    rw [e];omega
  have hbe:be 2 x=Lib.beBytes 2 v:=by unfold be;rw [hvt]
  have HBE:=Lib.hid hbe
  have hv2:IntKind.u16.wrap x=v:=by rw [IntKind.wrap_u16];omega
  clear hvt hbe hv
  obtain ⟨x0,d0,f0⟩:=hp.cell 0 (by omega)
  obtain ⟨x1,d1,f1⟩:=hp.cell 1 (by omega)
  simp only [Nat.reduceAdd] at d0 f0 d1 f1
  go_enter Tryz.func236,Tryz.ntmps236
  go_wp2_with (go_at_call 258;refine (Tryz.binary_BE_PutUint16 p 3 2 64 v hvl.out x0 x1 _ (Nat.le_refl _) d0 d1 f0 f1).mono ?_)
  rintro e W1 ⟨rfl,hW1⟩
  have hbl:(Lib.byteCells (Lib.beBytes 2 v)).length=2:=by simp [Lib.byteCells_length,Lib.beBytes_length]
  obtain ⟨sc1,hp1,hsc⟩:=(hp.alloc (.cells #[] 326)).set (Lib.byteCells (Lib.beBytes 2 v)) (by omega) (Lib.byteCells_one _)
  rw [← hW1] at hp1
  have hs1:Step [p] [p] w W1:=by rw [hW1];exact ((Step.refl _ _).alloc _).setCells (.inl (by simp)) _ _
  have h2:Mem m b g 0 (Lib.byteCells l) W1:=by
    rw [hW1]
    have ha:=h.alloc (.cells #[] 326)
    exact ha.carry (heap_setCells_other (Ne.symm hpm) _ _) (heap_setCells_other (Ne.symm hpb) _ _) (heap_setCells_other (Ne.symm hpg) _ _)
  have hC1:=hC.step hs1 (fun k hk=>by have:=hK k hk;simp [this])
  clear hW1
  have c0':W1.cell? ⟨p,0,none⟩=some (memV m):=by rw [hp1.cells];rfl
  have cm':=h2.cell
  have hsrc:∀ j v',(Lib.byteCells (Lib.beBytes 2 v))[j]?=some v'→W1.cell? ((⟨p,3,none⟩:Addr).add j)=some v':=fun j v' hj=>by
    rw [Lib.addr_add,hp1.cells,Nat.add_comm]
    simp only [List.getElem?_cons_succ]
    rw [← hsc,List.getElem?_take] at hj
    split at hj
    · exact hj
    · cases hj
  have HS:=Lib.hid hsrc
  have HL:=Lib.hid (show (Lib.beBytes 2 v).length=2 by simp [Lib.beBytes_length])
  clear hsrc hbl hsc c0 cm d0 d1 f0 f1 hvl
  go_wp2_with (go_at_call 72;refine (mem_writeBytes m b g 2 64 (some ⟨p,3,none⟩) l (Lib.beBytes 2 v) _ h2 HL.out (fun a ha=>?_) (by simp) hlim).mono ?_)
  · cases ha
    exact ⟨⟨hpb,hpg,hp1.lt⟩,HS.out⟩
  rintro e W2 ⟨⟨n2,rfl⟩,g1,hM,hs⟩
  go_wp2
  go_ret
  rw [HBE.out]
  exact ⟨_,_,rfl,IsErr.nil _,BW.wrote hp1 hC1 hpm hpb hpg hK hM hs,(ownP hs1).trans (ownK hs)⟩

set_option maxRecDepth 100000 in
set_option maxHeartbeats 1000000 in
theorem bw_i32 {p m:Nat} {og cf:Value} {c:Cfg} {S:List Nat} {l:List UInt8} {w:World} (h:BW p m og cf c S l w) (cx:Value) (x:Int) (hlim:l.length+4≤140737488355328) :
    Calls Tryz.prog 237 #[.pointer (some ⟨p,0,none⟩),cx,.int .i32 x] w (Did (BW p m og cf c) S w (l++be 4 x,0)):=by
  obtain ⟨b,g,sc,K,rfl,hp,h,hC,hpm,hpb,hpg,hK⟩:=h
  have c0:w.cell? ⟨p,0,none⟩=some (memV m):=by rw [hp.cells];rfl
  have cm:=h.cell
  have hmeth:=mem_Write
  obtain ⟨v,hv⟩:∃ v:Nat,x % 4294967296=v:=⟨(x % 4294967296).toNat,by omega⟩
  have hvl:=Lib.hid (show v < 4294967296 by omega)
  have hvt:(x % (256:Int) ^ 4).toNat=v:=by
    have e:(256:Int) ^ 4=4294967296:=by decide
    rw [e];omega
  have hbe:be 4 x=Lib.beBytes 4 v:=by unfold be;rw [hvt]
  have HBE:=Lib.hid hbe
  have hv2:IntKind.u32.wrap x=v:=by rw [IntKind.wrap_u32];omega
  clear hvt hbe
  obtain ⟨x0,d0,f0⟩:=hp.cell 0 (by omega)
  obtain ⟨x1,d1,f1⟩:=hp.cell 1 (by omega)
  obtain ⟨x2,d2,f2⟩:=hp.cell 2 (by omega)
  obtain ⟨x3,d3,f3⟩:=hp.cell 3 (by omega)
  simp only [Nat.reduceAdd] at d0 f0 d1 f1 d2 f2 d3 f3
  go_enter Tryz.func237,Tryz.ntmps237
  go_wp2_with (go_at_call 259;refine (Tryz.binary_BE_PutUint32 p 3 4 64 v hvl.out x0 x1 x2 x3 _ (Nat.le_refl _) d0 d1 d2 d3 f0 f1 f2 f3).mono ?_)
  rintro e W1 ⟨rfl,hW1⟩
  have hbl:(Lib.byteCells (Lib.beBytes 4 v)).length=4:=by simp [Lib.byteCells_length,Lib.beBytes_length]
  obtain ⟨sc1,hp1,hsc⟩:=(hp.alloc (.cells #[] 326)).set (Lib.byteCells (Lib.beBytes 4 v)) (by omega) (Lib.byteCells_one _)
  rw [← hW1] at hp1
  have hs1:Step [p] [p] w W1:=by rw [hW1];exact ((Step.refl _ _).alloc _).setCells (.inl (by simp)) _ _
  have h2:Mem m b g 0 (Lib.byteCells l) W1:=by
    rw [hW1]
    have ha:=h.alloc (.cells #[] 326)
    exact ha.carry (heap_setCells_other (Ne.symm hpm) _ _) (heap_setCells_other (Ne.symm hpb) _ _) (heap_setCells_other (Ne.symm hpg) _ _)
  have hC1:=hC.step hs1 (fun k hk=>by have:=hK k hk;simp [this])
  clear hW1
  have c0':W1.cell? ⟨p,0,none⟩=some (memV m):=by rw [hp1.cells];rfl
  have cm':=h2.cell
  have hsrc:∀ j v',(Lib.byteCells (Lib.beBytes 4 v))[j]?=some v'→W1.cell? ((⟨p,3,none⟩:Addr).add j)=some v':=fun j v' hj=>by
    rw [Lib.addr_add,hp1.cells,Nat.add_comm]
    simp only [List.getElem?_cons_succ]
    rw [← hsc,List.getElem?_take] at hj
    split at hj
    · exact hj
    · cases hj
  have HS:=Lib.hid hsrc
  have HL:=Lib.hid (show (Lib.beBytes 4 v).length=4 by simp [Lib.beBytes_length])
  clear hsrc hbl hsc c0 cm d0 d1 d2 d3 f0 f1 f2 f3 hv hvl
  go_wp2_with (go_at_call 72;refine (mem_writeBytes m b g 4 64 (some ⟨p,3,none⟩) l (Lib.beBytes 4 v) _ h2 HL.out (fun a ha=>?_) (by simp) hlim).mono ?_)
  · cases ha
    exact ⟨⟨hpb,hpg,hp1.lt⟩,HS.out⟩
  rintro e W2 ⟨⟨n2,rfl⟩,g1,hM,hs⟩
  go_wp2
  go_ret
  rw [HBE.out]
  exact ⟨_,_,rfl,IsErr.nil _,BW.wrote hp1 hC1 hpm hpb hpg hK hM hs,(ownP hs1).trans (ownK hs)⟩

set_option maxRecDepth 100000 in
set_option maxHeartbeats 1000000 in
theorem bw_i64 {p m:Nat} {og cf:Value} {c:Cfg} {S:List Nat} {l:List UInt8} {w:World} (h:BW p m og cf c S l w) (cx:Value) (x:Int) (hlim:l.length+8≤140737488355328) :
    Calls Tryz.prog 238 #[.pointer (some ⟨p,0,none⟩),cx,.int .i64 x] w (Did (BW p m og cf c) S w (l++be 8 x,0)):=by
  obtain ⟨b,g,sc,K,rfl,hp,h,hC,hpm,hpb,hpg,hK⟩:=h
  have c0:w.cell? ⟨p,0,none⟩=some (memV m):=by rw [hp.cells];rfl
  have cm:=h.cell
  have hmeth:=mem_Write
  obtain ⟨v,hv⟩:∃ v:Nat,x % 18446744073709551616=v:=⟨(x % 18446744073709551616).toNat,by omega⟩
  have hvl:=Lib.hid (show v < 18446744073709551616 by omega)
  have hvt:(x % (256:Int) ^ 8).toNat=v:=by
    have e:(256:Int) ^ 8=18446744073709551616:=by decide
    rw [e];omega
  have hbe:be 8 x=Lib.beBytes 8 v:=by unfold be;rw [hvt]
  have HBE:=Lib.hid hbe
  have hv2:IntKind.u64.wrap x=v:=by rw [IntKind.wrap_u64];omega
  clear hvt hbe hv
  obtain ⟨x0,d0,f0⟩:=hp.cell 0 (by omega)
  obtain ⟨x1,d1,f1⟩:=hp.cell 1 (by omega)
  obtain ⟨x2,d2,f2⟩:=hp.cell 2 (by omega)
  obtain ⟨x3,d3,f3⟩:=hp.cell 3 (by omega)
  obtain ⟨x4,d4,f4⟩:=hp.cell 4 (by omega)
  obtain ⟨x5,d5,f5⟩:=hp.cell 5 (by omega)
  obtain ⟨x6,d6,f6⟩:=hp.cell 6 (by omega)
  obtain ⟨x7,d7,f7⟩:=hp.cell 7 (by omega)
  simp only [Nat.reduceAdd] at d0 f0 d1 f1 d2 f2 d3 f3 d4 f4 d5 f5 d6 f6 d7 f7
  go_enter Tryz.func238,Tryz.ntmps238
  go_wp2_with (go_at_call 260;refine (Tryz.binary_BE_PutUint64 p 3 8 64 v hvl.out x0 x1 x2 x3 x4 x5 x6 x7 _ (Nat.le_refl _) d0 d1 d2 d3 d4 d5 d6 d7 f0 f1 f2 f3 f4 f5 f6 f7).mono ?_)
  rintro e W1 ⟨rfl,hW1⟩
  have hbl:(Lib.byteCells (Lib.beBytes 8 v)).length=8:=by simp [Lib.byteCells_length,Lib.beBytes_length]
  obtain ⟨sc1,hp1,hsc⟩:=(hp.alloc (.cells #[] 326)).set (Lib.byteCells (Lib.beBytes 8 v)) (by omega) (Lib.byteCells_one _)
  rw [← hW1] at hp1
  have hs1:Step [p] [p] w W1:=by rw [hW1];exact ((Step.refl _ _).alloc _).setCells (.inl (by simp)) _ _
  have h2:Mem m b g 0 (Lib.byteCells l) W1:=by
    rw [hW1]
    have ha:=h.alloc (.cells #[] 326)
    exact ha.carry (heap_setCells_other (Ne.symm hpm) _ _) (heap_setCells_other (Ne.symm hpb) _ _) (heap_setCells_other (Ne.symm hpg) _ _)
  have hC1:=hC.step hs1 (fun k hk=>by have:=hK k hk;simp [this])
  clear hW1
  have c0':W1.cell? ⟨p,0,none⟩=some (memV m):=by rw [hp1.cells];rfl
  have cm':=h2.cell
  have hsrc:∀ j v',(Lib.byteCells (Lib.beBytes 8 v))[j]?=some v'→W1.cell? ((⟨p,3,none⟩:Addr).add j)=some v':=fun j v' hj=>by
    rw [Lib.addr_add,hp1.cells,Nat.add_comm]
    simp only [List.getElem?_cons_succ]
    rw [← hsc,List.getElem?_take] at hj
    split at hj
    · exact hj
    · cases hj
  have HS:=Lib.hid hsrc
  have HL:=Lib.hid (show (Lib.beBytes 8 v).length=8 by simp [Lib.beBytes_length])
  clear hsrc hbl hsc c0 cm d0 d1 d2 d3 d4 d5 d6 d7 f0 f1 f2 f3 f4 f5 f6 f7 hvl
  go_wp2_with (go_at_call 72;refine (mem_writeBytes m b g 8 64 (some ⟨p,3,none⟩) l (Lib.beBytes 8 v) _ h2 HL.out (fun a ha=>?_) (by simp) hlim).mono ?_)
  · cases ha
    exact ⟨⟨hpb,hpg,hp1.lt⟩,HS.out⟩
  rintro e W2 ⟨⟨n2,rfl⟩,g1,hM,hs⟩
  go_wp2
  go_ret
  rw [HBE.out]
  exact ⟨_,_,rfl,IsErr.nil _,BW.wrote hp1 hC1 hpm hpb hpg hK hM hs,(ownP hs1).trans (ownK hs)⟩

theorem be_wrap (n:Nat) (h:n < 18446744073709551616):be 8 (wrap64 (n:Int))=be 8 n:=by
  unfold be
  congr 1
  have e:(256:Int) ^ 8=18446744073709551616:=by decide
  rw [e]
  unfold wrap64
  omega

end Go.Proofs.YtmjcnomgpikncaaGreatDoor

namespace Go.Proofs.YtmjcnomgpikncaaGreatDoor

open Go.RowKit Go.Deep



theorem be_length (k:Nat) (n:Int):(be k n).length=k:=by unfold be;exact Lib.beBytes_length _ _

theorem wrap_i8 (n:Int):IntKind.i8.wrap n=(n+128) % 256 - 128:=by
  simp [IntKind.wrap,IntKind.bits,IntKind.signed]
  split <;> omega

theorem wrap_i16 (n:Int):IntKind.i16.wrap n=(n+32768) % 65536 - 32768:=by
  simp [IntKind.wrap,IntKind.bits,IntKind.signed]
  split <;> omega

theorem f64bits (n:Nat) (w:World):(callFunc 87 #[.float .f64 n]).run Tryz.prog w=.ok (.value (.int .u64 n)) w:=by kernel_rfl

theorem f64of (n:Int) (w:World):(callFunc 65 #[.int .u64 n]).run Tryz.prog w=.ok (.value (.float .f64 n.toNat)) w:=by kernel_rfl

theorem u8_mod (n:Int):u8 (IntKind.i8.wrap n)=u8 n:=by
  unfold u8
  congr 2
  rw [wrap_i8]
  omega

theorem be4_w32 (n:Int):be 4 (wrap32 n)=be 4 n:=by
  unfold be
  congr 1
  have e:(256:Int) ^ 4=4294967296:=by decide
  rw [e]
  unfold wrap32
  omega

theorem be4_mod (n:Int):be 4 (IntKind.i32.wrap n)=be 4 n:=by
  unfold be
  congr 1
  have e:(256:Int) ^ 4=4294967296:=by decide
  rw [e,IntKind.wrap_i32]
  omega

set_option maxRecDepth 100000 in
set_option maxHeartbeats 1000000 in
theorem bw_msgE {p m:Nat} {og cf:Value} {c:Cfg} {S:List Nat} {l:List UInt8} {w:World} (h:BW p m og cf c S l w) (cx:Value) :
    Calls Tryz.prog 244 #[.pointer (some ⟨p,0,none⟩),cx] w (Did (BW p m og cf c) S w (l,0)):=by
  go_enter Tryz.func244,Tryz.ntmps244
  go_wp2
  go_ret
  exact ⟨_,_,rfl,IsErr.nil _,h,Step.refl _ _⟩

set_option maxRecDepth 100000 in
set_option maxHeartbeats 1000000 in
theorem bw_strE {p m:Nat} {og cf:Value} {c:Cfg} {S:List Nat} {l:List UInt8} {w:World} (h:BW p m og cf c S l w) (cx:Value) :
    Calls Tryz.prog 249 #[.pointer (some ⟨p,0,none⟩),cx] w (Did (BW p m og cf c) S w (l,0)):=by
  go_enter Tryz.func249,Tryz.ntmps249
  go_wp2
  go_ret
  exact ⟨_,_,rfl,IsErr.nil _,h,Step.refl _ _⟩

set_option maxRecDepth 100000 in
set_option maxHeartbeats 1000000 in
theorem bw_fldE {p m:Nat} {og cf:Value} {c:Cfg} {S:List Nat} {l:List UInt8} {w:World} (h:BW p m og cf c S l w) (cx:Value) :
    Calls Tryz.prog 234 #[.pointer (some ⟨p,0,none⟩),cx] w (Did (BW p m og cf c) S w (l,0)):=by
  go_enter Tryz.func234,Tryz.ntmps234
  go_wp2
  go_ret
  exact ⟨_,_,rfl,IsErr.nil _,h,Step.refl _ _⟩

set_option maxRecDepth 100000 in
set_option maxHeartbeats 1000000 in
theorem bw_mapE {p m:Nat} {og cf:Value} {c:Cfg} {S:List Nat} {l:List UInt8} {w:World} (h:BW p m og cf c S l w) (cx:Value) :
    Calls Tryz.prog 242 #[.pointer (some ⟨p,0,none⟩),cx] w (Did (BW p m og cf c) S w (l,0)):=by
  go_enter Tryz.func242,Tryz.ntmps242
  go_wp2
  go_ret
  exact ⟨_,_,rfl,IsErr.nil _,h,Step.refl _ _⟩

set_option maxRecDepth 100000 in
set_option maxHeartbeats 1000000 in
theorem bw_lstE {p m:Nat} {og cf:Value} {c:Cfg} {S:List Nat} {l:List UInt8} {w:World} (h:BW p m og cf c S l w) (cx:Value) :
    Calls Tryz.prog 240 #[.pointer (some ⟨p,0,none⟩),cx] w (Did (BW p m og cf c) S w (l,0)):=by
  go_enter Tryz.func240,Tryz.ntmps240
  go_wp2
  go_ret
  exact ⟨_,_,rfl,IsErr.nil _,h,Step.refl _ _⟩

set_option maxRecDepth 100000 in
set_option maxHeartbeats 1000000 in
theorem bw_setE {p m:Nat} {og cf:Value} {c:Cfg} {S:List Nat} {l:List UInt8} {w:World} (h:BW p m og cf c S l w) (cx:Value) :
    Calls Tryz.prog 246 #[.pointer (some ⟨p,0,none⟩),cx] w (Did (BW p m og cf c) S w (l,0)):=by
  go_enter Tryz.func246,Tryz.ntmps246
  go_wp2
  go_ret
  exact ⟨_,_,rfl,IsErr.nil _,h,Step.refl _ _⟩

set_option maxRecDepth 100000 in
set_option maxHeartbeats 1000000 in
theorem bw_strB {p m:Nat} {og cf:Value} {c:Cfg} {S:List Nat} {l:List UInt8} {w:World} (h:BW p m og cf c S l w) (cx:Value) (nm:Value) :
    Calls Tryz.prog 248 #[.pointer (some ⟨p,0,none⟩),cx,nm] w (Did (BW p m og cf c) S w (l,0)):=by
  go_enter Tryz.func248,Tryz.ntmps248
  go_wp2
  go_ret
  exact ⟨_,_,rfl,IsErr.nil _,h,Step.refl _ _⟩

set_option maxRecDepth 100000 in
set_option maxHeartbeats 1000000 in
theorem bw_stop {p m:Nat} {og cf:Value} {c:Cfg} {S:List Nat} {l:List UInt8} {w:World} (h:BW p m og cf c S l w) (cx:Value) (hlim:l.length+1≤140737488355328) :
    Calls Tryz.prog 235 #[.pointer (some ⟨p,0,none⟩),cx] w (Did (BW p m og cf c) S w (l++[0],0)):=by
  go_enter Tryz.func235,Tryz.ntmps235
  go_wp2_with (fail)
  refine (bw_byte h _ _ (by first | omega | (simp only [List.length_append,be_length,List.length_cons,List.length_nil];omega))).mono ?_
  rintro e W1 ⟨ev,S1,rfl,he,h1,s1⟩
  obtain rfl:=he.zero
  clear he
  go_wp2
  go_ret
  refine ⟨_,_,rfl,IsErr.nil _,?_,s1⟩
  simpa [List.append_assoc,u8_mod,be4_mod,be4_w32,u8] using h1

set_option maxRecDepth 100000 in
set_option maxHeartbeats 1000000 in
theorem bw_fldB {p m:Nat} {og cf:Value} {c:Cfg} {S:List Nat} {l:List UInt8} {w:World} (h:BW p m og cf c S l w) (cx:Value) (nm:Value) (t id:Int) (hlim:l.length+3≤140737488355328) :
    Calls Tryz.prog 233 #[.pointer (some ⟨p,0,none⟩),cx,nm,.int .u8 t,.int .i16 id] w (Did (BW p m og cf c) S w (l++(u8 t :: be 2 id),0)):=by
  go_enter Tryz.func233,Tryz.ntmps233
  go_wp2_with (fail)
  refine (bw_byte h _ _ (by first | omega | (simp only [List.length_append,be_length,List.length_cons,List.length_nil];omega))).mono ?_
  rintro e W1 ⟨ev,S1,rfl,he,h1,s1⟩
  obtain rfl:=he.zero
  clear he
  go_wp2_with (fail)
  refine (bw_i16 h1 _ _ (by first | omega | (simp only [List.length_append,be_length,List.length_cons,List.length_nil];omega))).mono ?_
  rintro e W2 ⟨ev,S2,rfl,he,h2,s2⟩
  obtain rfl:=he.zero
  clear he
  go_wp2
  go_ret
  refine ⟨_,_,rfl,IsErr.nil _,?_,s1.trans (s2)⟩
  simpa [List.append_assoc,u8_mod,be4_mod,be4_w32] using h2

set_option maxRecDepth 100000 in
set_option maxHeartbeats 1000000 in
theorem bw_mapB {p m:Nat} {og cf:Value} {c:Cfg} {S:List Nat} {l:List UInt8} {w:World} (h:BW p m og cf c S l w) (cx:Value) (k t n:Int) (hlim:l.length+6≤140737488355328) :
    Calls Tryz.prog 241 #[.pointer (some ⟨p,0,none⟩),cx,.int .u8 k,.int .u8 t,.int .i64 n] w (Did (BW p m og cf c) S w (l++(u8 k :: u8 t :: be 4 n),0)):=by
  go_enter Tryz.func241,Tryz.ntmps241
  go_wp2_with (fail)
  refine (bw_byte h _ _ (by first | omega | (simp only [List.length_append,be_length,List.length_cons,List.length_nil];omega))).mono ?_
  rintro e W1 ⟨ev,S1,rfl,he,h1,s1⟩
  obtain rfl:=he.zero
  clear he
  go_wp2_with (fail)
  refine (bw_byte h1 _ _ (by first | omega | (simp only [List.length_append,be_length,List.length_cons,List.length_nil];omega))).mono ?_
  rintro e W2 ⟨ev,S2,rfl,he,h2,s2⟩
  obtain rfl:=he.zero
  clear he
  go_wp2_with (fail)
  refine (bw_i32 h2 _ _ (by first | omega | (simp only [List.length_append,be_length,List.length_cons,List.length_nil];omega))).mono ?_
  rintro e W3 ⟨ev,S3,rfl,he,h3,s3⟩
  obtain rfl:=he.zero
  clear he
  go_wp2
  go_ret
  refine ⟨_,_,rfl,IsErr.nil _,?_,s1.trans (s2.trans (s3))⟩
  simpa [List.append_assoc,u8_mod,be4_mod,be4_w32] using h3

set_option maxRecDepth 100000 in
set_option maxHeartbeats 1000000 in
theorem bw_lstB {p m:Nat} {og cf:Value} {c:Cfg} {S:List Nat} {l:List UInt8} {w:World} (h:BW p m og cf c S l w) (cx:Value) (t n:Int) (hlim:l.length+5≤140737488355328) :
    Calls Tryz.prog 239 #[.pointer (some ⟨p,0,none⟩),cx,.int .u8 t,.int .i64 n] w (Did (BW p m og cf c) S w (l++(u8 t :: be 4 n),0)):=by
  go_enter Tryz.func239,Tryz.ntmps239
  go_wp2_with (fail)
  refine (bw_byte h _ _ (by first | omega | (simp only [List.length_append,be_length,List.length_cons,List.length_nil];omega))).mono ?_
  rintro e W1 ⟨ev,S1,rfl,he,h1,s1⟩
  obtain rfl:=he.zero
  clear he
  go_wp2_with (fail)
  refine (bw_i32 h1 _ _ (by first | omega | (simp only [List.length_append,be_length,List.length_cons,List.length_nil];omega))).mono ?_
  rintro e W2 ⟨ev,S2,rfl,he,h2,s2⟩
  obtain rfl:=he.zero
  clear he
  go_wp2
  go_ret
  refine ⟨_,_,rfl,IsErr.nil _,?_,s1.trans (s2)⟩
  simpa [List.append_assoc,u8_mod,be4_mod,be4_w32] using h2

set_option maxRecDepth 100000 in
set_option maxHeartbeats 1000000 in
theorem bw_setB {p m:Nat} {og cf:Value} {c:Cfg} {S:List Nat} {l:List UInt8} {w:World} (h:BW p m og cf c S l w) (cx:Value) (t n:Int) (hlim:l.length+5≤140737488355328) :
    Calls Tryz.prog 245 #[.pointer (some ⟨p,0,none⟩),cx,.int .u8 t,.int .i64 n] w (Did (BW p m og cf c) S w (l++(u8 t :: be 4 n),0)):=by
  go_enter Tryz.func245,Tryz.ntmps245
  go_wp2_with (fail)
  refine (bw_byte h _ _ (by first | omega | (simp only [List.length_append,be_length,List.length_cons,List.length_nil];omega))).mono ?_
  rintro e W1 ⟨ev,S1,rfl,he,h1,s1⟩
  obtain rfl:=he.zero
  clear he
  go_wp2_with (fail)
  refine (bw_i32 h1 _ _ (by first | omega | (simp only [List.length_append,be_length,List.length_cons,List.length_nil];omega))).mono ?_
  rintro e W2 ⟨ev,S2,rfl,he,h2,s2⟩
  obtain rfl:=he.zero
  clear he
  go_wp2
  go_ret
  refine ⟨_,_,rfl,IsErr.nil _,?_,s1.trans (s2)⟩
  simpa [List.append_assoc,u8_mod,be4_mod,be4_w32] using h2

set_option maxRecDepth 100000 in
set_option maxHeartbeats 1000000 in
theorem bw_dbl {p m:Nat} {og cf:Value} {c:Cfg} {S:List Nat} {l:List UInt8} {w:World} (h:BW p m og cf c S l w) (cx:Value) (n:Nat) (hn:n < 18446744073709551616) (hlim:l.length+8≤140737488355328) :
    Calls Tryz.prog 232 #[.pointer (some ⟨p,0,none⟩),cx,.float .f64 n] w (Did (BW p m og cf c) S w (l++be 8 n,0)):=by
  have HB:=Lib.hid (be_wrap n hn)
  have hfb:=f64bits
  clear hn
  go_enter Tryz.func232,Tryz.ntmps232
  go_wp2_with (fail)
  refine (bw_i64 h _ _ (by first | omega | (simp only [List.length_append,be_length,List.length_cons,List.length_nil];omega))).mono ?_
  rintro e W1 ⟨ev,S1,rfl,he,h1,s1⟩
  obtain rfl:=he.zero
  clear he
  go_wp2
  go_ret
  refine ⟨_,_,rfl,IsErr.nil _,?_,s1⟩
  simpa [List.append_assoc,u8_mod,be4_mod,be4_w32,HB.out] using h1

theorem bw_bool {p m:Nat} {og cf:Value} {c:Cfg} {S:List Nat} {l:List UInt8} {w:World} (h:BW p m og cf c S l w) (cx:Value) (b:Bool) (hlim:l.length+1≤140737488355328) :
    Calls Tryz.prog 230 #[.pointer (some ⟨p,0,none⟩),cx,.bool b] w (Did (BW p m og cf c) S w (l++[if b then 1 else 0],0)):=by
  cases b
  all_goals (
    go_enter Tryz.func230,Tryz.ntmps230
    go_wp2_with (fail)
    refine (bw_byte h _ _ hlim).mono ?_
    rintro e W1 ⟨ev,S1,rfl,he,h1,s1⟩
    obtain rfl:=he.zero
    go_wp2
    go_ret
    refine ⟨_,_,rfl,IsErr.nil _,?_,s1⟩
    simpa [u8] using h1)

set_option maxRecDepth 100000 in
set_option maxHeartbeats 1000000 in
theorem bw_str {p m:Nat} {og cf:Value} {c:Cfg} {S:List Nat} {l:List UInt8} {w:World} (h:BW p m og cf c S l w) (cx:Value) (s:List UInt8) (hs:s.length≤2147483647) (hlim:l.length+4+s.length≤140737488355328) :
    Calls Tryz.prog 247 #[.pointer (some ⟨p,0,none⟩),cx,strV s] w (Did (BW p m og cf c) S w (l++bText s,0)):=by
  have hsz:(⟨s.toArray⟩:ByteArray).size=s.length:=by show s.toArray.size=_;simp
  have HZ:=Lib.hid hsz
  clear hsz
  go_enter Tryz.func247,Tryz.ntmps247
  go_wp2_with (fail)
  refine (bw_i32 h _ _ (by omega)).mono ?_
  rintro e W1 ⟨ev,S1,rfl,he,h1,s1⟩
  obtain rfl:=he.zero
  clear he
  obtain ⟨b,g,sc,K,rfl,hp,hm,hC,hpm,hpb,hpg,hK⟩:=h1
  have c0:W1.cell? ⟨p,0,none⟩=some (memV m):=by rw [hp.cells];rfl
  have cm:=hm.cell
  have hmeth:=mem_WriteString
  go_wp2_with (go_at_call 116;refine (mem_writeString m b g _ s _ hm (by simp only [List.length_append,be_length];omega)).mono ?_)
  rintro e W2 ⟨⟨n2,rfl⟩,g1,hM,s2⟩
  go_wp2
  go_ret
  refine ⟨_,_,rfl,IsErr.nil _,?_,s1.trans (ownK s2)⟩
  have hw:=BW.wrote hp hC hpm hpb hpg hK hM s2
  rw [List.append_assoc] at hw
  exact hw

set_option maxRecDepth 100000 in
set_option maxHeartbeats 1000000 in
theorem bw_bin {p m:Nat} {og cf:Value} {c:Cfg} {S:List Nat} {l:List UInt8} {w:World} (h:BW p m og cf c S l w) (cx:Value) (s:List UInt8) (ao:Option Addr) (n cp:Nat) (hn:s.length=n) (hs:n≤2147483647) (hlim:l.length+4+n≤140737488355328)
    (hsrc:∀ a,ao=some a→0 < n→(a.block < w.heap.size∧a.block∉S)∧∀ j v,(Lib.byteCells s)[j]?=some v→w.cell? (a.add j)=some v) (hno:ao=none→n=0) :
    Calls Tryz.prog 229 #[.pointer (some ⟨p,0,none⟩),cx,.slice ao n cp] w (Did (BW p m og cf c) S w (l++bText s,0)):=by
  have HN:=Lib.hid hn
  have HO:=Lib.hid hno
  have HS:=Lib.hid hsrc
  clear hn hno hsrc
  go_enter Tryz.func229,Tryz.ntmps229
  go_wp2_with (fail)
  refine (bw_i32 h _ _ (by omega)).mono ?_
  rintro e W1 ⟨ev,S1,rfl,he,h1,s1⟩
  obtain rfl:=he.zero
  clear he
  obtain ⟨b,g,sc,K,rfl,hp,hm,hC,hpm,hpb,hpg,hK⟩:=h1
  have c0:W1.cell? ⟨p,0,none⟩=some (memV m):=by rw [hp.cells];rfl
  have cm:=hm.cell
  have hmeth:=mem_Write
  have hgo:∀ k,k < w.heap.size→k∉S→k≠b∧k≠g:=fun k k1 k2=>by
    constructor
    · rintro rfl
      rcases s1.own k (by simp) with hh | hh
      · exact k2 hh
      · omega
    · rintro rfl
      rcases s1.own k (by simp) with hh | hh
      · exact k2 hh
      · omega
  have HG:=Lib.hid hgo
  clear hgo
  go_wp2_with (go_at_call 72;refine (mem_writeBytes' m b g n cp ao _ s _ hm HN.out (fun a ha h0n=>?_) HO.out (by simp only [List.length_append,be_length];omega)).mono ?_)
  · obtain ⟨⟨k1,k2⟩,k3⟩:=HS.out a ha h0n
    obtain ⟨k4,k5⟩:=HG.out _ k1 k2
    refine ⟨⟨k4,k5,Nat.lt_of_lt_of_le k1 s1.size⟩,fun j v hj=>?_⟩
    rw [s1.cell (by rw [Lib.block_add];exact k1) (by rw [Lib.block_add];exact k2)]
    exact k3 j v hj
  rintro e W2 ⟨⟨n2,rfl⟩,g1,hM,s2⟩
  go_wp2
  go_ret
  refine ⟨_,_,rfl,IsErr.nil _,?_,s1.trans (ownK s2)⟩
  have hw:=BW.wrote hp hC hpm hpb hpg hK hM s2
  rw [List.append_assoc] at hw
  unfold bText
  rw [HN.out]
  exact hw

set_option maxRecDepth 100000 in
set_option maxHeartbeats 1000000 in
theorem bw_uuid {p m:Nat} {og cf:Value} {c:Cfg} {S:List Nat} {l:List UInt8} {w:World} (h:BW p m og cf c S l w) (cx:Value) (s:List UInt8) (hs:s.length=16) (hlim:l.length+16≤140737488355328) :
    Calls Tryz.prog 250 #[.pointer (some ⟨p,0,none⟩),cx,.agg (Lib.byteCells s).toArray] w (Did (BW p m og cf c) S w (l++s,0)):=by
  have hlt:=h.lt
  obtain ⟨b,g,sc,K,rfl,hp,hm,hC,hpm,hpb,hpg,hK⟩:=h
  have hst:∀ o,Step [] [] w (w.alloc o):=fun o=>(Step.refl _ _).alloc o
  have hp1:∀ o,Bin p (memV m) og cf sc (w.alloc o):=fun o=>hp.alloc o
  have hm1:∀ o,Mem m b g 0 (Lib.byteCells l) (w.alloc o):=fun o=>hm.alloc o
  have hC1:∀ o,CfgAt c cf K (w.alloc o):=fun o=>hC.step (hst o) (by simp)
  have c0:∀ o,(w.alloc o).cell? ⟨p,0,none⟩=some (memV m):=fun o=>by rw [(hp1 o).cells];rfl
  have cm:∀ o,(w.alloc o).cell? ⟨m,0,none⟩=some (.pointer (some ⟨b,0,none⟩)):=fun o=>(hm1 o).cell
  have hmeth:=mem_Write
  have hb:=hm.2.2.2.lt
  have HP:=Lib.hid hp1
  have HM:=Lib.hid hm1
  have HC:=Lib.hid hC1
  have HS:=Lib.hid hs
  have HL:=Lib.hid hlt
  clear hp1 hm1 hC1 hs hp hm hC hst hlt
  go_enter Tryz.func250,Tryz.ntmps250
  have hsrc:∀ o,o=Obj.cells (Lib.byteCells s).toArray 143 (0,0)→∀ a,some (⟨w.heap.size,0,none⟩:Addr)=some a→(a.block≠b∧a.block≠g∧a.block < (w.alloc o).drew.heap.size)∧∀ j v,(Lib.byteCells s)[j]?=some v→(w.alloc o).drew.cell? (a.add j)=some v:=by
    rintro o rfl a ha
    cases ha
    refine ⟨⟨by show w.heap.size≠b;omega,by show w.heap.size≠g;omega,by show w.heap.size < _;simp⟩,fun j v hj=>?_⟩
    rw [Lib.addr_add,World.cell?_drew,cell_heap (heap_alloc_new _ _)]
    simpa using hj
  have HSR:=Lib.hid hsrc
  clear hsrc
  go_wp2_with (fail)
  go_region_with ((go_at_call 72;refine (mem_writeBytes m b g 16 16 (some ⟨w.heap.size,0,none⟩) l s _ ?_ HS.out ?_ (by simp) hlim).mono ?_;exact HM.out _;exact HSR.out _ rfl;rintro e W2 ⟨⟨n2,rfl⟩,g1,hM,s2⟩))
  go_wp2
  go_ret
  exact ⟨_,_,rfl,IsErr.nil _,BW.wrote (HP.out _) (HC.out _) hpm hpb hpg hK hM s2.undrew,((Step.refl _ _).alloc _).trans (ownK s2.undrew)⟩

end Go.Proofs.YtmjcnomgpikncaaGreatDoor

namespace Go.Proofs.YtmjcnomgpikncaaGreatDoor

open Go.RowKit Go.Deep



set_option maxRecDepth 100000 in
set_option maxHeartbeats 1000000 in
theorem bw_msgB_loose {p m:Nat} {og cf:Value} {c:Cfg} {S:List Nat} {l:List UInt8} {w:World} (h:BW p m og cf c S l w) (cx:Value) (nm:List UInt8) (t seq:Int) (hs:nm.length≤2147483647) (hlim:l.length+nm.length+32≤140737488355328) (hc:c.strictW=false) :
    Calls Tryz.prog 243 #[.pointer (some ⟨p,0,none⟩),cx,strV nm,.int .i32 t,.int .i32 seq] w (Did (BW p m og cf c) S w (l++(bText nm++[u8 t]++be 4 seq),0)):=by
  have HI:=Lib.hid h
  obtain ⟨b,g,sc,K,rfl,hp,hm,hC,hpm,hpb,hpg,hK⟩:=h
  have c2:w.cell? ⟨p,2,none⟩=some cf:=by rw [hp.cells];rfl
  have hW:=cfg_strictW hC
  rw [hc] at hW
  have HW:=Lib.hid hW
  clear hW hp hm hC hK hpm hpb hpg
  go_enter Tryz.func243,Tryz.ntmps243
  go_wp2_with (fail)
  ((with_reducible refine HW.out.mono ?_);rintro e w' ⟨rfl,rfl⟩)
  go_wp2_with (fail)
  ((with_reducible refine (bw_str HI.out _ nm hs (by omega)).mono ?_);rintro e W1 ⟨ev,S1,rfl,he,h1,s1⟩)
  obtain rfl:=he.zero
  clear he
  go_wp2_with (fail)
  refine (bw_byte h1 _ _ (by simp [bText,be_length];omega)).mono ?_
  rintro e W2 ⟨ev,S2,rfl,he,h2,s2⟩
  obtain rfl:=he.zero
  clear he
  go_wp2_with (fail)
  ((with_reducible refine (bw_i32 h2 _ _ (by simp [bText,be_length];omega)).mono ?_);rintro e W3 ⟨ev,S3,rfl,he,h3,s3⟩)
  obtain rfl:=he.zero
  clear he
  go_wp2
  go_ret
  refine ⟨_,_,rfl,IsErr.nil _,?_,s1.trans (s2.trans s3)⟩
  simpa [List.append_assoc,u8_mod] using h3

theorem verOf (t:Int):be 4 (IntKind.i32.wrap (bits .or .u32 2147549184 (t % 4294967296)))=be 4 ((2147549184 ||| (t % 4294967296).toNat:Nat):Int):=by
  rw [be4_mod]
  congr 1
  have h:=(bits_nat .u32 32 (by decide) (fun n h0 h1=>by rw [IntKind.wrap_u32];omega) 2147549184 (t % 4294967296).toNat (by omega) (by omega)).2
  have e:(((t % 4294967296).toNat:Nat):Int)=t % 4294967296:=by omega
  rw [e] at h
  exact h

set_option maxRecDepth 100000 in
set_option maxHeartbeats 1000000 in
theorem bw_msgB_strict {p m:Nat} {og cf:Value} {c:Cfg} {S:List Nat} {l:List UInt8} {w:World} (h:BW p m og cf c S l w) (cx:Value) (nm:List UInt8) (t seq:Int) (hs:nm.length≤2147483647) (hlim:l.length+nm.length+32≤140737488355328) (hc:c.strictW=true) :
    Calls Tryz.prog 243 #[.pointer (some ⟨p,0,none⟩),cx,strV nm,.int .i32 t,.int .i32 seq] w (Did (BW p m og cf c) S w (l++(be 4 ((2147549184 ||| (t % 4294967296).toNat:Nat):Int)++bText nm++be 4 seq),0)):=by
  have HI:=Lib.hid h
  obtain ⟨b,g,sc,K,rfl,hp,hm,hC,hpm,hpb,hpg,hK⟩:=h
  have c2:w.cell? ⟨p,2,none⟩=some cf:=by rw [hp.cells];rfl
  have hW:=cfg_strictW hC
  rw [hc] at hW
  have HW:=Lib.hid hW
  have HV:=Lib.hid (verOf t)
  clear hW hp hm hC hK hpm hpb hpg
  go_enter Tryz.func243,Tryz.ntmps243
  go_wp2_with (fail)
  ((with_reducible refine HW.out.mono ?_);rintro e w' ⟨rfl,rfl⟩)
  go_wp2_with (fail)
  ((with_reducible refine (bw_i32 HI.out _ _ (by omega)).mono ?_);rintro e W0 ⟨ev,S0,rfl,he,h0,s0⟩)
  obtain rfl:=he.zero
  clear he
  have h0':BW p m og cf c S0 (l++be 4 ((2147549184 ||| (t % 4294967296).toNat:Nat):Int)) W0:=by
    first
      | (rw [← HV.out];exact h0)
      | (have e1:=HV.out;rw [be4_mod] at e1;rw [← e1,← be4_w32];exact h0)
  clear h0
  go_wp2_with (fail)
  ((with_reducible refine (bw_str h0' _ nm hs (by simp [be_length];omega)).mono ?_);rintro e W1 ⟨ev,S1,rfl,he,h1,s1⟩)
  obtain rfl:=he.zero
  clear he
  go_wp2_with (fail)
  ((with_reducible refine (bw_i32 h1 _ _ (by simp [bText,be_length];omega)).mono ?_);rintro e W3 ⟨ev,S3,rfl,he,h3,s3⟩)
  obtain rfl:=he.zero
  clear he
  go_wp2
  go_ret
  refine ⟨_,_,rfl,IsErr.nil _,?_,s0.trans (s1.trans s3)⟩
  simpa [List.append_assoc] using h3

end Go.Proofs.YtmjcnomgpikncaaGreatDoor
