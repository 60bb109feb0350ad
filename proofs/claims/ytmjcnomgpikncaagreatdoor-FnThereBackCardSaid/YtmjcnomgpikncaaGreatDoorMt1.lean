/- The binary protocol: numbers are read; limits. No condition. -/
import Derived.Test.YtmjcnomgpikncaaGreatDoorMa3
import Derived.Test.YtmjcnomgpikncaaGreatDoorMd1
import Derived.Test.YtmjcnomgpikncaaGreatDoorMd4
set_option linter.unusedVariables false
set_option linter.unusedSimpArgs false
namespace Go.Proofs.YtmjcnomgpikncaaGreatDoor

open Go.RowKit Go.Deep



def RD {σ:Type} (Is:List Nat→σ→World→Prop) (S:List Nat) (w:World) (v:Value) (s:σ) (e:Ending) (w':World):Prop :=
  ∃ S',e=.returned v∧Is S' s w'∧Step S S' w w'

def BR (p m:Nat) (og cf:Value) (c:Cfg) (S:List Nat) (l:List UInt8) (w:World):Prop :=
  ∃ b g off sc K,S=p :: m :: b :: g :: K∧Bin p (memV m) og cf sc w∧Mem m b g off (Lib.byteCells l) w∧CfgAt c cf K w∧(p≠m∧p≠b∧p≠g)∧∀ k,k∈K→k≠p∧k≠b∧k≠g

theorem BR.step {p m:Nat} {og cf:Value} {c:Cfg} {S:List Nat} {l:List UInt8} {w:World} (h:BR p m og cf c S l w) {T U:List Nat} {w1:World} (hs:Step T U w w1) (hn:∀ k,k∈S→k∉T):BR p m og cf c S l w1:=by
  obtain ⟨b,g,off,sc,K,rfl,hp,hm,hC,hd,hK⟩:=h
  exact ⟨b,g,off,sc,K,rfl,hp.step hs (hn _ (by simp)),hm.step hs (hn _ (by simp)) (hn _ (by simp)) (hn _ (by simp)),hC.step hs (fun k hk=>hn k (by simp [hk])),hd,hK⟩

theorem BR.lt {p m:Nat} {og cf:Value} {c:Cfg} {S:List Nat} {l:List UInt8} {w:World} (h:BR p m og cf c S l w):∀ k,k∈S→k < w.heap.size:=by
  obtain ⟨b,g,off,sc,K,rfl,hp,hm,hC,hd,hK⟩:=h
  intro k hk
  simp only [List.mem_cons] at hk
  rcases hk with rfl | rfl | rfl | rfl | hk
  · exact hp.lt
  · exact hm.lt
  · exact hm.2.2.2.lt.1
  · exact hm.2.2.2.lt.2
  · exact hC.lt k hk

theorem BR.took {p m b g off1:Nat} {og cf:Value} {c:Cfg} {K:List Nat} {sc1:List Value} {l1:List UInt8} {w w1:World} (hC:CfgAt c cf K w) (hd:p≠m∧p≠b∧p≠g) (hK:∀ k,k∈K→k≠p∧k≠b∧k≠g) (hp:Bin p (memV m) og cf sc1 w1) (hM:Mem m b g off1 (Lib.byteCells l1) w1) (hs:Step [b,p] [b,p] w w1) :
    BR p m og cf c (p :: m :: b :: g :: K) l1 w1∧Step (p :: m :: b :: g :: K) (p :: m :: b :: g :: K) w w1:=by
  refine ⟨⟨b,g,off1,sc1,K,rfl,hp,hM,hC.step hs (fun k hk=>by have:=hK k hk;simp [this]),hd,hK⟩,hs.more (by simp) (fun k hk=>.inr (.inl hk))⟩

set_option maxRecDepth 100000 in
set_option maxHeartbeats 1000000 in
theorem br_i16 {p m:Nat} {og cf:Value} {c:Cfg} {S:List Nat} {b0 b1:UInt8} {l:List UInt8} {w:World} (h:BR p m og cf c S (b0 :: b1 :: l) w) :
    Calls Tryz.prog 211 #[.pointer (some ⟨p,0,none⟩),ctxV] w (RD (BR p m og cf c) S w (.tuple #[.int .i16 (IntKind.i16.wrap (Lib.beNat [b0,b1])),.nilIface]) l):=by
  obtain ⟨b,g,off,sc,K,rfl,hp,hm,hC,hd,hK⟩:=h
  have hR:=readAll_whole p m b g off 3 2 64 og cf sc (Lib.byteCells (b0 :: b1 :: l)) w hp hm hd.1 hd.2.1 hd.2.2 (by omega) (by simp [Lib.byteCells_length]) (Lib.byteCells_one _) (by omega) (by omega) (by omega) (by omega)
  have HR:=Lib.hid hR
  clear hR
  go_enter Tryz.func211,Tryz.ntmps211
  go_wp2_with fail
  refine HR.out.mono ?_
  rintro e W1 ⟨rfl,hM,hpp,hs⟩
  have hB:=hp.filled (bs:=Lib.byteCells (b0 :: b1 :: l)) (n:=2) (by omega) (by simp [Lib.byteCells_length]) (Lib.byteCells_one _) hpp
  have hM':Mem m b g (off+2) (Lib.byteCells l) W1:=hM
  have d0:W1.cell? ⟨p,3,none⟩=some (.int .u8 b0.toNat):=by rw [hB.cells];rfl
  have d1:W1.cell? ⟨p,4,none⟩=some (.int .u8 b1.toNat):=by rw [hB.cells];rfl
  have HB:=Lib.hid hB
  clear HR hM hpp hB
  go_wp2_with (go_at_call 253;refine (Tryz.binary_BE_Uint16 p 3 2 64 b0 b1 _ (Nat.le_refl _) d0 d1).mono ?_)
  rintro e W2 ⟨rfl,hb⟩
  have hs2:Step [b,p] [b,p] w W2:=hs.trans (Step.ofBelow hb)
  have hM2:Mem m b g (off+2) (Lib.byteCells l) W2:=hM'.step (Step.ofBelow (S:=[]) hb) (by simp) (by simp) (by simp)
  have hB2:=HB.out.step (Step.ofBelow (S:=[]) hb) (by simp)
  clear d0 d1
  go_wp2
  go_ret2
  have hT:=BR.took hC hd hK hB2 hM2 hs2
  exact ⟨_,rfl,hT.1,hT.2⟩

set_option maxRecDepth 100000 in
set_option maxHeartbeats 1000000 in
theorem br_i32 {p m:Nat} {og cf:Value} {c:Cfg} {S:List Nat} {b0 b1 b2 b3:UInt8} {l:List UInt8} {w:World} (h:BR p m og cf c S (b0 :: b1 :: b2 :: b3 :: l) w) :
    Calls Tryz.prog 212 #[.pointer (some ⟨p,0,none⟩),ctxV] w (RD (BR p m og cf c) S w (.tuple #[.int .i32 (wrap32 (Lib.beNat [b0,b1,b2,b3])),.nilIface]) l):=by
  obtain ⟨b,g,off,sc,K,rfl,hp,hm,hC,hd,hK⟩:=h
  have hR:=readAll_whole p m b g off 3 4 64 og cf sc (Lib.byteCells (b0 :: b1 :: b2 :: b3 :: l)) w hp hm hd.1 hd.2.1 hd.2.2 (by omega) (by simp [Lib.byteCells_length]) (Lib.byteCells_one _) (by omega) (by omega) (by omega) (by omega)
  have HR:=Lib.hid hR
  clear hR
  go_enter Tryz.func212,Tryz.ntmps212
  go_wp2_with fail
  refine HR.out.mono ?_
  rintro e W1 ⟨rfl,hM,hpp,hs⟩
  have hB:=hp.filled (bs:=Lib.byteCells (b0 :: b1 :: b2 :: b3 :: l)) (n:=4) (by omega) (by simp [Lib.byteCells_length]) (Lib.byteCells_one _) hpp
  have hM':Mem m b g (off+4) (Lib.byteCells l) W1:=hM
  have d0:W1.cell? ⟨p,3,none⟩=some (.int .u8 b0.toNat):=by rw [hB.cells];rfl
  have d1:W1.cell? ⟨p,4,none⟩=some (.int .u8 b1.toNat):=by rw [hB.cells];rfl
  have d2:W1.cell? ⟨p,5,none⟩=some (.int .u8 b2.toNat):=by rw [hB.cells];rfl
  have d3:W1.cell? ⟨p,6,none⟩=some (.int .u8 b3.toNat):=by rw [hB.cells];rfl
  have HB:=Lib.hid hB
  clear HR hM hpp hB
  go_wp2_with (go_at_call 254;refine (Tryz.binary_BE_Uint32 p 3 4 64 b0 b1 b2 b3 _ (Nat.le_refl _) d0 d1 d2 d3).mono ?_)
  rintro e W2 ⟨rfl,hb⟩
  have hs2:Step [b,p] [b,p] w W2:=hs.trans (Step.ofBelow hb)
  have hM2:Mem m b g (off+4) (Lib.byteCells l) W2:=hM'.step (Step.ofBelow (S:=[]) hb) (by simp) (by simp) (by simp)
  have hB2:=HB.out.step (Step.ofBelow (S:=[]) hb) (by simp)
  clear d0 d1 d2 d3
  go_wp2
  go_ret2
  have hT:=BR.took hC hd hK hB2 hM2 hs2
  exact ⟨_,rfl,hT.1,hT.2⟩

set_option maxRecDepth 100000 in
set_option maxHeartbeats 1000000 in
theorem br_i64 {p m:Nat} {og cf:Value} {c:Cfg} {S:List Nat} {b0 b1 b2 b3 b4 b5 b6 b7:UInt8} {l:List UInt8} {w:World} (h:BR p m og cf c S (b0 :: b1 :: b2 :: b3 :: b4 :: b5 :: b6 :: b7 :: l) w) :
    Calls Tryz.prog 213 #[.pointer (some ⟨p,0,none⟩),ctxV] w (RD (BR p m og cf c) S w (.tuple #[.int .i64 (wrap64 (Lib.beNat [b0,b1,b2,b3,b4,b5,b6,b7])),.nilIface]) l):=by
  obtain ⟨b,g,off,sc,K,rfl,hp,hm,hC,hd,hK⟩:=h
  have hR:=readAll_whole p m b g off 3 8 64 og cf sc (Lib.byteCells (b0 :: b1 :: b2 :: b3 :: b4 :: b5 :: b6 :: b7 :: l)) w hp hm hd.1 hd.2.1 hd.2.2 (by omega) (by simp [Lib.byteCells_length]) (Lib.byteCells_one _) (by omega) (by omega) (by omega) (by omega)
  have HR:=Lib.hid hR
  clear hR
  go_enter Tryz.func213,Tryz.ntmps213
  go_wp2_with fail
  refine HR.out.mono ?_
  rintro e W1 ⟨rfl,hM,hpp,hs⟩
  have hB:=hp.filled (bs:=Lib.byteCells (b0 :: b1 :: b2 :: b3 :: b4 :: b5 :: b6 :: b7 :: l)) (n:=8) (by omega) (by simp [Lib.byteCells_length]) (Lib.byteCells_one _) hpp
  have hM':Mem m b g (off+8) (Lib.byteCells l) W1:=hM
  have d0:W1.cell? ⟨p,3,none⟩=some (.int .u8 b0.toNat):=by rw [hB.cells];rfl
  have d1:W1.cell? ⟨p,4,none⟩=some (.int .u8 b1.toNat):=by rw [hB.cells];rfl
  have d2:W1.cell? ⟨p,5,none⟩=some (.int .u8 b2.toNat):=by rw [hB.cells];rfl
  have d3:W1.cell? ⟨p,6,none⟩=some (.int .u8 b3.toNat):=by rw [hB.cells];rfl
  have d4:W1.cell? ⟨p,7,none⟩=some (.int .u8 b4.toNat):=by rw [hB.cells];rfl
  have d5:W1.cell? ⟨p,8,none⟩=some (.int .u8 b5.toNat):=by rw [hB.cells];rfl
  have d6:W1.cell? ⟨p,9,none⟩=some (.int .u8 b6.toNat):=by rw [hB.cells];rfl
  have d7:W1.cell? ⟨p,10,none⟩=some (.int .u8 b7.toNat):=by rw [hB.cells];rfl
  have HB:=Lib.hid hB
  clear HR hM hpp hB
  go_wp2_with (go_at_call 252;refine (Tryz.binary_BE_Uint64 p 3 8 64 b0 b1 b2 b3 b4 b5 b6 b7 _ (Nat.le_refl _) d0 d1 d2 d3 d4 d5 d6 d7).mono ?_)
  rintro e W2 ⟨rfl,hb⟩
  have hs2:Step [b,p] [b,p] w W2:=hs.trans (Step.ofBelow hb)
  have hM2:Mem m b g (off+8) (Lib.byteCells l) W2:=hM'.step (Step.ofBelow (S:=[]) hb) (by simp) (by simp) (by simp)
  have hB2:=HB.out.step (Step.ofBelow (S:=[]) hb) (by simp)
  clear d0 d1 d2 d3 d4 d5 d6 d7
  go_wp2
  go_ret2
  have hT:=BR.took hC hd hK hB2 hM2 hs2
  exact ⟨_,rfl,hT.1,hT.2⟩

set_option maxRecDepth 100000 in
set_option maxHeartbeats 1000000 in
theorem br_dbl {p m:Nat} {og cf:Value} {c:Cfg} {S:List Nat} {b0 b1 b2 b3 b4 b5 b6 b7:UInt8} {l:List UInt8} {w:World} (h:BR p m og cf c S (b0 :: b1 :: b2 :: b3 :: b4 :: b5 :: b6 :: b7 :: l) w) :
    Calls Tryz.prog 208 #[.pointer (some ⟨p,0,none⟩),ctxV] w (RD (BR p m og cf c) S w (.tuple #[.float .f64 (Lib.beNat [b0,b1,b2,b3,b4,b5,b6,b7]),.nilIface]) l):=by
  obtain ⟨b,g,off,sc,K,rfl,hp,hm,hC,hd,hK⟩:=h
  have hR:=readAll_whole p m b g off 3 8 64 og cf sc (Lib.byteCells (b0 :: b1 :: b2 :: b3 :: b4 :: b5 :: b6 :: b7 :: l)) w hp hm hd.1 hd.2.1 hd.2.2 (by omega) (by simp [Lib.byteCells_length]) (Lib.byteCells_one _) (by omega) (by omega) (by omega) (by omega)
  have HR:=Lib.hid hR
  clear hR
  go_enter Tryz.func208,Tryz.ntmps208
  go_wp2_with fail
  refine HR.out.mono ?_
  rintro e W1 ⟨rfl,hM,hpp,hs⟩
  have hB:=hp.filled (bs:=Lib.byteCells (b0 :: b1 :: b2 :: b3 :: b4 :: b5 :: b6 :: b7 :: l)) (n:=8) (by omega) (by simp [Lib.byteCells_length]) (Lib.byteCells_one _) hpp
  have hM':Mem m b g (off+8) (Lib.byteCells l) W1:=hM
  have d0:W1.cell? ⟨p,3,none⟩=some (.int .u8 b0.toNat):=by rw [hB.cells];rfl
  have d1:W1.cell? ⟨p,4,none⟩=some (.int .u8 b1.toNat):=by rw [hB.cells];rfl
  have d2:W1.cell? ⟨p,5,none⟩=some (.int .u8 b2.toNat):=by rw [hB.cells];rfl
  have d3:W1.cell? ⟨p,6,none⟩=some (.int .u8 b3.toNat):=by rw [hB.cells];rfl
  have d4:W1.cell? ⟨p,7,none⟩=some (.int .u8 b4.toNat):=by rw [hB.cells];rfl
  have d5:W1.cell? ⟨p,8,none⟩=some (.int .u8 b5.toNat):=by rw [hB.cells];rfl
  have d6:W1.cell? ⟨p,9,none⟩=some (.int .u8 b6.toNat):=by rw [hB.cells];rfl
  have d7:W1.cell? ⟨p,10,none⟩=some (.int .u8 b7.toNat):=by rw [hB.cells];rfl
  have HB:=Lib.hid hB
  clear HR hM hpp hB
  go_wp2_with (go_at_call 252;refine (Tryz.binary_BE_Uint64 p 3 8 64 b0 b1 b2 b3 b4 b5 b6 b7 _ (Nat.le_refl _) d0 d1 d2 d3 d4 d5 d6 d7).mono ?_)
  rintro e W2 ⟨rfl,hb⟩
  have hs2:Step [b,p] [b,p] w W2:=hs.trans (Step.ofBelow hb)
  have hM2:Mem m b g (off+8) (Lib.byteCells l) W2:=hM'.step (Step.ofBelow (S:=[]) hb) (by simp) (by simp) (by simp)
  have hB2:=HB.out.step (Step.ofBelow (S:=[]) hb) (by simp)
  clear d0 d1 d2 d3 d4 d5 d6 d7
  have hfo:=f64of
  go_wp2
  go_ret2
  have hT:=BR.took hC hd hK hB2 hM2 hs2
  exact ⟨_,rfl,hT.1,hT.2⟩

end Go.Proofs.YtmjcnomgpikncaaGreatDoor

namespace Go.Proofs.YtmjcnomgpikncaaGreatDoor

open Go.RowKit Go.Deep



def Cfg.fit (c:Cfg):Prop:=(-2147483648≤c.ms∧c.ms < 2147483648)∧(-2147483648≤c.ct∧c.ct < 2147483648)

theorem Cfg.container_range {c:Cfg} (h:c.fit):0 < c.container∧c.container≤2147483647:=by
  obtain ⟨_,h1,h2⟩:=h
  unfold Cfg.container orElse
  (repeat' split) <;> omega

def sizeK (c:Cfg) (n:Int):Nat:=if n < 0 then 12 else if c.message < n then 13 else 0

def contK (c:Cfg) (n m rem:Int):Nat :=
  if n < 0 then 12 else if 2147483647 < n then 13 else if c.container < n then 13 else if 2147483647 < n * m then 13 else if rem < n * m then 13 else sizeK c (n * m)

def minB (t:Int):Int:=if t=4∨t=10 then 8 else if t=6 then 2 else if t=8∨t=11∨t=13∨t=14∨t=15 then 4 else if t=16 then 16 else 1

def minC (t:Int):Int:=if t=4 then 8 else if t=16 then 16 else 1

theorem minB_range (t:Int):1≤minB t∧minB t≤16:=by unfold minB;(repeat' split) <;> omega

theorem minC_range (t:Int):1≤minC t∧minC t≤16:=by unfold minC;(repeat' split) <;> omega

def Checks (k:Nat) (w:World) (e:Ending) (w':World):Prop:=∃ ev,e=.returned ev∧IsErr k ev w'∧Below w.heap.size w w'

theorem Checks.fails {w:World} {t:Nat} {er ms:Value} (o:Obj) (ht:t≤6):Checks (10+t) w (.returned (.iface 235 (.pointer (some ⟨w.heap.size+1,0,none⟩)))) ((w.alloc o).alloc (.cells #[.int .i64 (t:Nat),er,ms] 237 (0,0))) :=
  ⟨_,rfl,.inr ⟨w.heap.size+1,t,er,ms,rfl,ht,rfl,heap_alloc_at (by simp) _⟩,((Below.refl _ _).alloc (Nat.le_refl _) _).alloc (by simp) _⟩

set_option maxRecDepth 100000 in
set_option maxHeartbeats 1000000 in
theorem check_size {c:Cfg} {cf:Value} {K:List Nat} {w:World} (hC:CfgAt c cf K w) (n:Int) :
    Calls Tryz.prog 179 #[.int .i32 n,cf] w (Checks (sizeK c n) w):=by
  have HC:=Lib.hid (cfg_message hC)
  have hem:=errS_m
  have hen:=errS_n
  clear hC
  by_cases h0:n < 0
  · have e:sizeK c n=10+2:=by unfold sizeK;rw [if_pos h0]
    rw [e]
    clear e
    go_enter Tryz.func179,Tryz.ntmps179
    go_wp2_with (first | (go_at_call 78;go_in) | (go_at_call 77;go_in) | (go_at_call 283;go_in))
    go_ret
    exact Checks.fails (t:=2) _ (by omega)
  · by_cases h1:c.message < n
    · have e:sizeK c n=10+3:=by unfold sizeK;rw [if_neg h0,if_pos h1]
      rw [e]
      clear e
      go_enter Tryz.func179,Tryz.ntmps179
      go_wp2_with (first | (go_at_call 198;refine HC.out.mono ?_;rintro e w' ⟨rfl,rfl⟩) | (go_at_call 78;go_in) | (go_at_call 77;go_in) | (go_at_call 283;go_in))
      go_ret
      exact Checks.fails (t:=3) _ (by omega)
    · have e:sizeK c n=0:=by unfold sizeK;rw [if_neg h0,if_neg h1]
      rw [e]
      clear e
      go_enter Tryz.func179,Tryz.ntmps179
      go_wp2_with (first | (go_at_call 198;refine HC.out.mono ?_;rintro e w' ⟨rfl,rfl⟩))
      go_ret
      exact ⟨_,rfl,IsErr.nil _,Below.refl _ _⟩

set_option maxRecDepth 100000 in
set_option maxHeartbeats 2000000 in
theorem check_container {c:Cfg} {cf:Value} {K:List Nat} {w:World} (hC:CfgAt c cf K w) (hf:c.fit) (n m:Int) (rem:Nat) (hn:-9223372036854775808≤n∧n < 9223372036854775808) (hm:1≤m∧m≤64) (hr:rem < 9223372036854775808) :
    Calls Tryz.prog 188 #[.int .i64 n,.int .i32 m,.int .u64 rem,cf] w (Checks (contK c n m rem) w):=by
  have HC:=Lib.hid (cfg_container hC)
  have HS:=Lib.hid (fun n=>check_size hC n)
  have hem:=errS_m
  have hen:=errS_n
  have hcr:=Cfg.container_range hf
  have hcw:IntKind.i64.wrap c.container=c.container:=by rw [IntKind.wrap_i64];omega
  have hmw:IntKind.i64.wrap m=m:=by rw [IntKind.wrap_i64];omega
  clear hC hf
  by_cases h0:n < 0
  · have e:contK c n m rem=10+2:=by unfold contK;rw [if_pos h0]
    rw [e]
    clear e
    go_enter Tryz.func188,Tryz.ntmps188
    go_wp2_with (first | (go_at_call 78;go_in) | (go_at_call 77;go_in) | (go_at_call 283;go_in))
    go_ret
    exact Checks.fails (t:=2) _ (by omega)
  by_cases h1:2147483647 < n
  · have e:contK c n m rem=10+3:=by unfold contK;rw [if_neg h0,if_pos h1]
    rw [e]
    clear e
    go_enter Tryz.func188,Tryz.ntmps188
    go_wp2_with (first | (go_at_call 78;go_in) | (go_at_call 77;go_in) | (go_at_call 283;go_in))
    go_ret
    exact Checks.fails (t:=3) _ (by omega)
  by_cases h2:c.container < n
  · have e:contK c n m rem=10+3:=by unfold contK;rw [if_neg h0,if_neg h1,if_pos h2]
    rw [e]
    clear e
    go_enter Tryz.func188,Tryz.ntmps188
    go_wp2_with (first | (go_at_call 200;refine HC.out.mono ?_;rintro e w' ⟨rfl,rfl⟩) | (go_at_call 78;go_in) | (go_at_call 77;go_in) | (go_at_call 283;go_in))
    go_ret
    exact Checks.fails (t:=3) _ (by omega)
  have hT0:0≤n * m:=Int.mul_nonneg (by omega) (by omega)
  have hT1:n * m≤2147483647 * 64:=Int.le_trans (Int.mul_le_mul_of_nonneg_right (show n≤2147483647 by omega) (by omega)) (Int.mul_le_mul_of_nonneg_left (show m≤64 by omega) (by omega))
  have eT:contK c n m rem=if 2147483647 < n * m then 13 else if (rem:Int) < n * m then 13 else sizeK c (n * m):=by unfold contK;rw [if_neg h0,if_neg h1,if_neg h2]
  rw [eT]
  clear eT
  obtain ⟨T,hT⟩:∃ T,n * m=T:=⟨_,rfl⟩
  have hTw:wrap64 (n * m)=T:=by rw [hT] at hT0 hT1 ⊢;unfold wrap64;omega
  have hTw2:IntKind.i64.wrap (n * m)=T:=by rw [hT] at hT0 hT1 ⊢;rw [IntKind.wrap_i64];omega
  rw [hT] at hT0 hT1 ⊢
  have hTu:IntKind.u64.wrap T=T:=by rw [IntKind.wrap_u64];omega
  by_cases h3:2147483647 < T
  · rw [if_pos h3]
    go_enter Tryz.func188,Tryz.ntmps188
    go_wp2_with (first | (go_at_call 200;refine HC.out.mono ?_;rintro e w' ⟨rfl,rfl⟩) | (go_at_call 78;go_in) | (go_at_call 77;go_in) | (go_at_call 283;go_in))
    go_ret
    exact Checks.fails (t:=3) _ (by omega)
  rw [if_neg h3]
  have hTi:IntKind.i32.wrap T=T:=by rw [IntKind.wrap_i32];omega
  have hun:¬ (rem:Int)=18446744073709551615:=by omega
  by_cases h4:(rem:Int) < T
  · rw [if_pos h4]
    go_enter Tryz.func188,Tryz.ntmps188
    go_wp2_with (first | (go_at_call 200;refine HC.out.mono ?_;rintro e w' ⟨rfl,rfl⟩) | (go_at_call 78;go_in) | (go_at_call 77;go_in) | (go_at_call 283;go_in))
    go_ret
    exact Checks.fails (t:=3) _ (by omega)
  · rw [if_neg h4]
    go_enter Tryz.func188,Tryz.ntmps188
    go_wp2_with (first | (go_at_call 200;refine HC.out.mono ?_;rintro e w' ⟨rfl,rfl⟩))
    refine (HS.out _).mono ?_
    rintro e w' ⟨ev,rfl,h⟩
    go_wp2
    go_ret
    exact ⟨_,rfl,h⟩

theorem minBin_any (p:Value) (t:Int) (h0:0≤t) (h1:t < 256) (w:World):Calls Tryz.prog 255 #[p,.int .u8 t] w fun e w'=>e=.returned (.int .i32 (minB t))∧w=w':=by
  have hc:t=0∨t=1∨t=2∨t=3∨t=4∨t=6∨t=8∨t=10∨t=11∨t=12∨t=13∨t=14∨t=15∨t=16∨(t≠0∧t≠1∧t≠2∧t≠3∧t≠4∧t≠6∧t≠8∧t≠10∧t≠11∧t≠12∧t≠13∧t≠14∧t≠15∧t≠16):=by omega
  rcases hc with rfl | rfl | rfl | rfl | rfl | rfl | rfl | rfl | rfl | rfl | rfl | rfl | rfl | rfl | ⟨k0,k1,k2,k3,k4,k6,k8,k10,k11,k12,k13,k14,k15,k16⟩
  rotate_left 14
  · rw [show minB t=1 by unfold minB;simp [k4,k6,k8,k10,k11,k13,k14,k15,k16]]
    go_enter Tryz.func255,Tryz.ntmps255
    go_wp2
    go_ret
    exact ⟨rfl,rfl⟩
  all_goals go_enter Tryz.func255,Tryz.ntmps255
  all_goals go_wp2
  all_goals go_ret
  all_goals exact ⟨rfl,rfl⟩

theorem minCmp_any (p:Value) (t:Int) (h0:0≤t) (h1:t < 256) (w:World):Calls Tryz.prog 187 #[p,.int .u8 t] w fun e w'=>e=.returned (.int .i32 (minC t))∧w=w':=by
  have hc:t=0∨t=1∨t=2∨t=3∨t=4∨t=6∨t=8∨t=10∨t=11∨t=12∨t=13∨t=14∨t=15∨t=16∨(t≠0∧t≠1∧t≠2∧t≠3∧t≠4∧t≠6∧t≠8∧t≠10∧t≠11∧t≠12∧t≠13∧t≠14∧t≠15∧t≠16):=by omega
  rcases hc with rfl | rfl | rfl | rfl | rfl | rfl | rfl | rfl | rfl | rfl | rfl | rfl | rfl | rfl | ⟨k0,k1,k2,k3,k4,k6,k8,k10,k11,k12,k13,k14,k15,k16⟩
  rotate_left 14
  · rw [show minC t=1 by unfold minC;simp [k4,k16]]
    go_enter Tryz.func187,Tryz.ntmps187
    go_wp2
    go_ret
    exact ⟨rfl,rfl⟩
  all_goals go_enter Tryz.func187,Tryz.ntmps187
  all_goals go_wp2
  all_goals go_ret
  all_goals exact ⟨rfl,rfl⟩

end Go.Proofs.YtmjcnomgpikncaaGreatDoor

namespace Go.Proofs.YtmjcnomgpikncaaGreatDoor

open Go.RowKit



inductive ROp where
  | msgB | msgE | strB | strE | fldB | fldE | mapB | mapE | lstB | lstE | setB | setE
  | bool | byte | i16 | i32 | i64 | dbl | str | uuid

structure RGot where
  t:Int:=0
  k:Int:=0
  size:Int:=0
  id:Int:=0
  n:Int:=0
  s:List UInt8:=[]

def ROp.nm:ROp→String
  | .msgB => "ReadMessageBegin" | .msgE => "ReadMessageEnd" | .strB => "ReadStructBegin" | .strE => "ReadStructEnd" | .fldB => "ReadFieldBegin" | .fldE => "ReadFieldEnd"
  | .mapB => "ReadMapBegin" | .mapE => "ReadMapEnd" | .lstB => "ReadListBegin" | .lstE => "ReadListEnd" | .setB => "ReadSetBegin" | .setE => "ReadSetEnd"
  | .bool => "ReadBool" | .byte => "ReadByte" | .i16 => "ReadI16" | .i32 => "ReadI32" | .i64 => "ReadI64" | .dbl => "ReadDouble" | .str => "ReadString" | .uuid => "ReadUUID"

def ROp.tup (g:RGot) (ev:Value):ROp→Value
  | .msgB=>.tuple #[strV g.s,.int .i32 g.t,.int .i32 g.n,ev]
  | .strB=>.tuple #[.string ByteArray.empty,ev]
  | .fldB=>.tuple #[.string ByteArray.empty,.int .u8 g.t,.int .i16 g.id,ev]
  | .mapB=>.tuple #[.int .u8 g.k,.int .u8 g.t,.int .i64 g.size,ev]
  | .lstB=>.tuple #[.int .u8 g.t,.int .i64 g.size,ev]
  | .setB=>.tuple #[.int .u8 g.t,.int .i64 g.size,ev]
  | .bool=>.tuple #[.bool (g.n == 1),ev]
  | .byte=>.tuple #[.int .i8 g.n,ev]
  | .i16=>.tuple #[.int .i16 g.n,ev]
  | .i32=>.tuple #[.int .i32 g.n,ev]
  | .i64=>.tuple #[.int .i64 g.n,ev]
  | .dbl=>.tuple #[.float .f64 (IntKind.u64.wrap g.n).toNat,ev]
  | .str=>.tuple #[strV g.s,ev]
  | .uuid=>.tuple #[.agg (Lib.byteCells g.s).toArray,ev]
  | _=>ev

def Told {σ:Type} (Is:List Nat→σ→World→Prop) (o:ROp) (S:List Nat) (w:World) (r:RGot × Nat × σ) (e:Ending) (w':World):Prop :=
  ∃ ev S',e=.returned (o.tup r.1 ev)∧IsErr r.2.1 ev w'∧Is S' r.2.2 w'∧Step S S' w w'

def takeN (n:Nat) (l:List UInt8):Option (List UInt8 × List UInt8):=if n≤l.length then some (l.take n,l.drop n) else none

def i8w (x:UInt8):Int:=IntKind.i8.wrap (x.toNat:Int)

def i16w (l:List UInt8):Int:=IntKind.i16.wrap (Lib.beNat l:Int)

def binRd (c:Cfg) (l:List UInt8):ROp→Option (RGot × Nat × List UInt8)
  | .byte=>match l with
    | x :: r=>some ({ n:=i8w x },0,r)
    | []=>none
  | .bool=>match l with
    | x :: r=>some ({ n:=if x=1 then 1 else 0 },0,r)
    | []=>none
  | .i16=>(takeN 2 l).map fun a=>({ n:=i16w a.1 },0,a.2)
  | .i32=>(takeN 4 l).map fun a=>({ n:=wrap32 (Lib.beNat a.1) },0,a.2)
  | .i64=>(takeN 8 l).map fun a=>({ n:=wrap64 (Lib.beNat a.1) },0,a.2)
  | .dbl=>(takeN 8 l).map fun a=>({ n:=wrap64 (Lib.beNat a.1) },0,a.2)
  | .uuid=>(takeN 16 l).map fun a=>({ s:=a.1 },0,a.2)
  | .str=>(takeN 4 l).bind fun a =>
      if sizeK c (wrap32 (Lib.beNat a.1))=0 then (takeN (wrap32 (Lib.beNat a.1)).toNat a.2).map fun b=>({ s:=b.1 },0,b.2)
      else some ({},sizeK c (wrap32 (Lib.beNat a.1)),a.2)
  | .fldB=>match l with
    | x :: r=>if x=0 then some ({},0,r) else (takeN 2 r).map fun a=>({ t:=x.toNat,id:=i16w a.1 },0,a.2)
    | []=>none
  | .lstB | .setB=>match l with
    | x :: r=>(takeN 4 r).map fun a =>
        let n:=wrap32 (Lib.beNat a.1)
        let k:=contK c n (minB x.toNat) a.2.length
        (if k=0 then { t:=x.toNat,size:=n } else { t:=x.toNat },k,a.2)
    | []=>none
  | .mapB=>match l with
    | x :: y :: r=>(takeN 4 r).map fun a =>
        let n:=wrap32 (Lib.beNat a.1)
        let k:=contK c n (minB x.toNat+minB y.toNat) a.2.length
        (if k=0 then { k:=x.toNat,t:=y.toNat,size:=n } else { k:=x.toNat,t:=y.toNat },k,a.2)
    | _=>none
  | .msgB=>none
  | _=>some ({},0,l)

end Go.Proofs.YtmjcnomgpikncaaGreatDoor
