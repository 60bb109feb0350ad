/- bytes.Buffer, TMemoryBuffer. No condition. -/
import Derived.Test.YtmjcnomgpikncaaGreatDoorMa1
import Derived.Deep.RegionHeld3
import Derived.StillTailTactics
set_option linter.unusedVariables false
set_option linter.unusedSimpArgs false
namespace Go.Proofs.YtmjcnomgpikncaaGreatDoor

open Go.RowKit Go.Deep



theorem poked {b g g1 l cap:Nat} {lr:Int} {cur:Array Value} {bs:List Value} {w w1:World} (hbk:w1.heap[b]?=some (.cells #[.slice (some ⟨g1,0,none⟩) (l+1) cap,.int .i64 0,.int .i8 lr] 131 (0,0)))
    (hgb:g1≠b) (hg:w1.heap[g1]?=some (.cells cur 5 (0,0))) (hnc:l+1≤cap) (hcm:cap≤maxLen) (hcs:cur.size=cap) (htk:cur.toList.take l=bs) (hs:Step [b,g] [b,g1] w w1) (v:Value) :
    Buf b g1 0 (bs++[v]) (w1.setCell ⟨g1,l,none⟩ v)∧Step [b,g] [b,g1] w (w1.setCell ⟨g1,l,none⟩ v):=by
  have hl:(cur.toList.take l).length=l:=by rw [List.length_take,Array.length_toList];omega
  have hbl:bs.length=l:=by rw [← htk];exact hl
  have hll:l < cur.toList.length:=by have:cur.toList.length=cur.size:=Array.length_toList;omega
  refine ⟨⟨lr,.inr ⟨cap,cur.setIfInBounds l v,?_,hgb,heap_set_same hg v,?_,hcm,by simpa using hcs,?_⟩⟩,hs.setCell (p:=⟨g1,l,none⟩) (own_mem hs) v⟩
  · rw [Below.heap_setCell _ _ _ _ (Ne.symm hgb),hbk];simp [hbl]
  · simp [hbl];omega
  · simp only [List.length_append,hbl,Nat.zero_add,List.drop_zero,List.length_singleton,Array.toList_setIfInBounds]
    rw [List.take_add_one,List.take_set_of_le (Nat.le_refl _),List.getElem?_set_self hll,htk]
    rfl

set_option maxHeartbeats 2000000 in
set_option maxRecDepth 100000 in
theorem buf_writeByte (b g:Nat) (bs:List Value) (x:Int) (w:World) (h:Buf b g 0 bs w) (h1:∀ v∈bs,v.oneCell'=true) (hlim:bs.length+1≤140737488355328) :
    Calls Tryz.prog 115 #[.pointer (some ⟨b,0,none⟩),.int .u8 x] w fun e w'=>e=.returned .nilIface∧∃ g1,Buf b g1 0 (bs++[.int .u8 x]) w'∧Step [b,g] [b,g1] w w':=by
  obtain ⟨lr,c2,f2⟩:=h.cell2
  have h0:=h.last 0
  have hs0:Step [b,g] [b,g] w (w.setCell ⟨b,2,none⟩ (.int .i8 0)):=(Step.refl _ _).setCell (p:=⟨b,2,none⟩) (.inl (by simp)) _
  have hT:∀ W,Buf b g 0 bs W→Calls Tryz.prog 85 #[.pointer (some ⟨b,0,none⟩),.int .i64 1] W _:=fun W hW=>try_any b g 1 bs W hW (Nat.le_refl _)
  have hG:∀ W,Buf b g 0 bs W→NoRoom b 1 W→Calls Tryz.prog 86 #[.pointer (some ⟨b,0,none⟩),.int .i64 1] W _:=fun W hW hno=>grow_any b g 1 bs W hW h1 (Nat.le_refl _) hno hlim
  go_enter Tryz.func115,Tryz.ntmps115
  go_wp2_with (go_at_call 85;refine (hT _ ?_).mono ?_)
  · exact h0
  clear c2 f2
  generalize w.setCell ⟨b,2,none⟩ (.int .i8 0)=w0 at *
  rintro e W1 (⟨rfl,hR⟩ | ⟨rfl,rfl,hno⟩)
  · obtain ⟨lr1,cap,cur,hbk,hgb,hg,hnc,hcm,hcs,htk,hs⟩:=hR
    have d0:W1.cell? ⟨b,0,none⟩=some (.slice (some ⟨g,0,none⟩) (bs.length+1) cap):=by rw [cell_heap hbk];rfl
    have hlt:bs.length < cur.size:=by omega
    have dg:W1.cell? ⟨g,bs.length,none⟩=some cur[bs.length]:=by rw [cell_heap hg,Array.getElem?_eq_getElem hlt]
    have fg:W1.frozen? ⟨g,bs.length,none⟩=false:=frozen_heap hg _
    have HT:=Lib.hid htk
    have hcm':=hcm
    unfold maxLen at hcm'
    clear hT hG htk
    go_wp2
    go_ret
    obtain ⟨r1,r2⟩:=poked hbk hgb hg hnc hcm hcs HT.out (hs0.trans hs) (.int .u8 x)
    exact ⟨rfl,g,r1,r2⟩
  · go_wp2_with (go_at_call 86;refine (hG _ h0 hno).mono ?_)
    rintro e W1 ⟨rfl,g1,hR⟩
    obtain ⟨lr1,cap,cur,hbk,hgb,hg,hnc,hcm,hcs,htk,hs⟩:=hR
    have d0:W1.cell? ⟨b,0,none⟩=some (.slice (some ⟨g1,0,none⟩) (bs.length+1) cap):=by rw [cell_heap hbk];rfl
    have hlt:bs.length < cur.size:=by omega
    have dg:W1.cell? ⟨g1,bs.length,none⟩=some cur[bs.length]:=by rw [cell_heap hg,Array.getElem?_eq_getElem hlt]
    have fg:W1.frozen? ⟨g1,bs.length,none⟩=false:=frozen_heap hg _
    have HT:=Lib.hid htk
    have hcm':=hcm
    unfold maxLen at hcm'
    clear hT hG htk
    go_wp2
    go_ret
    obtain ⟨r1,r2⟩:=poked hbk hgb hg hnc hcm hcs HT.out (hs0.trans hs) (.int .u8 x)
    exact ⟨rfl,g1,r1,r2⟩

set_option maxHeartbeats 2000000 in
set_option maxRecDepth 100000 in
theorem buf_writeString (b g:Nat) (bs:List Value) (s:ByteArray) (w:World) (h:Buf b g 0 bs w) (h1:∀ v∈bs,v.oneCell'=true) (hn1:1≤s.size) (hlim:bs.length+s.size≤140737488355328) :
    Calls Tryz.prog 116 #[.pointer (some ⟨b,0,none⟩),.string s] w fun e w'=>e=.returned (.tuple #[.int .i64 s.size,.nilIface])∧∃ g1,Buf b g1 0 (bs++Lib.byteCells s.data.toList) w'∧Step [b,g] [b,g1] w w':=by
  obtain ⟨lr,c2,f2⟩:=h.cell2
  have h0:=h.last 0
  have hs0:Step [b,g] [b,g] w (w.setCell ⟨b,2,none⟩ (.int .i8 0)):=(Step.refl _ _).setCell (p:=⟨b,2,none⟩) (.inl (by simp)) _
  have hbl:(Lib.byteCells s.data.toList).length=s.size:=by rw [Lib.byteCells_length,← Lib.size_eq]
  go_enter Tryz.func116,Tryz.ntmps116
  go_wp2_with (go_at_call 85;refine (try_any b g s.size bs _ ?_ hn1).mono ?_)
  · exact h0
  clear c2 f2
  generalize w.setCell ⟨b,2,none⟩ (.int .i8 0)=w0 at *
  rintro e W1 (⟨rfl,hR⟩ | ⟨rfl,rfl,hno⟩)
  · obtain ⟨lr1,cap,cur,hbk,hgb,hg,hnc,hcm,hcs,htk,hs⟩:=hR
    have d0:W1.cell? ⟨b,0,none⟩=some (.slice (some ⟨g,0,none⟩) (bs.length+s.size) cap):=by rw [cell_heap hbk];rfl
    have hne:¬ cap=bs.length:=by omega
    have hcp:=Lib.run_copy_row_string (P:=Tryz.prog) W1 24 9 3 5 g bs.length s.size (cap - bs.length) s cur 5 Tryz.underlying24 size8 hg (Nat.le_refl _) (by omega)
    have hcm':=hcm
    unfold maxLen at hcm'
    have HL:=Lib.hid hbl
    clear hbl
    go_wp2
    go_ret2
    obtain ⟨r1,r2⟩:=wrote hbk hgb hg hnc hcm hcs htk (hs0.trans hs) HL.out
    exact ⟨rfl,g,r1,r2⟩
  · go_wp2_with (go_at_call 86;refine (grow_any b g s.size bs _ h0 h1 hn1 hno hlim).mono ?_)
    rintro e W1 ⟨rfl,g1,hR⟩
    obtain ⟨lr1,cap,cur,hbk,hgb,hg,hnc,hcm,hcs,htk,hs⟩:=hR
    have d0:W1.cell? ⟨b,0,none⟩=some (.slice (some ⟨g1,0,none⟩) (bs.length+s.size) cap):=by rw [cell_heap hbk];rfl
    have hne:¬ cap=bs.length:=by omega
    have hcp:=Lib.run_copy_row_string (P:=Tryz.prog) W1 24 9 3 5 g1 bs.length s.size (cap - bs.length) s cur 5 Tryz.underlying24 size8 hg (Nat.le_refl _) (by omega)
    have hcm':=hcm
    unfold maxLen at hcm'
    have HL:=Lib.hid hbl
    clear hbl
    go_wp2
    go_ret2
    obtain ⟨r1,r2⟩:=wrote hbk hgb hg hnc hcm hcs htk (hs0.trans hs) HL.out
    exact ⟨rfl,g1,r1,r2⟩

theorem buf_left (b g off:Nat) (bs:List Value) (w:World) (h:Buf b g off bs w) :
    Calls Tryz.prog 51 #[.pointer (some ⟨b,0,none⟩)] w fun e w'=>e=.returned (.int .i64 bs.length)∧∃ n,w'=w.drewN n:=by
  obtain ⟨lr,⟨hbk,rfl,rfl,rfl⟩ | ⟨cap,cur,hbk,hgb,hg,hnc,hcm,hcs,htk⟩⟩:=h
  · exact buf_len g 0 0 0 none w (by rw [cell_heap hbk];rfl) (by rw [cell_heap hbk];rfl) (Nat.le_refl _) (Nat.zero_le _)
  · refine (buf_len b (off+bs.length) off cap _ w (by rw [cell_heap hbk];rfl) (by rw [cell_heap hbk];rfl) (by omega) (by omega)).mono ?_
    rintro e w' ⟨rfl,hw⟩
    exact ⟨ret_of (by congr 2;omega),hw⟩

end Go.Proofs.YtmjcnomgpikncaaGreatDoor

namespace Go.Proofs.YtmjcnomgpikncaaGreatDoor

open Go.RowKit Go.Deep



def IsB (cs:List Value) (v:Value) (k:Nat) (w:World):Prop :=
  ∃ c,(v=.slice none 0 0∧cs=[])∨∃ o,v=.slice (some ⟨k,o,none⟩) cs.length c∧cs.length≤c∧c≤maxLen∧k < w.heap.size∧∀ j x,cs[j]?=some x→w.cell? ⟨k,o+j,none⟩=some x

theorem IsB.step {cs:List Value} {v:Value} {k:Nat} {S T:List Nat} {w w1:World} (h:IsB cs v k w) (hs:Step S T w w1) (hk:k∉S):IsB cs v k w1:=by
  obtain ⟨c,h | ⟨o,h1,h2,h3,h4,h5⟩⟩:=h
  · exact ⟨c,.inl h⟩
  · exact ⟨c,.inr ⟨o,h1,h2,h3,Nat.lt_of_lt_of_le h4 hs.size,fun j x hj=>by rw [hs.cell (p:=⟨k,o+j,none⟩) h4 hk];exact h5 j x hj⟩⟩

set_option maxHeartbeats 1000000 in
theorem buf_bytes (b g:Nat) (bs:List Value) (w:World) (h:Buf b g 0 bs w) :
    Calls Tryz.prog 46 #[.pointer (some ⟨b,0,none⟩)] w fun e w'=>∃ v,e=.returned v∧IsB bs v g w'∧∃ n,w'=w.drewN n:=by
  obtain ⟨lr,⟨hbk,rfl,_,rfl⟩ | ⟨cap,cur,hbk,hgb,hg,hnc,hcm,hcs,htk⟩⟩:=h
  · have c0:w.cell? ⟨g,0,none⟩=some (.slice none 0 0):=by rw [cell_heap hbk];rfl
    have c1:w.cell? ⟨g,1,none⟩=some (.int .i64 0):=by rw [cell_heap hbk];rfl
    go_enter Tryz.func46,Tryz.ntmps46
    go_wp2
    go_quiet (fail)
    go_wp2
    go_ret
    exact ⟨_,rfl,⟨0,.inl ⟨rfl,rfl⟩⟩,_,rfl⟩
  · simp only [Nat.zero_add,List.drop_zero] at hbk hnc htk
    have c0:w.cell? ⟨b,0,none⟩=some (.slice (some ⟨g,0,none⟩) bs.length cap):=by rw [cell_heap hbk];rfl
    have c1:w.cell? ⟨b,1,none⟩=some (.int .i64 0):=by rw [cell_heap hbk];rfl
    have hcells:∀ j x,bs[j]?=some x→w.cell? ⟨g,0+j,none⟩=some x:=fun j x hj=>by
      rw [cell_heap hg,Nat.zero_add]
      rw [← htk,List.getElem?_take] at hj
      split at hj
      · simpa using hj
      · cases hj
    have hlt:=lt_heap hg
    have HC:=Lib.hid hcells
    have hcm':=hcm
    unfold maxLen at hcm'
    clear hcells htk
    go_enter Tryz.func46,Tryz.ntmps46
    go_wp2
    go_quiet (fail)
    go_wp2
    go_ret
    refine ⟨_,rfl,⟨cap,.inr ⟨0,rfl,hnc,hcm,hlt,HC.out⟩⟩,_,rfl⟩

theorem buf_empty_no (b l off cap:Nat) (ao:Option Addr) (w:World) (c0:w.cell? ⟨b,0,none⟩=some (.slice ao l cap)) (c1:w.cell? ⟨b,1,none⟩=some (.int .i64 off)) (hl:off < l) :
    Calls Tryz.prog 117 #[.pointer (some ⟨b,0,none⟩)] w fun e w'=>e=.returned (.bool false)∧∃ n,w'=w.drewN n:=by
  go_enter Tryz.func117,Tryz.ntmps117
  go_wp2
  go_quiet (fail)
  go_wp2
  go_ret
  exact ⟨ret_of (by show Value.bool (decide _)=_;simpa using hl),_,rfl⟩

theorem read_end {b g off d cap k:Nat} {bs:List Value} {cur row:Array Value} {lr:Int} {td:TypeId} {w W1:World} (hs:Step [b,d] [b,d] w W1)
    (hbk:W1.heap[b]?=some (.cells #[.slice (some ⟨g,0,none⟩) (off+bs.length) cap,.int .i64 off,.int .i8 lr] 131 (0,0))) (hg:W1.heap[g]?=some (.cells row 5 (0,0))) (hd:W1.heap[d]?=some (.cells cur td (0,0)))
    (hgb:g≠b) (hdb:d≠b) (hdg:d≠g) (hnc:off+bs.length≤cap) (hcm:cap≤maxLen) (hcs:row.size=cap) (htk:(row.toList.take (off+bs.length)).drop off=bs) (hk:k≤bs.length) (cs:Array Value) :
    Buf b g (off+k) (bs.drop k) (((W1.drew.setRow d cs).setCell ⟨b,1,none⟩ (.int .i64 ((off:Int)+k))).setCell ⟨b,2,none⟩ (.int .i8 (-1))) ∧
      (((W1.drew.setRow d cs).setCell ⟨b,1,none⟩ (.int .i64 ((off:Int)+k))).setCell ⟨b,2,none⟩ (.int .i8 (-1))).heap[d]?=some (.cells cs td (0,0)) ∧
      Step [b,d] [b,d] w (((W1.drew.setRow d cs).setCell ⟨b,1,none⟩ (.int .i64 ((off:Int)+k))).setCell ⟨b,2,none⟩ (.int .i8 (-1))):=by
  refine ⟨⟨-1,.inr ⟨cap,row,?_,hgb,?_,by rw [List.length_drop];omega,hcm,hcs,?_⟩⟩,?_,?_⟩
  · have h0:(W1.drew.setRow d cs).heap[b]?=_:=(setRow_other _ _ _ _ (Ne.symm hdb)).trans hbk
    rw [heap_set_same (heap_set_same h0 _)]
    have e:off+k+(bs.length - k)=off+bs.length:=by omega
    simp [List.length_drop,e]
  · exact heap_set_other (heap_set_other ((setRow_other _ _ _ _ (Ne.symm hdg)).trans hg) hgb _) hgb _
  · have e:off+k+(bs.drop k).length=off+bs.length:=by rw [List.length_drop];omega
    rw [e,← List.drop_drop,htk]
  · exact heap_set_other (heap_set_other (setRow_heap _ _ _ _ _ _ hd) hdb _) hdb _
  · exact ((hs.drew.setRow (by simp) cs).setCell (p:=⟨b,1,none⟩) (.inl (by simp)) _).setCell (p:=⟨b,2,none⟩) (.inl (by simp)) _

set_option maxHeartbeats 1000000 in
set_option maxRecDepth 100000 in
theorem buf_read (b g off d o n c:Nat) (bs:List Value) (cur:Array Value) (td:TypeId) (w:World) (h:Buf b g off bs w) (hne:1≤bs.length) (h1:∀ v∈bs,v.oneCell'=true)
    (hd:w.heap[d]?=some (.cells cur td (0,0))) (hdb:d≠b) (hdg:d≠g) (hfit:o+n≤cur.size) (hn1:1≤n) (hnm:n≤maxLen) :
    Calls Tryz.prog 111 #[.pointer (some ⟨b,0,none⟩),.slice (some ⟨d,o,none⟩) n c] w fun e w'=>e=.returned (.tuple #[.int .i64 (min n bs.length:Nat),.nilIface]) ∧
      Buf b g (off+min n bs.length) (bs.drop (min n bs.length)) w'∧w'.heap[d]?=some (.cells (cur.toList.take o++bs.take (min n bs.length)++cur.toList.drop (o+min n bs.length)).toArray td (0,0))∧Step [b,d] [b,d] w w':=by
  obtain ⟨lr,⟨hbk,rfl,_,rfl⟩ | ⟨cap,row,hbk,hgb,hg,hnc,hcm,hcs,htk⟩⟩:=h
  · simp at hne
  have hk:min n bs.length≤n∧min n bs.length≤bs.length∧1≤min n bs.length:=by omega
  obtain ⟨k,hkk⟩:∃ k,k=min n bs.length:=⟨_,rfl⟩
  rw [← hkk] at hk ⊢
  obtain ⟨hk1,hk2,hk3⟩:=hk
  have hcm':=hcm
  unfold maxLen at hcm' hnm
  have c2:w.cell? ⟨b,2,none⟩=some (.int .i8 lr):=by rw [cell_heap hbk];rfl
  have f2:w.frozen? ⟨b,2,none⟩=false:=frozen_heap hbk 2
  have hbk0:=heap_set_same (o:=2) hbk (.int .i8 0)
  have hg0:(w.setCell ⟨b,2,none⟩ (.int .i8 0)).heap[g]?=some (.cells row 5 (0,0)):=heap_set_other hg hgb _
  have hd0:(w.setCell ⟨b,2,none⟩ (.int .i8 0)).heap[d]?=some (.cells cur td (0,0)):=heap_set_other hd hdb _
  have hs0:Step [b,d] [b,d] w (w.setCell ⟨b,2,none⟩ (.int .i8 0)):=(Step.refl _ _).setCell (p:=⟨b,2,none⟩) (.inl (by simp)) _
  go_enter Tryz.func111,Tryz.ntmps111
  go_wp2_with (go_at_call 117;refine (buf_empty_no b (off+bs.length) off cap (some ⟨g,0,none⟩) _ ?_ ?_ (by omega)).mono ?_)
  · rw [cell_heap hbk0];simp
  · rw [cell_heap hbk0];simp
  clear c2 f2
  generalize w.setCell ⟨b,2,none⟩ (.int .i8 0)=w0 at *
  rintro e W1 ⟨rfl,q,hW1⟩
  have hbk1:W1.heap[b]?=some (.cells #[.slice (some ⟨g,0,none⟩) (off+bs.length) cap,.int .i64 off,.int .i8 0] 131 (0,0)):=by rw [hW1];simpa using hbk0
  have hg1:W1.heap[g]?=some (.cells row 5 (0,0)):=by rw [hW1];exact hg0
  have hd1:W1.heap[d]?=some (.cells cur td (0,0)):=by rw [hW1];exact hd0
  have hs1:Step [b,d] [b,d] w W1:=by rw [hW1];exact hs0.drewN q
  clear hW1
  have c0:W1.cell? ⟨b,0,none⟩=some (.slice (some ⟨g,0,none⟩) (off+bs.length) cap):=by rw [cell_heap hbk1];rfl
  have c1:W1.cell? ⟨b,1,none⟩=some (.int .i64 off):=by rw [cell_heap hbk1];rfl
  have hmin:(bs.take k).length=Nat.min bs.length n:=by rw [List.length_take];show min k bs.length=min bs.length n;omega
  have hcells:∀ j v,(bs.take k)[j]?=some v→W1.cell? ((⟨g,off,none⟩:Addr).add j)=some v:=fun j v hj=>by
    rw [Lib.addr_add,cell_heap hg1]
    rw [List.getElem?_take] at hj
    split at hj
    · rw [← htk,List.getElem?_drop,List.getElem?_take] at hj
      split at hj
      · simpa using hj
      · cases hj
    · cases hj
  have hcp:=run_copy_row (P:=Tryz.prog) W1.drew 24 24 3 5 d o n c ⟨g,off,none⟩ bs.length (cap - off) cur td (bs.take k) Tryz.underlying24 size8 hd1 hmin hcells (by rw [hmin];show o+min bs.length n≤_;omega) (fun v hv=>h1 v (List.mem_of_mem_take hv))
  rw [hmin] at hcp
  have hmk:Nat.min bs.length n=k:=by show min bs.length n=k;omega
  rw [hmk] at hcp
  have hoc:¬ cap=off:=by omega
  have hbd:b≠d:=Ne.symm hdb
  have hbk2:∀ cs,(W1.drew.setRow d cs).heap[b]?=some (.cells #[.slice (some ⟨g,0,none⟩) (off+bs.length) cap,.int .i64 off,.int .i8 0] 131 (0,0)):=fun cs=>by rw [setRow_other _ _ _ _ hbd];exact hbk1
  have e0:∀ cs,(W1.drew.setRow d cs).cell? ⟨b,0,none⟩=some (.slice (some ⟨g,0,none⟩) (off+bs.length) cap):=fun cs=>by rw [cell_heap (hbk2 cs)];rfl
  have e1:∀ cs,(W1.drew.setRow d cs).cell? ⟨b,1,none⟩=some (.int .i64 off):=fun cs=>by rw [cell_heap (hbk2 cs)];rfl
  have e2:∀ cs,(W1.drew.setRow d cs).cell? ⟨b,2,none⟩=some (.int .i8 0):=fun cs=>by rw [cell_heap (hbk2 cs)];rfl
  have g1:∀ cs,(W1.drew.setRow d cs).frozen? ⟨b,1,none⟩=false:=fun cs=>frozen_heap (hbk2 cs) 1
  have g2:∀ cs,(W1.drew.setRow d cs).frozen? ⟨b,2,none⟩=false:=fun cs=>frozen_heap (hbk2 cs) 2
  have hle1:(0:Int)≤(off:Int):=by omega
  have hle2:(off:Int)≤((off+bs.length:Nat):Int):=by omega
  have hle3:((off+bs.length:Nat):Int)≤(cap:Int):=by omega
  have hle4:(off:Int)≤(off:Int)+(bs.length:Int):=by omega
  have HB:=Lib.hid hbk2
  have HT:=Lib.hid htk
  clear hcells hmin hmk hkk htk hbk0 hg0 hd0 hs0 hbk hbk2
  go_wp2
  go_region_held3 (fun w'=>w'.cell? ⟨b,0,none⟩=some (.slice (some ⟨g,0,none⟩) (off+bs.length) cap)∧w'.cell? ⟨b,1,none⟩=some (.int .i64 off)) (refine ⟨?_,?_⟩ <;> first | assumption | (exact e0 _) | (exact e1 _)) (first | fail)
  all_goals go_wp2
  go_ret2
  refine ⟨rfl,?_⟩
  rw [show List.take o cur.toList++List.take k bs++List.drop (o+k) cur.toList=List.take o cur.toList++(List.take k bs++List.drop (o+k) cur.toList) from List.append_assoc _ _ _]
  exact read_end hs1 hbk1 hg1 hd1 hgb hdb hdg hnc hcm hcs HT.out hk2 _

end Go.Proofs.YtmjcnomgpikncaaGreatDoor

namespace Go.Proofs.YtmjcnomgpikncaaGreatDoor

open Go.RowKit Go.Deep



theorem Buf.ends {b g off:Nat} {w:World} (h:Buf b g off [] w):∃ ao l cap,w.cell? ⟨b,0,none⟩=some (.slice ao l cap)∧w.cell? ⟨b,1,none⟩=some (.int .i64 off)∧l=off:=by
  obtain ⟨lr,⟨hbk,rfl,rfl,-⟩ | ⟨cap,row,hbk,hgb,hg,hnc,hcm,hcs,htk⟩⟩:=h
  · exact ⟨none,0,0,by rw [cell_heap hbk];rfl,by rw [cell_heap hbk];rfl,rfl⟩
  · exact ⟨_,off,cap,by rw [cell_heap hbk];rfl,by rw [cell_heap hbk];rfl,rfl⟩

set_option maxHeartbeats 1000000 in
set_option maxRecDepth 100000 in
theorem buf_readByte (b g off:Nat) (x:Value) (bs:List Value) (w:World) (h:Buf b g off (x :: bs) w) :
    Calls Tryz.prog 112 #[.pointer (some ⟨b,0,none⟩)] w fun e w'=>e=.returned (.tuple #[x,.nilIface])∧Buf b g (off+1) bs w'∧Step [b] [b] w w':=by
  obtain ⟨lr,⟨hbk,-,-,hx⟩ | ⟨cap,row,hbk,hgb,hg,hnc,hcm,hcs,htk⟩⟩:=h
  · cases hx
  simp only [List.length_cons] at hbk hnc htk
  have hx:row[off]?=some x:=by
    have e:=congrArg (fun l=>l[0]?) htk
    simp only [List.getElem?_drop,List.getElem?_take,Nat.add_zero,List.getElem?_cons_zero] at e
    rw [if_pos (by omega)] at e
    simpa using e
  have hcm':=hcm
  unfold maxLen at hcm'
  have d0:w.cell? ⟨b,0,none⟩=some (.slice (some ⟨g,0,none⟩) (off+(bs.length+1)) cap):=by rw [cell_heap hbk];rfl
  have d1:w.cell? ⟨b,1,none⟩=some (.int .i64 off):=by rw [cell_heap hbk];rfl
  go_enter Tryz.func112,Tryz.ntmps112
  go_wp2_with (go_at_call 117;refine (buf_empty_no b (off+(bs.length+1)) off cap _ _ d0 d1 (by omega)).mono ?_)
  rintro e W1 ⟨rfl,q,hW1⟩
  have hbk1:W1.heap[b]?=some (.cells #[.slice (some ⟨g,0,none⟩) (off+(bs.length+1)) cap,.int .i64 off,.int .i8 lr] 131 (0,0)):=by rw [hW1];exact hbk
  have hg1:W1.heap[g]?=some (.cells row 5 (0,0)):=by rw [hW1];exact hg
  have hs1:Step [b] [b] w W1:=by rw [hW1];exact (Step.refl _ _).drewN q
  clear hW1 d0 d1
  have d0:W1.cell? ⟨b,0,none⟩=some (.slice (some ⟨g,0,none⟩) (off+(bs.length+1)) cap):=by rw [cell_heap hbk1];rfl
  have d1:W1.cell? ⟨b,1,none⟩=some (.int .i64 off):=by rw [cell_heap hbk1];rfl
  have d2:W1.cell? ⟨b,2,none⟩=some (.int .i8 lr):=by rw [cell_heap hbk1];rfl
  have f1:W1.frozen? ⟨b,1,none⟩=false:=frozen_heap hbk1 1
  have f2:W1.frozen? ⟨b,2,none⟩=false:=frozen_heap hbk1 2
  have dg:W1.cell? ⟨g,off,none⟩=some x:=by rw [cell_heap hg1];exact hx
  have hle1:(0:Int)≤(off:Int):=by omega
  have hle2:(off:Int) < ((off+(bs.length+1):Nat):Int):=by omega
  have hle3:(off:Int) < (off:Int)+((bs.length:Int)+1):=by omega
  have HT:=Lib.hid htk
  clear htk hbk hg hx
  go_wp2
  go_quiet (fail)
  go_wp2
  go_ret2
  refine ⟨rfl,?_,?_⟩
  · refine ⟨-1,.inr ⟨cap,row,?_,hgb,heap_set_other (heap_set_other hg1 hgb _) hgb _,by omega,hcm,hcs,?_⟩⟩
    · refine (heap_set_same (heap_set_same hbk1 _) _).trans ?_
      have e:off+1+bs.length=off+(bs.length+1):=by omega
      simp [e]
    · have e:=congrArg (List.drop 1) HT.out
      rw [List.drop_drop] at e
      rw [show off+1+bs.length=off+(bs.length+1) from by omega]
      simpa using e
  · exact ((hs1.drewN _).setCell (p:=⟨b,1,none⟩) (.inl (by simp)) _).setCell (p:=⟨b,2,none⟩) (.inl (by simp)) _

end Go.Proofs.YtmjcnomgpikncaaGreatDoor

namespace Go.Proofs.YtmjcnomgpikncaaGreatDoor

open Go.RowKit Go.Deep



def Mem (m b g off:Nat) (bs:List Value) (w:World):Prop :=
  (∃ sz,w.heap[m]?=some (.cells #[.pointer (some ⟨b,0,none⟩),.int .i64 sz] 91 (0,0)))∧m≠b∧m≠g∧Buf b g off bs w

theorem Mem.cell {m b g off:Nat} {bs:List Value} {w:World} (h:Mem m b g off bs w):w.cell? ⟨m,0,none⟩=some (.pointer (some ⟨b,0,none⟩)):=by
  obtain ⟨⟨sz,hm⟩,_⟩:=h
  rw [cell_heap hm];rfl

theorem Mem.lt {m b g off:Nat} {bs:List Value} {w:World} (h:Mem m b g off bs w):m < w.heap.size:=lt_heap h.1.choose_spec

theorem Mem.carry {m b g off:Nat} {bs:List Value} {w w1:World} (h:Mem m b g off bs w) (hm:w1.heap[m]?=w.heap[m]?) (hb:w1.heap[b]?=w.heap[b]?) (hg:w1.heap[g]?=w.heap[g]?):Mem m b g off bs w1:=by
  obtain ⟨⟨sz,h0⟩,h1,h2,h3⟩:=h
  exact ⟨⟨sz,hm.trans h0⟩,h1,h2,h3.carry hb hg⟩

theorem Mem.step {m b g off:Nat} {bs:List Value} {S T:List Nat} {w w1:World} (h:Mem m b g off bs w) (hs:Step S T w w1) (hm:m∉S) (hb:b∉S) (hg:g∉S):Mem m b g off bs w1 :=
  h.carry (hs.block m h.lt hm) (hs.block b h.2.2.2.lt.1 hb) (hs.block g h.2.2.2.lt.2 hg)

theorem Mem.alloc {m b g off:Nat} {bs:List Value} {w:World} (h:Mem m b g off bs w) (o:Obj):Mem m b g off bs (w.alloc o) :=
  h.carry (Below.heap_alloc _ _ _ h.lt) (Below.heap_alloc _ _ _ h.2.2.2.lt.1) (Below.heap_alloc _ _ _ h.2.2.2.lt.2)

theorem Mem.drewN {m b g off:Nat} {bs:List Value} {w:World} (h:Mem m b g off bs w) (n:Nat):Mem m b g off bs (w.drewN n):=h

theorem Mem.turn {m b g g1 off off1:Nat} {bs bs1:List Value} {w w1:World} (h:Mem m b g off bs w) (hB:Buf b g1 off1 bs1 w1) (hs:Step [b,g] [b,g1] w w1):Mem m b g1 off1 bs1 w1:=by
  have hlt:=h.lt
  have ho:=own_mem hs
  obtain ⟨⟨sz,h0⟩,h1,h2,_⟩:=h
  refine ⟨⟨sz,(hs.block m hlt (by simp [h1,h2])).trans h0⟩,h1,?_,hB⟩
  simp only [List.mem_cons,List.not_mem_nil,or_false] at ho
  omega

theorem Mem.took {m b g off off1:Nat} {bs bs1:List Value} {S T:List Nat} {w w1:World} (h:Mem m b g off bs w) (hB:Buf b g off1 bs1 w1) (hs:Step S T w w1) (hm:m∉S):Mem m b g off1 bs1 w1:=by
  have hlt:=h.lt
  obtain ⟨⟨sz,h0⟩,h1,h2,_⟩:=h
  exact ⟨⟨sz,(hs.block m hlt hm).trans h0⟩,h1,h2,hB⟩

theorem mem_Write (k m b:Nat) (w:World) (h:w.cell? ⟨m,0,none⟩=some (.pointer (some ⟨b,0,none⟩))) :
    (method (k+1) 80 (.pointer (some ⟨m,0,none⟩)) "Write").run Tryz.prog w=.ok (72,.pointer (some ⟨b,0,none⟩)) w:=by
  have e:(method (k+1) 80 (.pointer (some ⟨m,0,none⟩)) "Write").run Tryz.prog w=(match w.cell? ⟨m,0,none⟩ with
    | some v=>.ok (72,v) w
    | none=>match w.farLoad Tryz.prog ⟨m,0,none⟩ false with
      | .ok (v,_)=>.ok (72,v) w
      | .error h=>.halt h w):=by kernel_rfl
  rw [e,h]

theorem mem_WriteByte (k m b:Nat) (w:World) (h:w.cell? ⟨m,0,none⟩=some (.pointer (some ⟨b,0,none⟩))) :
    (method (k+1) 80 (.pointer (some ⟨m,0,none⟩)) "WriteByte").run Tryz.prog w=.ok (115,.pointer (some ⟨b,0,none⟩)) w:=by
  have e:(method (k+1) 80 (.pointer (some ⟨m,0,none⟩)) "WriteByte").run Tryz.prog w=(match w.cell? ⟨m,0,none⟩ with
    | some v=>.ok (115,v) w
    | none=>match w.farLoad Tryz.prog ⟨m,0,none⟩ false with
      | .ok (v,_)=>.ok (115,v) w
      | .error h=>.halt h w):=by kernel_rfl
  rw [e,h]

theorem mem_WriteString (k m b:Nat) (w:World) (h:w.cell? ⟨m,0,none⟩=some (.pointer (some ⟨b,0,none⟩))) :
    (method (k+1) 80 (.pointer (some ⟨m,0,none⟩)) "WriteString").run Tryz.prog w=.ok (116,.pointer (some ⟨b,0,none⟩)) w:=by
  have e:(method (k+1) 80 (.pointer (some ⟨m,0,none⟩)) "WriteString").run Tryz.prog w=(match w.cell? ⟨m,0,none⟩ with
    | some v=>.ok (116,v) w
    | none=>match w.farLoad Tryz.prog ⟨m,0,none⟩ false with
      | .ok (v,_)=>.ok (116,v) w
      | .error h=>.halt h w):=by kernel_rfl
  rw [e,h]

theorem mem_Read (k m b:Nat) (w:World) (h:w.cell? ⟨m,0,none⟩=some (.pointer (some ⟨b,0,none⟩))) :
    (method (k+1) 80 (.pointer (some ⟨m,0,none⟩)) "Read").run Tryz.prog w=.ok (111,.pointer (some ⟨b,0,none⟩)) w:=by
  have e:(method (k+1) 80 (.pointer (some ⟨m,0,none⟩)) "Read").run Tryz.prog w=(match w.cell? ⟨m,0,none⟩ with
    | some v=>.ok (111,v) w
    | none=>match w.farLoad Tryz.prog ⟨m,0,none⟩ false with
      | .ok (v,_)=>.ok (111,v) w
      | .error h=>.halt h w):=by kernel_rfl
  rw [e,h]

theorem mem_ReadByte (k m b:Nat) (w:World) (h:w.cell? ⟨m,0,none⟩=some (.pointer (some ⟨b,0,none⟩))) :
    (method (k+1) 80 (.pointer (some ⟨m,0,none⟩)) "ReadByte").run Tryz.prog w=.ok (112,.pointer (some ⟨b,0,none⟩)) w:=by
  have e:(method (k+1) 80 (.pointer (some ⟨m,0,none⟩)) "ReadByte").run Tryz.prog w=(match w.cell? ⟨m,0,none⟩ with
    | some v=>.ok (112,v) w
    | none=>match w.farLoad Tryz.prog ⟨m,0,none⟩ false with
      | .ok (v,_)=>.ok (112,v) w
      | .error h=>.halt h w):=by kernel_rfl
  rw [e,h]

theorem mem_RemainingBytes (k m:Nat) (w:World):(method (k+1) 80 (.pointer (some ⟨m,0,none⟩)) "RemainingBytes").run Tryz.prog w=.ok (315,.pointer (some ⟨m,0,none⟩)) w:=by kernel_rfl

theorem mem_nil_Read (k m:Nat) (w:World):(nilAhead (k+1) 80 (.pointer (some ⟨m,0,none⟩)) "Read").run Tryz.prog w=.ok (some false) w:=by kernel_rfl

theorem mem_nil_ReadByte (k m:Nat) (w:World):(nilAhead (k+1) 80 (.pointer (some ⟨m,0,none⟩)) "ReadByte").run Tryz.prog w=.ok (some false) w:=by kernel_rfl

theorem mem_nil_RemainingBytes (k m:Nat) (w:World):(nilAhead (k+1) 80 (.pointer (some ⟨m,0,none⟩)) "RemainingBytes").run Tryz.prog w=.ok (some false) w:=by kernel_rfl

end Go.Proofs.YtmjcnomgpikncaaGreatDoor
