/- The binary protocol: numbers written and read. No condition. -/
import Derived.Test.YtmjcnomgpikncaaGreatDoorMa2
set_option linter.unusedVariables false
set_option linter.unusedSimpArgs false
namespace Go.Proofs.YtmjcnomgpikncaaGreatDoor

open Go.RowKit Go.Deep



def Bin (p:Nat) (tr og cf:Value) (sc:List Value) (w:World):Prop :=
  w.heap[p]?=some (.cells (tr :: og :: cf :: sc).toArray 228 (0,0))∧sc.length=64∧∀ v∈sc,v.oneCell'=true

abbrev memV (m:Nat):Value:=.iface 80 (.pointer (some ⟨m,0,none⟩))

set_option maxRecDepth 100000 in
set_option maxHeartbeats 1000000 in
theorem bin_writeByte (p m b g:Nat) (og cf:Value) (sc bs:List Value) (cx:Value) (x:Int) (w:World) (hp:Bin p (memV m) og cf sc w) (h:Mem m b g 0 bs w) (h1:∀ v∈bs,v.oneCell'=true) (hlim:bs.length+1≤140737488355328) :
    Calls Tryz.prog 231 #[.pointer (some ⟨p,0,none⟩),cx,.int .i8 x] w fun e w'=>e=.returned .nilIface∧∃ g1,Mem m b g1 0 (bs++[.int .u8 (x % 256)]) w'∧Step [b,g] [b,g1] w w':=by
  have c0:w.cell? ⟨p,0,none⟩=some (memV m):=by rw [cell_heap hp.1];rfl
  have cm:=h.cell
  have hmeth:=mem_WriteByte
  clear hp
  go_enter Tryz.func231,Tryz.ntmps231
  go_wp2_with (go_at_call 115;refine (buf_writeByte b g bs _ _ h.2.2.2 h1 hlim).mono ?_)
  rintro e W1 ⟨rfl,g1,hB,hs⟩
  go_wp2
  go_ret
  exact ⟨rfl,g1,h.turn hB hs,hs⟩

theorem Bin.cells {p:Nat} {tr og cf:Value} {sc:List Value} {w:World} (h:Bin p tr og cf sc w) (i:Nat):w.cell? ⟨p,i,none⟩=(tr :: og :: cf :: sc)[i]?:=by
  rw [cell_heap h.1];simp

theorem Bin.cell {p:Nat} {tr og cf:Value} {sc:List Value} {w:World} (h:Bin p tr og cf sc w) (i:Nat) (hi:i < 64):∃ v,w.cell? ⟨p,3+i,none⟩=some v∧w.frozen? ⟨p,3+i,none⟩=false:=by
  refine ⟨sc[i]'(by rw [h.2.1];exact hi),?_,frozen_heap h.1 _⟩
  rw [h.cells,Nat.add_comm]
  simp only [List.getElem?_cons_succ]
  rw [List.getElem?_eq_getElem]

theorem Bin.lt {p:Nat} {tr og cf:Value} {sc:List Value} {w:World} (h:Bin p tr og cf sc w):p < w.heap.size:=lt_heap h.1

theorem Bin.step {p:Nat} {tr og cf:Value} {sc:List Value} {S T:List Nat} {w w1:World} (h:Bin p tr og cf sc w) (hs:Step S T w w1) (hp:p∉S):Bin p tr og cf sc w1 :=
  ⟨(hs.block p h.lt hp).trans h.1,h.2⟩

theorem Bin.alloc {p:Nat} {tr og cf:Value} {sc:List Value} {w:World} (h:Bin p tr og cf sc w) (o:Obj):Bin p tr og cf sc (w.alloc o):=⟨heap_alloc_old h.1 o,h.2⟩

theorem Bin.drewN {p:Nat} {tr og cf:Value} {sc:List Value} {w:World} (h:Bin p tr og cf sc w) (n:Nat):Bin p tr og cf sc (w.drewN n):=h

theorem Bin.set {p:Nat} {tr og cf:Value} {sc:List Value} {w:World} (h:Bin p tr og cf sc w) (vs:List Value) (hv:vs.length≤64) (h1:∀ v∈vs,v.oneCell'=true) :
    ∃ sc1,Bin p tr og cf sc1 (w.setCells p 3 vs)∧sc1.take vs.length=vs:=by
  obtain ⟨cs1,e1,e2,e3⟩:=heap_setCells h.1 3 vs
  have hl:=h.2.1
  have e4:=e3 (by simp [hl];omega)
  refine ⟨vs++sc.drop vs.length,⟨?_,by simp [hl];omega,fun v hv=>?_⟩,by simp⟩
  · rw [e1]
    congr 2
    apply Array.toList_inj.1
    rw [e4]
    simp [Nat.add_comm 3]
  · rcases List.mem_append.1 hv with hv | hv
    · exact h1 v hv
    · exact h.2.2 v (List.mem_of_mem_drop hv)

end Go.Proofs.YtmjcnomgpikncaaGreatDoor

namespace Go.Proofs.YtmjcnomgpikncaaGreatDoor

open Go.RowKit Go.Deep



set_option maxRecDepth 100000 in
set_option maxHeartbeats 1000000 in
theorem bin_writeI32 (p m b g:Nat) (og cf:Value) (sc bs:List Value) (cx:Value) (x:Int) (w:World) (hp:Bin p (memV m) og cf sc w) (h:Mem m b g 0 bs w) (hpm:p≠m) (hpb:p≠b) (hpg:p≠g) (h1:∀ v∈bs,v.oneCell'=true) (hlim:bs.length+4≤140737488355328) :
    Calls Tryz.prog 237 #[.pointer (some ⟨p,0,none⟩),cx,.int .i32 x] w fun e w'=>e=.returned .nilIface ∧
      ∃ g1 sc1,Bin p (memV m) og cf sc1 w'∧Mem m b g1 0 (bs++Lib.byteCells (Lib.beBytes 4 (x % 4294967296).toNat)) w'∧Step [p,b,g] [p,b,g1] w w':=by
  have c0:w.cell? ⟨p,0,none⟩=some (memV m):=by rw [hp.cells];rfl
  have cm:=h.cell
  have hmeth:=mem_Write
  obtain ⟨v,hv⟩:∃ v:Nat,x % 4294967296=v:=⟨(x % 4294967296).toNat,by omega⟩
  have hv32:v < 4294967296:=by omega
  have hvt:(x % 4294967296).toNat=v:=by omega
  rw [hvt]
  obtain ⟨x0,d0,f0⟩:=hp.cell 0 (by omega)
  obtain ⟨x1,d1,f1⟩:=hp.cell 1 (by omega)
  obtain ⟨x2,d2,f2⟩:=hp.cell 2 (by omega)
  obtain ⟨x3,d3,f3⟩:=hp.cell 3 (by omega)
  simp only [Nat.reduceAdd] at d0 f0 d1 f1 d2 f2 d3 f3
  go_enter Tryz.func237,Tryz.ntmps237
  go_wp2_with (go_at_call 259;refine (Tryz.binary_BE_PutUint32 p 3 4 64 v hv32 x0 x1 x2 x3 _ (Nat.le_refl _) d0 d1 d2 d3 f0 f1 f2 f3).mono ?_)
  rintro e W1 ⟨rfl,hW1⟩
  have hbl:(Lib.byteCells (Lib.beBytes 4 v)).length=4:=by simp [Lib.byteCells_length,Lib.beBytes_length]
  obtain ⟨sc1,hp1,hsc⟩:=(hp.alloc (.cells #[] 326)).set (Lib.byteCells (Lib.beBytes 4 v)) (by omega) (Lib.byteCells_one _)
  rw [← hW1] at hp1
  have hs1:Step [p,b,g] [p,b,g] w W1:=by rw [hW1];exact ((Step.refl _ _).alloc _).setCells (.inl (by simp)) _ _
  have h2:Mem m b g 0 bs W1:=by
    rw [hW1]
    have ha:=h.alloc (.cells #[] 326)
    exact ha.carry (heap_setCells_other (Ne.symm hpm) _ _) (heap_setCells_other (Ne.symm hpb) _ _) (heap_setCells_other (Ne.symm hpg) _ _)
  clear hW1
  have c0':W1.cell? ⟨p,0,none⟩=some (memV m):=by rw [hp1.cells];rfl
  have cm':=h2.cell
  have hsrc:∀ j v',(Lib.byteCells (Lib.beBytes 4 v))[j]?=some v'→W1.cell? ((⟨p,3,none⟩:Addr).add j)=some v':=fun j v' hj=>by
    rw [Lib.addr_add,hp1.cells,Nat.add_comm]
    simp only [List.getElem?_cons_succ]
    rw [← hsc,List.getElem?_take] at hj
    split at hj
    · exact hj
    · cases hj
  have HS:=Lib.hid hsrc
  have HL:=Lib.hid hbl
  have HC:=Lib.hid hsc
  clear hsrc hbl hsc c0 cm d0 d1 d2 d3 f0 f1 f2 f3 hv hvt
  go_wp2_with (go_at_call 72;refine (buf_write b g 4 64 bs _ ⟨p,3,none⟩ _ h2.2.2.2 h1 HL.out hpb hpg hp1.lt HS.out (Lib.byteCells_one _) (by omega) hlim).mono ?_)
  rintro e W2 ⟨rfl,g1,hB,hs⟩
  go_wp2
  go_ret
  refine ⟨rfl,g1,sc1,hp1.step hs (by simp [hpb,hpg]),h2.turn hB hs,hs1.trans (hs.more (by simp) ?_)⟩
  intro k hk
  simp only [List.mem_cons,List.not_mem_nil,or_false] at hk ⊢
  omega

end Go.Proofs.YtmjcnomgpikncaaGreatDoor

namespace Go.Proofs.YtmjcnomgpikncaaGreatDoor

open Go.RowKit Go.Deep



set_option maxRecDepth 100000 in
set_option maxHeartbeats 1000000 in
theorem readFull_whole (m b g off d o n c:Nat) (bs:List Value) (cur:Array Value) (td:TypeId) (w:World) (h:Mem m b g off bs w) (hn1:1≤n) (hn:n≤bs.length) (h1:∀ v∈bs,v.oneCell'=true)
    (hd:w.heap[d]?=some (.cells cur td (0,0))) (hdm:d≠m) (hdb:d≠b) (hdg:d≠g) (hfit:o+n≤cur.size) (hnm:n≤maxLen) (hnc:n≤c) (hcm:c≤maxLen) :
    Calls Tryz.prog 91 #[memV m,.slice (some ⟨d,o,none⟩) n c] w fun e w'=>e=.returned (.tuple #[.int .i64 n,.nilIface]) ∧
      Mem m b g (off+n) (bs.drop n) w'∧w'.heap[d]?=some (.cells (cur.toList.take o++bs.take n++cur.toList.drop (o+n)).toArray td (0,0))∧Step [b,d] [b,d] w w':=by
  have cm:=h.cell
  have hmeth:=mem_Read
  have hnil:=mem_nil_Read
  have hk:min n bs.length=n:=Nat.min_eq_left hn
  have hnm':=hnm
  have hcm':=hcm
  unfold maxLen at hnm' hcm'
  have HK:=Lib.hid hk
  clear hk
  have hz:decide ((0:Int) < (n:Int))=true:=by simp;omega
  have hlt:((n:Int) < (n:Int))=False:=by simp
  go_enter Tryz.func91,Tryz.ntmps91
  go_wp2_with (first | (go_at_call 94;go_in))
  refine wp_loop_rounds 2 ?_
  rw [rounds_succ]
  go_wp2_with fail
  go_region_with ((go_at_call 111;refine (buf_read b g off d o n c bs cur td _ ?_ (by omega) h1 ?_ hdb hdg hfit hn1 hnm).mono ?_;exact h.2.2.2;exact hd;rintro e W1 ⟨rfl,hB,hdd,hs⟩;rw [HK.out] at hB hdd ⊢))
  go_wp2_with fail
  rw [rounds_succ]
  go_wp2_with fail
  go_ret2
  have hs1:Step [b,d] [b,d] w W1:=((Step.refl _ _).drew).trans hs
  exact ⟨rfl,h.took hB hs1 (by simp [h.2.1,Ne.symm hdm]),hdd,hs1⟩

end Go.Proofs.YtmjcnomgpikncaaGreatDoor

namespace Go.Proofs.YtmjcnomgpikncaaGreatDoor

open Go.RowKit Go.Deep



abbrev ctxV:Value:=.iface 244 (.agg #[])

theorem ctx_Deadline (k:Nat) (w:World):(method (k+1) 244 (.agg #[]) "Deadline").run Tryz.prog w=.ok (284,.agg #[]) w:=by kernel_rfl

theorem ctx_nil_Deadline (k:Nat) (w:World):(nilAhead (k+1) 244 (.agg #[]) "Deadline").run Tryz.prog w=.ok (some false) w:=by kernel_rfl

theorem deadline_any (w:World):Calls Tryz.prog 284 #[.agg #[]] w fun e w'=>e=.returned (.tuple #[.agg #[],.bool false])∧Below w.heap.size w w':=by
  go_enter Tryz.func284,Tryz.ntmps284
  go_wp2
  exact bodyPost_ret (v:=.tuple #[.agg #[],.bool false]) (by simp [results,Tryz.results284,go_sem]) rfl ⟨rfl,((Below.refl _ _).alloc (Nat.le_refl _) _).alloc (by simp) _⟩

set_option maxRecDepth 100000 in
set_option maxHeartbeats 1000000 in
theorem readAll_whole (p m b g off o n c:Nat) (og cf:Value) (sc bs:List Value) (w:World) (hp:Bin p (memV m) og cf sc w) (h:Mem m b g off bs w) (hpm:p≠m) (hpb:p≠b) (hpg:p≠g) (hn1:1≤n) (hn:n≤bs.length) (h1:∀ v∈bs,v.oneCell'=true)
    (hfit:o+n≤67) (ho:3≤o) (hnc:n≤c) (hcm:c≤64) :
    Calls Tryz.prog 251 #[.pointer (some ⟨p,0,none⟩),ctxV,.slice (some ⟨p,o,none⟩) n c] w fun e w'=>e=.returned .nilIface ∧
      Mem m b g (off+n) (bs.drop n) w'∧w'.heap[p]?=some (.cells ((memV m :: og :: cf :: sc).take o++bs.take n++(memV m :: og :: cf :: sc).drop (o+n)).toArray 228 (0,0))∧Step [b,p] [b,p] w w':=by
  have hsz:(memV m :: og :: cf :: sc).toArray.size=67:=by simp [hp.2.1]
  have hR:∀ W,Mem m b g off bs W→W.heap[p]?=some (.cells (memV m :: og :: cf :: sc).toArray 228 (0,0))→Calls Tryz.prog 91 #[memV m,.slice (some ⟨p,o,none⟩) n c] W _:=fun W hW hW2 =>
    readFull_whole m b g off p o n c bs _ _ W hW hn1 hn h1 hW2 hpm hpb hpg (by rw [hsz];exact hfit) (by unfold maxLen;omega) hnc (by unfold maxLen;omega)
  have c0:w.cell? ⟨p,0,none⟩=some (memV m):=by rw [hp.cells];rfl
  have hmeth:=ctx_Deadline
  have hnil:=ctx_nil_Deadline
  have hp1:=hp.1
  clear hp
  go_enter Tryz.func251,Tryz.ntmps251
  go_wp2_with fail
  refine (deadline_any _).mono ?_
  rintro e W0 ⟨rfl,hb0⟩
  have hs0:Step [b,p] [b,p] w W0:=Step.ofBelow hb0
  have h0:Mem m b g off bs W0:=h.step (Step.ofBelow (S:=[]) hb0) (by simp) (by simp) (by simp)
  have hp0:=((Step.ofBelow (S:=[]) hb0).block p (lt_heap hp1) (by simp)).trans hp1
  have c0':∀ x,(W0.alloc x).cell? ⟨p,0,none⟩=some (memV m):=fun x=>by rw [cell_heap (heap_alloc_old hp0 x)];simp
  have hs1:∀ x,Step [b,p] [b,p] w (W0.alloc x):=fun x=>hs0.alloc x
  have h2:∀ x,Mem m b g off bs (W0.alloc x):=fun x=>h0.alloc x
  have hp2:∀ x,(W0.alloc x).heap[p]?=some (.cells (memV m :: og :: cf :: sc).toArray 228 (0,0)):=fun x=>heap_alloc_old hp0 x
  have HP:=Lib.hid hp2
  have HM:=Lib.hid h2
  have HS:=Lib.hid hs1
  clear hp1 c0 hp0 hp2 hs0 hb0 h0 h2 hs1
  go_wp2_with fail
  refine wp_loop_rounds 1 ?_
  rw [rounds_succ]
  go_wp2_with fail
  refine (hR _ (HM.out _) (HP.out _)).mono ?_
  rintro e W1 ⟨rfl,hM,hpp,hs⟩
  go_wp2_with (first | (go_at_call 178;go_in))
  go_ret
  exact ⟨rfl,hM,hpp,(HS.out _).trans hs⟩

end Go.Proofs.YtmjcnomgpikncaaGreatDoor

namespace Go.Proofs.YtmjcnomgpikncaaGreatDoor

open Go.RowKit Go.Deep



theorem Bin.filled {p n:Nat} {tr og cf:Value} {sc bs:List Value} {w w1:World} (h:Bin p tr og cf sc w) (hn:n≤64) (hb:n≤bs.length) (h1:∀ v∈bs,v.oneCell'=true)
    (hw:w1.heap[p]?=some (.cells ((tr :: og :: cf :: sc).take 3++bs.take n++(tr :: og :: cf :: sc).drop (3+n)).toArray 228 (0,0))):Bin p tr og cf (bs.take n++sc.drop n) w1:=by
  refine ⟨?_,?_,fun v hv=>?_⟩
  · rw [hw]
    congr 3
    simp [Nat.add_comm 3]
  · have:=h.2.1
    simp;omega
  · rcases List.mem_append.1 hv with hv | hv
    · exact h1 v (List.mem_of_mem_take hv)
    · exact h.2.2 v (List.mem_of_mem_drop hv)

set_option maxRecDepth 100000 in
set_option maxHeartbeats 1000000 in
theorem bin_readI32 (p m b g off:Nat) (og cf:Value) (sc:List Value) (b0 b1 b2 b3:UInt8) (l:List UInt8) (w:World) (hp:Bin p (memV m) og cf sc w) (h:Mem m b g off (Lib.byteCells (b0 :: b1 :: b2 :: b3 :: l)) w) (hpm:p≠m) (hpb:p≠b) (hpg:p≠g) :
    Calls Tryz.prog 212 #[.pointer (some ⟨p,0,none⟩),ctxV] w fun e w'=>e=.returned (.tuple #[.int .i32 (wrap32 (Lib.beNat [b0,b1,b2,b3])),.nilIface]) ∧
      ∃ sc1,Bin p (memV m) og cf sc1 w'∧Mem m b g (off+4) (Lib.byteCells l) w'∧Step [b,p] [b,p] w w':=by
  have hR:=readAll_whole p m b g off 3 4 64 og cf sc (Lib.byteCells (b0 :: b1 :: b2 :: b3 :: l)) w hp h hpm hpb hpg (by omega) (by simp [Lib.byteCells_length]) (Lib.byteCells_one _) (by omega) (by omega) (by omega) (by omega)
  have HR:=Lib.hid hR
  clear hR
  go_enter Tryz.func212,Tryz.ntmps212
  go_wp2_with fail
  refine HR.out.mono ?_
  rintro e W1 ⟨rfl,hM,hpp,hs⟩
  have hB:=hp.filled (bs:=Lib.byteCells (b0 :: b1 :: b2 :: b3 :: l)) (n:=4) (by omega) (by simp [Lib.byteCells_length]) (Lib.byteCells_one _) hpp
  have hM':Mem m b g (off+4) (Lib.byteCells l) W1:=hM
  have d0:W1.cell? ⟨p,3,none⟩=some (.int .u8 b0.toNat):=by rw [hB.cells];rfl
  have d1:W1.cell? ⟨p,4,none⟩=some (.int .u8 b1.toNat):=by rw [hB.cells];rfl
  have d2:W1.cell? ⟨p,5,none⟩=some (.int .u8 b2.toNat):=by rw [hB.cells];rfl
  have d3:W1.cell? ⟨p,6,none⟩=some (.int .u8 b3.toNat):=by rw [hB.cells];rfl
  have HB:=Lib.hid hB
  clear HR hM hpp hB
  go_wp2_with fail
  refine (Tryz.binary_BE_Uint32 p 3 4 64 b0 b1 b2 b3 _ (Nat.le_refl _) d0 d1 d2 d3).mono ?_
  rintro e W2 ⟨rfl,hb⟩
  have hs2:Step [b,p] [b,p] w W2:=hs.trans (Step.ofBelow hb)
  have hM2:Mem m b g (off+4) (Lib.byteCells l) W2:=hM'.step (Step.ofBelow (S:=[]) hb) (by simp) (by simp) (by simp)
  have hB2:=HB.out.step (Step.ofBelow (S:=[]) hb) (by simp)
  clear d0 d1 d2 d3
  go_wp2
  go_ret2
  exact ⟨rfl,_,hB2,hM2,hs2⟩

end Go.Proofs.YtmjcnomgpikncaaGreatDoor
