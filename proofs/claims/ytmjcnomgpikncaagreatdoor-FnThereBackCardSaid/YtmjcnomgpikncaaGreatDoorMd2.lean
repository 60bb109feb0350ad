/- The writers of the compact protocol: numbers, fields. No condition. -/
import Derived.Test.YtmjcnomgpikncaaGreatDoorMd1
import Derived.Test.YtmjcnomgpikncaaGreatDoorMb1
import Derived.MapKept
import Derived.Outline
import Derived.Deep.LoopGhost
import Derived.Deep.DeepCutAuto
import Derived.Deep.CutBlock
set_option linter.unusedVariables false
set_option linter.unusedSimpArgs false
namespace Go.Proofs.YtmjcnomgpikncaaGreatDoor

open Go.RowKit Go.Deep



structure CSt where
  stk:List Int
  last:Int
  pend:Bool
  pid:Int
  bv:Bool
  bn:Bool

def StkAt (r p:Nat) (v:Value) (xs:List Int) (w:World):Prop :=
  (v=.slice none 0 0∧xs=[]∧r=p) ∨
    ∃ cap cur,v=.slice (some ⟨r,0,none⟩) xs.length cap∧w.heap[r]?=some (.cells cur 3 (0,0))∧cur.size=cap∧xs.length≤cap∧cap≤maxLen∧cur.toList.take xs.length=xs.map (Value.int .i64)∧r≠p

theorem StkAt.step {r p:Nat} {v:Value} {xs:List Int} {w:World} (h:StkAt r p v xs w) {T U:List Nat} {w1:World} (hs:Step T U w w1) (hn:r≠p→r∉T):StkAt r p v xs w1:=by
  rcases h with h | ⟨cap,cur,h1,h2,h3,h4,h5,h6,h7⟩
  · exact .inl h
  · exact .inr ⟨cap,cur,h1,(hs.block r (lt_heap h2) (hn h7)).trans h2,h3,h4,h5,h6,h7⟩

theorem StkAt.lt {r p:Nat} {v:Value} {xs:List Int} {w:World} (h:StkAt r p v xs w) (hp:p < w.heap.size):r < w.heap.size:=by
  rcases h with ⟨_,_,rfl⟩ | ⟨cap,cur,h1,h2,_⟩
  · exact hp
  · exact lt_heap h2

def CP (p m:Nat) (og cf:Value) (c:Cfg) (off:Nat) (S:List Nat) (st:CSt) (l:List UInt8) (w:World):Prop :=
  ∃ b g r K lf nm sc,S=p :: m :: b :: g :: r :: K∧Cmp p (memV m) og cf ⟨lf,st.last,nm,st.pid,st.pend,st.bv,st.bn⟩ sc w∧Mem m b g off (Lib.byteCells l) w∧CfgAt c cf K w∧StkAt r p lf st.stk w ∧
    (p≠m∧p≠b∧p≠g)∧(r≠m∧r≠b∧r≠g)∧∀ k,k∈K→k≠p∧k≠b∧k≠g∧k≠r

theorem CP.step {p m:Nat} {og cf:Value} {c:Cfg} {off:Nat} {S:List Nat} {st:CSt} {l:List UInt8} {w:World} (h:CP p m og cf c off S st l w) {T U:List Nat} {w1:World} (hs:Step T U w w1) (hn:∀ k,k∈S→k∉T):CP p m og cf c off S st l w1:=by
  obtain ⟨b,g,r,K,lf,nm,sc,rfl,hp,hm,hc,hk,rest⟩:=h
  exact ⟨b,g,r,K,lf,nm,sc,rfl,hp.step hs (hn _ (by simp)),hm.step hs (hn _ (by simp)) (hn _ (by simp)) (hn _ (by simp)),hc.step hs (fun k hk=>hn k (by simp [hk])),hk.step hs (fun _=>hn _ (by simp)),rest⟩

theorem CP.lt {p m:Nat} {og cf:Value} {c:Cfg} {off:Nat} {S:List Nat} {st:CSt} {l:List UInt8} {w:World} (h:CP p m og cf c off S st l w):∀ k,k∈S→k < w.heap.size:=by
  obtain ⟨b,g,r,K,lf,nm,sc,rfl,hp,hm,hc,hk,rest⟩:=h
  intro k hk'
  simp only [List.mem_cons] at hk'
  rcases hk' with rfl | rfl | rfl | rfl | rfl | hk'
  · exact hp.lt
  · exact hm.lt
  · exact hm.2.2.2.lt.1
  · exact hm.2.2.2.lt.2
  · exact hk.lt hp.lt
  · exact hc.lt k hk'

theorem ownC {p m b g g1 r:Nat} {K:List Nat} {w w1:World} (hs:Step [p,b,g] [p,b,g1] w w1):Step (p :: m :: b :: g :: r :: K) (p :: m :: b :: g1 :: r :: K) w w1:=by
  refine ⟨hs.os,hs.tape,hs.output,hs.size,fun k hk hn=>hs.block k hk (fun e=>hn ?_),fun k hk=>?_⟩
  · simp only [List.mem_cons,List.not_mem_nil,or_false] at e ⊢
    rcases e with rfl | rfl | rfl <;> simp
  · simp only [List.mem_cons] at hk ⊢
    rcases hk with rfl | rfl | rfl | rfl | rfl | hk
    · simp
    · simp
    · simp
    · rcases hs.own k (by simp) with hh | hh
      · simp only [List.mem_cons,List.not_mem_nil,or_false] at hh
        rcases hh with rfl | rfl | rfl <;> simp
      · exact .inr hh
    · simp
    · simp [hk]

theorem with_p {p b g g1:Nat} {w w1:World} (hs:Step [b,g] [b,g1] w w1):Step [p,b,g] [p,b,g1] w w1 :=
  hs.more (by simp) (fun k hk=>by
    simp only [List.mem_cons,List.not_mem_nil,or_false] at hk ⊢
    omega)

theorem ne_of_types {w:World} {a b:Nat} {c1 c2:Array Value} {t1 t2:TypeId} {f1 f2:Nat × Nat} (h1:w.heap[a]?=some (.cells c1 t1 f1)) (h2:w.heap[b]?=some (.cells c2 t2 f2)) (ht:t1≠t2):a≠b:=by
  rintro rfl
  rw [h1] at h2
  injection h2 with h2
  injection h2 with _ h2
  exact ht h2

theorem Cmp.ne_row {p m b g off:Nat} {tr og cf:Value} {s:CS} {sc bs:List Value} {w:World} (hp:Cmp p tr og cf s sc w) (hm:Mem m b g off bs w):p≠g:=by
  obtain ⟨_,_,_,lr,⟨h1,rfl,_⟩ | ⟨cap,cur,h1,_,h2,_⟩⟩:=hm
  · exact ne_of_types hp.1 h1 (by decide)
  · exact ne_of_types hp.1 h2 (by decide)

theorem CP.wrote {p m b g g1 r:Nat} {og cf lf nm:Value} {c:Cfg} {K:List Nat} {st:CSt} {sc:List Value} {l1:List UInt8} {w w1:World} (hlt:p < w.heap.size) (hC:CfgAt c cf K w) (hk:StkAt r p lf st.stk w) (hd:p≠m∧p≠b∧p≠g) (hr:r≠m∧r≠b∧r≠g) (hK:∀ k,k∈K→k≠p∧k≠b∧k≠g∧k≠r)
    (hp:Cmp p (memV m) og cf ⟨lf,st.last,nm,st.pid,st.pend,st.bv,st.bn⟩ sc w1) (hM:Mem m b g1 0 (Lib.byteCells l1) w1) (hs:Step [p,b,g] [p,b,g1] w w1) (hpg1:p≠g1):CP p m og cf c 0 (p :: m :: b :: g1 :: r :: K) st l1 w1:=by
  have hrl:=hk.lt hlt
  have hg1:g1=p∨g1=b∨g1=g∨w.heap.size≤g1:=by
    rcases hs.own g1 (by simp) with hh | hh
    · simp only [List.mem_cons,List.not_mem_nil,or_false] at hh
      omega
    · omega
  refine ⟨b,g1,r,K,lf,nm,sc,rfl,hp,hM,hC.step hs (fun k hk=>by have:=hK k hk;simp [this]),hk.step hs (fun h=>by simp [h,hr]),⟨hd.1,hd.2.1,hpg1⟩,⟨hr.1,hr.2.1,?_⟩,fun k hk=>⟨(hK k hk).1,(hK k hk).2.1,?_,(hK k hk).2.2.2⟩⟩
  · by_cases hrp:r=p
    · rw [hrp];exact hpg1
    · omega
  · have h1:=hC.lt k hk
    have h2:=hK k hk
    omega

theorem CP.wrote0 {p m b g g1 r:Nat} {og cf lf nm:Value} {c:Cfg} {K:List Nat} {st:CSt} {sc:List Value} {l1:List UInt8} {w w1:World} (hp:Cmp p (memV m) og cf ⟨lf,st.last,nm,st.pid,st.pend,st.bv,st.bn⟩ sc w) (hC:CfgAt c cf K w) (hk:StkAt r p lf st.stk w) (hd:p≠m∧p≠b∧p≠g) (hr:r≠m∧r≠b∧r≠g) (hK:∀ k,k∈K→k≠p∧k≠b∧k≠g∧k≠r)
    (hM:Mem m b g1 0 (Lib.byteCells l1) w1) (hs:Step [b,g] [b,g1] w w1):CP p m og cf c 0 (p :: m :: b :: g1 :: r :: K) st l1 w1:=by
  refine CP.wrote hp.lt hC hk hd hr hK (hp.step hs (by simp [hd])) hM (with_p hs) ?_
  have hl:=hp.lt
  rcases hs.own g1 (by simp) with hh | hh
  · simp only [List.mem_cons,List.not_mem_nil,or_false] at hh
    omega
  · omega

abbrev CIs (p m:Nat) (og cf:Value) (c:Cfg):List Nat→CSt × List UInt8→World→Prop:=fun S r w=>CP p m og cf c 0 S r.1 r.2 w

set_option maxRecDepth 100000 in
set_option maxHeartbeats 1000000 in
theorem cp_direct {p m:Nat} {og cf:Value} {c:Cfg} {S:List Nat} {st:CSt} {l:List UInt8} {w:World} (h:CP p m og cf c 0 S st l w) (x:UInt8) (hlim:l.length+1≤140737488355328) :
    Calls Tryz.prog 192 #[.pointer (some ⟨p,0,none⟩),.int .u8 x.toNat] w (Did (CIs p m og cf c) S w ((st,l++[x]),0)):=by
  obtain ⟨b,g,r,K,lf,nm,sc,rfl,hp,hm,hC,hk,hd,hr,hK⟩:=h
  have c0:w.cell? ⟨p,0,none⟩=some (memV m):=by rw [hp.cells];rfl
  have cm:=hm.cell
  have hmeth:=mem_WriteByte
  have HP:=Lib.hid hp
  have HM:=Lib.hid hm
  clear hp hm
  go_enter Tryz.func192,Tryz.ntmps192
  go_wp2_with (go_at_call 115;refine (buf_writeByte b g _ _ _ HM.out.2.2.2 (Lib.byteCells_one _) (by rw [Lib.byteCells_length];exact hlim)).mono ?_)
  rintro e W1 ⟨rfl,g1,hB,hs⟩
  go_wp2
  go_ret
  refine ⟨_,_,rfl,IsErr.nil _,CP.wrote0 HP.out hC hk hd hr hK ?_ hs,ownC (with_p hs)⟩
  have:=HM.out.turn hB hs
  rw [Lib.byteCells_append]
  exact this

theorem cp_varint32 {p m:Nat} {og cf:Value} {c:Cfg} {S:List Nat} {st:CSt} {l:List UInt8} {w:World} (h:CP p m og cf c 0 S st l w) (n:Int) (N:Nat) (hn:n % 4294967296=N) (hlim:l.length+5≤140737488355328) :
    Calls Tryz.prog 190 #[.pointer (some ⟨p,0,none⟩),.int .i32 n] w fun e w'=>(∃ k,e=.returned (.tuple #[.int .i64 k,.nilIface]))∧∃ S',CP p m og cf c 0 S' st (l++Lib.uvarint N) w'∧Step S S' w w':=by
  obtain ⟨b,g,r,K,lf,nm,sc,rfl,hp,hm,hC,hk,hd,hr,hK⟩:=h
  refine (cmp_writeVarint32 p m b g og cf _ sc l n N w hp hm hd.1 hd.2.1 hd.2.2 hn hlim).mono ?_
  rintro e w' ⟨rfl,g1,sc1,hp1,hm1,hs⟩
  exact ⟨⟨_,rfl⟩,_,CP.wrote hp.lt hC hk hd hr hK hp1 hm1 hs (hp1.ne_row hm1),ownC hs⟩

theorem cp_varint64 {p m:Nat} {og cf:Value} {c:Cfg} {S:List Nat} {st:CSt} {l:List UInt8} {w:World} (h:CP p m og cf c 0 S st l w) (n:Int) (N:Nat) (hn:n % 18446744073709551616=N) (hlim:l.length+10≤140737488355328) :
    Calls Tryz.prog 194 #[.pointer (some ⟨p,0,none⟩),.int .i64 n] w fun e w'=>(∃ k,e=.returned (.tuple #[.int .i64 k,.nilIface]))∧∃ S',CP p m og cf c 0 S' st (l++Lib.uvarint N) w'∧Step S S' w w':=by
  obtain ⟨b,g,r,K,lf,nm,sc,rfl,hp,hm,hC,hk,hd,hr,hK⟩:=h
  refine (cmp_writeVarint64 p m b g og cf _ sc l n N w hp hm hd.1 hd.2.1 hd.2.2 hn hlim).mono ?_
  rintro e w' ⟨rfl,g1,sc1,hp1,hm1,hs⟩
  exact ⟨⟨_,rfl⟩,_,CP.wrote hp.lt hC hk hd hr hK hp1 hm1 hs (hp1.ne_row hm1),ownC hs⟩

set_option maxRecDepth 100000 in
set_option maxHeartbeats 1000000 in
theorem cp_byte {p m:Nat} {og cf:Value} {c:Cfg} {S:List Nat} {st:CSt} {l:List UInt8} {w:World} (h:CP p m og cf c 0 S st l w) (cx:Value) (x:Int) (hlim:l.length+1≤140737488355328) :
    Calls Tryz.prog 156 #[.pointer (some ⟨p,0,none⟩),cx,.int .i8 x] w (Did (CIs p m og cf c) S w ((st,l++[u8 x]),0)):=by
  have e1:x % 256=((u8 x).toNat:Int):=by
    unfold u8
    show x % 256=(((x % 256).toNat % 256:Nat):Int)
    omega
  have H1:=Lib.hid e1
  clear e1
  go_enter Tryz.func156,Tryz.ntmps156
  go_wp2_with (fail)
  rw [H1.out]
  refine (cp_direct h _ hlim).mono ?_
  rintro e W1 ⟨ev,S1,rfl,he,h1,s1⟩
  obtain rfl:=he.zero
  go_wp2_with (first | (go_at_call 178;go_in))
  go_ret
  exact ⟨_,_,rfl,IsErr.nil _,h1,s1⟩

set_option maxRecDepth 100000 in
set_option maxHeartbeats 2000000 in
theorem cp_i16 {p m:Nat} {og cf:Value} {c:Cfg} {S:List Nat} {st:CSt} {l:List UInt8} {w:World} (h:CP p m og cf c 0 S st l w) (cx:Value) (x:Int) (h0:-32768≤x) (h1:x < 32768) (hlim:l.length+5≤140737488355328) :
    Calls Tryz.prog 161 #[.pointer (some ⟨p,0,none⟩),cx,.int .i16 x] w (Did (CIs p m og cf c) S w ((st,l++Lib.uvarint (Lib.zigzag x)),0)):=by
  obtain ⟨hz,hz2⟩:=i32_zigzag x (by omega) (by omega)
  have hn:(bits .xor .i32 (x * 2) (x / 2147483648)) % 4294967296=(Lib.zigzag x:Nat):=by
    have e:x * 2=IntKind.i32.wrap (x * 2):=by rw [IntKind.wrap_i32];omega
    rw [e,hz,IntKind.wrap_i32]
    omega
  have hW:=cp_varint32 h _ _ hn hlim
  have HW:=Lib.hid hW
  clear hW hn hz hz2
  go_enter Tryz.func161,Tryz.ntmps161
  go_wp2_with (first | (go_at_call 176;go_in))
  refine HW.out.mono ?_
  rintro e W1 ⟨⟨k1,rfl⟩,S1,h1,s1⟩
  go_wp2_with (first | (go_at_call 178;go_in))
  go_ret
  exact ⟨_,_,rfl,IsErr.nil _,h1,s1⟩

set_option maxRecDepth 100000 in
set_option maxHeartbeats 2000000 in
theorem cp_i32 {p m:Nat} {og cf:Value} {c:Cfg} {S:List Nat} {st:CSt} {l:List UInt8} {w:World} (h:CP p m og cf c 0 S st l w) (cx:Value) (x:Int) (h0:-2147483648≤x) (h1:x < 2147483648) (hlim:l.length+5≤140737488355328) :
    Calls Tryz.prog 162 #[.pointer (some ⟨p,0,none⟩),cx,.int .i32 x] w (Did (CIs p m og cf c) S w ((st,l++Lib.uvarint (Lib.zigzag x)),0)):=by
  obtain ⟨hz,hz2⟩:=i32_zigzag x (by omega) (by omega)
  have hn:(bits .xor .i32 (wrap32 (x * 2)) (x / 2147483648)) % 4294967296=(Lib.zigzag x:Nat):=by
    have e:wrap32 (x * 2)=IntKind.i32.wrap (x * 2):=by rw [IntKind.wrap_i32];unfold wrap32;omega
    rw [e,hz,IntKind.wrap_i32]
    omega
  have hW:=cp_varint32 h _ _ hn hlim
  have HW:=Lib.hid hW
  clear hW hn hz hz2
  go_enter Tryz.func162,Tryz.ntmps162
  go_wp2_with (first | (go_at_call 176;go_in))
  refine HW.out.mono ?_
  rintro e W1 ⟨⟨k1,rfl⟩,S1,h1,s1⟩
  go_wp2_with (first | (go_at_call 178;go_in))
  go_ret
  exact ⟨_,_,rfl,IsErr.nil _,h1,s1⟩

set_option maxRecDepth 100000 in
set_option maxHeartbeats 2000000 in
theorem cp_i64 {p m:Nat} {og cf:Value} {c:Cfg} {S:List Nat} {st:CSt} {l:List UInt8} {w:World} (h:CP p m og cf c 0 S st l w) (cx:Value) (x:Int) (h0:-9223372036854775808≤x) (h1:x < 9223372036854775808) (hlim:l.length+10≤140737488355328) :
    Calls Tryz.prog 163 #[.pointer (some ⟨p,0,none⟩),cx,.int .i64 x] w (Did (CIs p m og cf c) S w ((st,l++Lib.uvarint (Lib.zigzag x)),0)):=by
  obtain ⟨hz,hz2⟩:=i64_zigzag x (by omega) (by omega)
  have hn:(bits .xor .i64 (wrap64 (x * 2)) (x / 9223372036854775808)) % 18446744073709551616=(Lib.zigzag x:Nat):=by
    have e:wrap64 (x * 2)=IntKind.i64.wrap (x * 2):=by rw [IntKind.wrap_i64];unfold wrap64;omega
    rw [e,hz,IntKind.wrap_i64]
    omega
  have hW:=cp_varint64 h _ _ hn hlim
  have HW:=Lib.hid hW
  clear hW hn hz hz2
  go_enter Tryz.func163,Tryz.ntmps163
  go_wp2_with (first | (go_at_call 195;go_in))
  refine HW.out.mono ?_
  rintro e W1 ⟨⟨k1,rfl⟩,S1,h1,s1⟩
  go_wp2_with (first | (go_at_call 178;go_in))
  go_ret
  exact ⟨_,_,rfl,IsErr.nil _,h1,s1⟩

set_option maxRecDepth 100000 in
set_option maxHeartbeats 2000000 in
theorem cp_str {p m:Nat} {og cf:Value} {c:Cfg} {S:List Nat} {st:CSt} {l:List UInt8} {w:World} (h:CP p m og cf c 0 S st l w) (cx:Value) (s:List UInt8) (hs:s.length≤2147483647) (hlim:l.length+5+s.length≤140737488355328) :
    Calls Tryz.prog 172 #[.pointer (some ⟨p,0,none⟩),cx,strV s] w (Did (CIs p m og cf c) S w ((st,l++cText s),0)):=by
  have hsz:(⟨s.toArray⟩:ByteArray).size=s.length:=by show s.toArray.size=_;simp
  have HZ:=Lib.hid hsz
  have hw:IntKind.i32.wrap (s.length:Int)=s.length:=by rw [IntKind.wrap_i32];omega
  have HV:=Lib.hid (cp_varint32 h (s.length:Int) s.length (by omega) (by omega))
  have hlen:(Lib.uvarint s.length).length≤5:=Lib.uvarint_length 4 _ (by omega)
  have HLE:=Lib.hid hlen
  clear hsz hlen
  by_cases h0:s.length=0
  · obtain rfl:s=[]:=List.length_eq_zero_iff.1 h0
    go_enter Tryz.func172,Tryz.ntmps172
    go_wp2_with (fail)
    refine HV.out.mono ?_
    rintro e W1 ⟨⟨k1,rfl⟩,S1,h1,s1⟩
    go_wp2
    go_ret
    exact ⟨_,_,rfl,IsErr.nil _,by simpa [cText] using h1,s1⟩
  · have h0':((s.length:Int) == 0)=false:=by simpa using h0
    go_enter Tryz.func172,Tryz.ntmps172
    go_wp2_with (fail)
    have e1:((⟨s.toArray⟩:ByteArray).size:Int)=s.length:=by rw [HZ.out]
    refine HV.out.mono ?_
    rintro e W1 ⟨⟨k1,rfl⟩,S1,h1,s1⟩
    obtain ⟨b,g,r,K,lf,nm,sc,rfl,hp,hm,hC,hk,hd,hr,hK⟩:=h1
    have c0:W1.cell? ⟨p,0,none⟩=some (memV m):=by rw [hp.cells];rfl
    have cm:=hm.cell
    have hmeth:=mem_WriteString
    have HP:=Lib.hid hp
    clear hp
    go_wp2_with (go_at_call 116;refine (mem_writeString m b g _ s _ hm (by simp only [List.length_append];have:=HLE.out;omega)).mono ?_)
    rintro e W2 ⟨⟨n2,rfl⟩,g1,hM,s2⟩
    go_wp2
    go_ret
    refine ⟨_,_,rfl,IsErr.nil _,?_,s1.trans (ownC (with_p s2))⟩
    have hw:=CP.wrote0 HP.out hC hk hd hr hK hM s2
    rw [List.append_assoc] at hw
    exact hw

theorem cp_uuid {p m:Nat} {og cf:Value} {c:Cfg} {S:List Nat} {st:CSt} {l:List UInt8} {w:World} (h:CP p m og cf c 0 S st l w) (cx:Value) (s:List UInt8) (hs:s.length=16) (hlim:l.length+16≤140737488355328) :
    Calls Tryz.prog 175 #[.pointer (some ⟨p,0,none⟩),cx,.agg (Lib.byteCells s).toArray] w (Did (CIs p m og cf c) S w ((st,l++s),0)):=by
  obtain ⟨b,g,r,K,lf,nm,sc,rfl,hp,hm,hC,hk,hd,hr,hK⟩:=h
  have hst:∀ o,Step [] [] w (w.alloc o):=fun o=>(Step.refl _ _).alloc o
  have hp1:∀ o,Cmp p (memV m) og cf ⟨lf,st.last,nm,st.pid,st.pend,st.bv,st.bn⟩ sc (w.alloc o):=fun o=>hp.alloc o
  have hm1:∀ o,Mem m b g 0 (Lib.byteCells l) (w.alloc o):=fun o=>hm.alloc o
  have hC1:∀ o,CfgAt c cf K (w.alloc o):=fun o=>hC.step (hst o) (by simp)
  have hk1:∀ o,StkAt r p lf st.stk (w.alloc o):=fun o=>hk.step (hst o) (by simp)
  have c0:∀ o,(w.alloc o).cell? ⟨p,0,none⟩=some (memV m):=fun o=>by rw [(hp1 o).cells];rfl
  have cm:∀ o,(w.alloc o).cell? ⟨m,0,none⟩=some (.pointer (some ⟨b,0,none⟩)):=fun o=>(hm1 o).cell
  have hmeth:=mem_Write
  have hb:=hm.2.2.2.lt
  have HP:=Lib.hid hp1
  have HM:=Lib.hid hm1
  have HC:=Lib.hid hC1
  have HK:=Lib.hid hk1
  have HS:=Lib.hid hs
  clear hp1 hm1 hC1 hk1 hs hp hm hC hk hst
  go_enter Tryz.func175,Tryz.ntmps175
  have hsrc:∀ o,o=Obj.cells (Lib.byteCells s).toArray 143 (0,0)→∀ a,some (⟨w.heap.size,0,none⟩:Addr)=some a→(a.block≠b∧a.block≠g∧a.block < (w.alloc o).drew.heap.size)∧∀ j v,(Lib.byteCells s)[j]?=some v→(w.alloc o).drew.cell? (a.add j)=some v:=by
    rintro o rfl a ha
    cases ha
    refine ⟨⟨by show w.heap.size≠b;omega,by show w.heap.size≠g;omega,by show w.heap.size < _;simp⟩,fun j v hj=>?_⟩
    rw [Lib.addr_add,World.cell?_drew,cell_heap (heap_alloc_new _ _)]
    simpa using hj
  have HSR:=Lib.hid hsrc
  clear hsrc
  go_wp2_with (fail)
  go_region_with ((go_at_call 72;refine (mem_writeBytes m b g 16 16 (some ⟨w.heap.size,0,none⟩) l s _ ?_ HS.out ?_ (by simp) hlim).mono ?_;exact HM.out _;exact HSR.out _ rfl;rintro e W2 ⟨⟨n2,rfl⟩,g1,hM,s2⟩))
  go_wp2
  go_ret
  exact ⟨_,_,rfl,IsErr.nil _,CP.wrote0 (HP.out _) (HC.out _) (HK.out _) hd hr hK hM s2.undrew,((Step.refl _ _).alloc _).trans (ownC (with_p s2.undrew))⟩

end Go.Proofs.YtmjcnomgpikncaaGreatDoor

namespace Go.Proofs.YtmjcnomgpikncaaGreatDoor

open Go.RowKit Go.Deep



theorem ct_insert {w:World} {r:Nat} {es:Array MapEntry} {clock:Nat} (x:Int) (v:Value) (hb:w.heap[r]?=some (.map es clock)) (hf:Instr.findNow (.int .u8) (.int .u8 x) es.toList 0=some none) :
    ∃ w1,(Instr.mapUpdate 314 (.map (some r)) (.int .u8 x) v).run Tryz.prog w=.ok () w1∧w1.heap[r]?=some (.map (es.push { key:=.int .u8 x,val:=v,born:=clock }) (clock+1))∧Step [r] [r] w w1:=by
  have hk:MapKept.IsKey (.int .u8) (.int .u8 x):=rfl
  refine ⟨{ w with heap:=w.heap.setIfInBounds r (.map (es.push { key:=.int .u8 x,val:=v,born:=clock }) (clock+1)) },?_,(MapKept.heap_set hb).1,⟨rfl,rfl,rfl,by simp,fun k hk hn=>?_,fun _ h=>.inl h⟩⟩
  · simp [Instr.mapUpdate,run_underlying Tryz.underlying314,MapKept.run_getObj_map hb,MapKept.run_checkKey Tryz.underlying96 hk,MapKept.run_findKey Tryz.underlying96 hf,MapKept.run_setObj_map _ hb,Result.andThen]
  · exact (MapKept.heap_set hb).2 k (by simpa using hn)

theorem ct_hit {w:World} {r:Nat} {es:Array MapEntry} {clock i:Nat} (x:Int) (v:Value) (hb:w.heap[r]?=some (.map es clock)) (hf:Instr.findNow (.int .u8) (.int .u8 x) es.toList 0=some (some (i,v))) :
    (Instr.lookup 314 (.map (some r)) (.int .u8 x) false).run Tryz.prog w=.ok v w:=by
  have hk:MapKept.IsKey (.int .u8) (.int .u8 x):=rfl
  simp [Instr.lookup,run_underlying Tryz.underlying314,MapKept.run_getObj_map hb,MapKept.run_checkKey Tryz.underlying96 hk,MapKept.run_findKey Tryz.underlying96 hf,Result.andThen]

theorem ct_miss {w:World} {r:Nat} {es:Array MapEntry} {clock:Nat} (x:Int) (hb:w.heap[r]?=some (.map es clock)) (hf:Instr.findNow (.int .u8) (.int .u8 x) es.toList 0=some none) :
    (Instr.lookup 314 (.map (some r)) (.int .u8 x) false).run Tryz.prog w=.ok (.int .u8 0) w:=by
  have hk:MapKept.IsKey (.int .u8) (.int .u8 x):=rfl
  have hz:(zeroValue 294).run Tryz.prog w=.ok (.int .u8 0) w:=by kernel_rfl
  simp [Instr.lookup,run_underlying Tryz.underlying314,MapKept.run_getObj_map hb,MapKept.run_checkKey Tryz.underlying96 hk,MapKept.run_findKey Tryz.underlying96 hf,hz,Result.andThen]

def ctTab:Array MapEntry:=#[{ key:=.int .u8 0,val:=.int .u8 0,born:=0 },{ key:=.int .u8 2,val:=.int .u8 1,born:=1 },{ key:=.int .u8 3,val:=.int .u8 3,born:=2 },{ key:=.int .u8 6,val:=.int .u8 4,born:=3 },{ key:=.int .u8 8,val:=.int .u8 5,born:=4 },{ key:=.int .u8 10,val:=.int .u8 6,born:=5 },{ key:=.int .u8 4,val:=.int .u8 7,born:=6 },{ key:=.int .u8 11,val:=.int .u8 8,born:=7 },{ key:=.int .u8 15,val:=.int .u8 9,born:=8 },{ key:=.int .u8 14,val:=.int .u8 10,born:=9 },{ key:=.int .u8 13,val:=.int .u8 11,born:=10 },{ key:=.int .u8 12,val:=.int .u8 12,born:=11 },{ key:=.int .u8 16,val:=.int .u8 13,born:=12 }]

set_option maxRecDepth 100000 in
set_option maxHeartbeats 4000000 in
theorem ct_table (w:World):Calls Tryz.prog 202 #[] w fun e w'=>∃ r clock,e=.returned (.map (some r))∧w.heap.size≤r∧w'.heap[r]?=some (.map ctTab clock)∧Below w.heap.size w w':=by
  have hmm:=@run_makeMap Tryz.prog
  have g0:=heap_alloc_new w (.map #[] 0)
  obtain ⟨W1,u1,g1,s1⟩:=ct_insert 0 (.int .u8 0) g0 (by rfl)
  obtain ⟨W2,u2,g2,s2⟩:=ct_insert 2 (.int .u8 1) g1 (by rfl)
  obtain ⟨W3,u3,g3,s3⟩:=ct_insert 3 (.int .u8 3) g2 (by rfl)
  obtain ⟨W4,u4,g4,s4⟩:=ct_insert 6 (.int .u8 4) g3 (by rfl)
  obtain ⟨W5,u5,g5,s5⟩:=ct_insert 8 (.int .u8 5) g4 (by rfl)
  obtain ⟨W6,u6,g6,s6⟩:=ct_insert 10 (.int .u8 6) g5 (by rfl)
  obtain ⟨W7,u7,g7,s7⟩:=ct_insert 4 (.int .u8 7) g6 (by rfl)
  obtain ⟨W8,u8,g8,s8⟩:=ct_insert 11 (.int .u8 8) g7 (by rfl)
  obtain ⟨W9,u9,g9,s9⟩:=ct_insert 15 (.int .u8 9) g8 (by rfl)
  obtain ⟨W10,u10,g10,s10⟩:=ct_insert 14 (.int .u8 10) g9 (by rfl)
  obtain ⟨W11,u11,g11,s11⟩:=ct_insert 13 (.int .u8 11) g10 (by rfl)
  obtain ⟨W12,u12,g12,s12⟩:=ct_insert 12 (.int .u8 12) g11 (by rfl)
  obtain ⟨W13,u13,g13,s13⟩:=ct_insert 16 (.int .u8 13) g12 (by rfl)
  have hs:Step [w.heap.size] [w.heap.size] (w.alloc (.map #[] 0)) W13:=((((((((((((s1.trans s2).trans s3).trans s4).trans s5).trans s6).trans s7).trans s8).trans s9).trans s10).trans s11).trans s12).trans s13)
  have hB:Below w.heap.size w W13:=((Below.refl w.heap.size w).alloc (Nat.le_refl _) _).trans (hs.below _ (by simp) (by simp))
  have HG:=Lib.hid g13
  have HB:=Lib.hid hB
  clear g0 g1 g2 g3 g4 g5 g6 g7 g8 g9 g10 g11 g12 g13 s1 s2 s3 s4 s5 s6 s7 s8 s9 s10 s11 s12 s13 hs hB
  go_enter Tryz.func202,Tryz.ntmps202
  go_wp2
  go_ret
  exact ⟨w.heap.size,13,rfl,Nat.le_refl _,HG.out,HB.out⟩

theorem ct_look (t:Int) (w:World) (r clock:Nat) (h:w.heap[r]?=some (.map ctTab clock)):(Instr.lookup 314 (.map (some r)) (.int .u8 t) false).run Tryz.prog w=.ok (.int .u8 (cCode t:Nat)) w:=by
  by_cases h0:t=0
  · subst h0
    exact ct_hit 0 _ h (i:=0) (by rfl)
  by_cases h2:t=2
  · subst h2
    exact ct_hit 2 _ h (i:=1) (by rfl)
  by_cases h3:t=3
  · subst h3
    exact ct_hit 3 _ h (i:=2) (by rfl)
  by_cases h6:t=6
  · subst h6
    exact ct_hit 6 _ h (i:=3) (by rfl)
  by_cases h8:t=8
  · subst h8
    exact ct_hit 8 _ h (i:=4) (by rfl)
  by_cases h10:t=10
  · subst h10
    exact ct_hit 10 _ h (i:=5) (by rfl)
  by_cases h4:t=4
  · subst h4
    exact ct_hit 4 _ h (i:=6) (by rfl)
  by_cases h11:t=11
  · subst h11
    exact ct_hit 11 _ h (i:=7) (by rfl)
  by_cases h15:t=15
  · subst h15
    exact ct_hit 15 _ h (i:=8) (by rfl)
  by_cases h14:t=14
  · subst h14
    exact ct_hit 14 _ h (i:=9) (by rfl)
  by_cases h13:t=13
  · subst h13
    exact ct_hit 13 _ h (i:=10) (by rfl)
  by_cases h12:t=12
  · subst h12
    exact ct_hit 12 _ h (i:=11) (by rfl)
  by_cases h16:t=16
  · subst h16
    exact ct_hit 16 _ h (i:=12) (by rfl)
  have hc:cCode t=0:=by unfold cCode;simp [h0,h2,h3,h6,h8,h10,h4,h11,h15,h14,h13,h12,h16]
  rw [hc]
  refine ct_miss t h ?_
  have b0:(t == 0)=false:=by simpa using h0
  have b2:(t == 2)=false:=by simpa using h2
  have b3:(t == 3)=false:=by simpa using h3
  have b6:(t == 6)=false:=by simpa using h6
  have b8:(t == 8)=false:=by simpa using h8
  have b10:(t == 10)=false:=by simpa using h10
  have b4:(t == 4)=false:=by simpa using h4
  have b11:(t == 11)=false:=by simpa using h11
  have b15:(t == 15)=false:=by simpa using h15
  have b14:(t == 14)=false:=by simpa using h14
  have b13:(t == 13)=false:=by simpa using h13
  have b12:(t == 12)=false:=by simpa using h12
  have b16:(t == 16)=false:=by simpa using h16
  simp [ctTab,Instr.findNow,Instr.sameNow,b0,b2,b3,b6,b8,b10,b4,b11,b15,b14,b13,b12,b16]

set_option maxRecDepth 100000 in
set_option maxHeartbeats 4000000 in
theorem compactType_of (p:Value) (t:Int) (w:World):Calls Tryz.prog 197 #[p,.int .u8 t] w fun e w'=>e=.returned (.int .u8 (cCode t:Nat))∧Below w.heap.size w w':=by
  go_enter Tryz.func197,Tryz.ntmps197
  go_wp2_with (fail)
  refine (ct_table _).mono ?_
  rintro e W1 ⟨r,clock,rfl,hr,hm,hb⟩
  have hl:=ct_look t W1 r clock hm
  go_wp2
  go_ret
  exact ⟨rfl,hb⟩

end Go.Proofs.YtmjcnomgpikncaaGreatDoor

namespace Go.Proofs.YtmjcnomgpikncaaGreatDoor

open Go.RowKit Go.Deep



theorem CP.read {p m:Nat} {og cf:Value} {c:Cfg} {off:Nat} {S:List Nat} {st:CSt} {l:List UInt8} {w:World} (h:CP p m og cf c off S st l w) :
    w.cell? ⟨p,0,none⟩=some (memV m)∧w.cell? ⟨p,4,none⟩=some (.int .i64 st.last)∧(∃ nm,w.cell? ⟨p,5,none⟩=some nm)∧w.cell? ⟨p,6,none⟩=some (.int .i16 st.pid)∧w.cell? ⟨p,7,none⟩=some (.bool st.pend) ∧
      w.cell? ⟨p,8,none⟩=some (.bool st.bv)∧w.cell? ⟨p,9,none⟩=some (.bool st.bn)∧∀ i,w.frozen? ⟨p,i,none⟩=false:=by
  obtain ⟨b,g,r,K,lf,nm,sc,rfl,hp,hm,hC,hk,hd,hr,hK⟩:=h
  exact ⟨by rw [hp.cells];rfl,by rw [hp.cells];rfl,⟨nm,by rw [hp.cells];rfl⟩,by rw [hp.cells];rfl,by rw [hp.cells];rfl,by rw [hp.cells];rfl,by rw [hp.cells];rfl,fun i=>frozen_heap hp.1 i⟩

theorem CP.own {p m:Nat} {og cf:Value} {c:Cfg} {off:Nat} {S:List Nat} {st:CSt} {l:List UInt8} {w:World} (h:CP p m og cf c off S st l w):p∈S:=by
  obtain ⟨b,g,r,K,lf,nm,sc,rfl,_⟩:=h
  simp

theorem CP.poke {p m:Nat} {og cf:Value} {c:Cfg} {off:Nat} {S:List Nat} {st:CSt} {l:List UInt8} {w:World} (h:CP p m og cf c off S st l w) (i:Nat) (v:Value) (st':CSt) (hs:st'.stk=st.stk)
    (hv:∀ lf nm sc,∃ nm',((CS.row (memV m) og cf ⟨lf,st.last,nm,st.pid,st.pend,st.bv,st.bn⟩ sc).toArray.setIfInBounds i v)=(CS.row (memV m) og cf ⟨lf,st'.last,nm',st'.pid,st'.pend,st'.bv,st'.bn⟩ sc).toArray) :
    CP p m og cf c off S st' l (w.setCell ⟨p,i,none⟩ v):=by
  obtain ⟨b,g,r,K,lf,nm,sc,rfl,hp,hm,hC,hk,hd,hr,hK⟩:=h
  obtain ⟨nm',hv⟩:=hv lf nm sc
  have hst:Step [p] [p] w (w.setCell ⟨p,i,none⟩ v):=(Step.refl _ _).setCell (p:=⟨p,i,none⟩) (.inl (by simp)) v
  refine ⟨b,g,r,K,lf,nm',sc,rfl,⟨?_,hp.2⟩,hm.step hst (by simp [Ne.symm hd.1]) (by simp [Ne.symm hd.2.1]) (by simp [Ne.symm hd.2.2]),hC.step hst (fun k hk=>by have:=hK k hk;simp [this]),?_,hd,hr,hK⟩
  · rw [heap_set_same hp.1,hv]
  · rw [hs]
    exact hk.step hst (fun h=>by simpa using h)

theorem CP.setLast {p m:Nat} {og cf:Value} {c:Cfg} {off:Nat} {S:List Nat} {st:CSt} {l:List UInt8} {w:World} (h:CP p m og cf c off S st l w) (x:Int):CP p m og cf c off S { st with last:=x } l (w.setCell ⟨p,4,none⟩ (.int .i64 x)) :=
  h.poke 4 _ _ rfl (fun lf nm sc=>⟨nm,by simp [CS.row]⟩)

theorem CP.setName {p m:Nat} {og cf:Value} {c:Cfg} {off:Nat} {S:List Nat} {st:CSt} {l:List UInt8} {w:World} (h:CP p m og cf c off S st l w) (x:Value):CP p m og cf c off S st l (w.setCell ⟨p,5,none⟩ x) :=
  h.poke 5 _ _ rfl (fun lf nm sc=>⟨x,by simp [CS.row]⟩)

theorem CP.setPid {p m:Nat} {og cf:Value} {c:Cfg} {off:Nat} {S:List Nat} {st:CSt} {l:List UInt8} {w:World} (h:CP p m og cf c off S st l w) (x:Int):CP p m og cf c off S { st with pid:=x } l (w.setCell ⟨p,6,none⟩ (.int .i16 x)) :=
  h.poke 6 _ _ rfl (fun lf nm sc=>⟨nm,by simp [CS.row]⟩)

theorem CP.setPend {p m:Nat} {og cf:Value} {c:Cfg} {off:Nat} {S:List Nat} {st:CSt} {l:List UInt8} {w:World} (h:CP p m og cf c off S st l w) (x:Bool):CP p m og cf c off S { st with pend:=x } l (w.setCell ⟨p,7,none⟩ (.bool x)) :=
  h.poke 7 _ _ rfl (fun lf nm sc=>⟨nm,by simp [CS.row]⟩)

theorem CP.setBv {p m:Nat} {og cf:Value} {c:Cfg} {off:Nat} {S:List Nat} {st:CSt} {l:List UInt8} {w:World} (h:CP p m og cf c off S st l w) (x:Bool):CP p m og cf c off S { st with bv:=x } l (w.setCell ⟨p,8,none⟩ (.bool x)) :=
  h.poke 8 _ _ rfl (fun lf nm sc=>⟨nm,by simp [CS.row]⟩)

theorem CP.setBn {p m:Nat} {og cf:Value} {c:Cfg} {off:Nat} {S:List Nat} {st:CSt} {l:List UInt8} {w:World} (h:CP p m og cf c off S st l w) (x:Bool):CP p m og cf c off S { st with bn:=x } l (w.setCell ⟨p,9,none⟩ (.bool x)) :=
  h.poke 9 _ _ rfl (fun lf nm sc=>⟨nm,by simp [CS.row]⟩)

theorem CP.stepSet {p m:Nat} {og cf:Value} {c:Cfg} {off:Nat} {S:List Nat} {st:CSt} {l:List UInt8} {w:World} (h:CP p m og cf c off S st l w) (i:Nat) (v:Value):Step S S w (w.setCell ⟨p,i,none⟩ v) :=
  (Step.refl _ _).setCell (p:=⟨p,i,none⟩) (.inl h.own) v

theorem or_high (d k:Nat) (hd:d≤15) (hk:k≤15):bits .or .u8 ((d:Int) * 16) (k:Int)=((d * 16+k:Nat):Int):=by
  have h:=(bits_nat .u8 8 (by decide) wraps_u8 (d * 16) k (by omega) (by omega)).2
  have e:d * 16 ||| k=d * 16+k:=by
    have:d * 16=2 ^ 4 * d:=by omega
    rw [this,Nat.two_pow_add_eq_or_of_lt (by omega)]
  rw [e] at h
  rw [← h]
  congr 1

theorem cp_directN {p m:Nat} {og cf:Value} {c:Cfg} {S:List Nat} {st:CSt} {l:List UInt8} {w:World} (h:CP p m og cf c 0 S st l w) (x:Nat) (hx:x < 256) (hlim:l.length+1≤140737488355328) :
    Calls Tryz.prog 192 #[.pointer (some ⟨p,0,none⟩),.int .u8 (x:Nat)] w (Did (CIs p m og cf c) S w ((st,l++[x.toUInt8]),0)):=by
  have e:((x.toUInt8.toNat:Nat):Int)=x:=by
    show ((x % 256:Nat):Int)=x
    omega
  have:=cp_direct h x.toUInt8 hlim
  rw [e] at this
  exact this

theorem cp_i16' {p m:Nat} {og cf:Value} {c:Cfg} {S:List Nat} {st:CSt} {l:List UInt8} {w:World} (h:CIs p m og cf c S (st,l) w) (cx:Value) (x:Int) (h0:-32768≤x) (h1:x < 32768) (hlim:l.length+5≤140737488355328) :
    Calls Tryz.prog 161 #[.pointer (some ⟨p,0,none⟩),cx,.int .i16 x] w (Did (CIs p m og cf c) S w ((st,l++Lib.uvarint (Lib.zigzag x)),0)):=cp_i16 h cx x h0 h1 hlim

set_option maxRecDepth 100000 in
set_option maxHeartbeats 1000000 in
theorem cp_field_near {p m:Nat} {og cf:Value} {c:Cfg} {S:List Nat} {st:CSt} {l:List UInt8} {w:World} (h:CP p m og cf c 0 S st l w) (cx nm:Value) (t id:Int) (k:Nat) (hk:k≤15) (h0:-32768≤id) (h1:id < 32768) (hl0:-32768≤st.last) (hl1:st.last < 32768) (hlim:l.length+16≤140737488355328) (hs1:st.last < id) (hs2:id - st.last≤15) :
    Calls Tryz.prog 191 #[.pointer (some ⟨p,0,none⟩),cx,nm,.int .u8 t,.int .i16 id,.int .u8 (k:Nat)] w fun e w'=>(∃ j,e=.returned (.tuple #[.int .i64 j,.nilIface]))∧∃ S',CP p m og cf c 0 S' { st with last:=id } (l++cHead st.last id (k)) w'∧Step S S' w w':=by
  obtain ⟨c0,c4,-,-,-,-,-,f⟩:=h.read
  have f4:=f 4
  have HI:=Lib.hid h
  have hs0:=Step.refl S w
  have hk255:((k:Int) == 255)=false:=by simp;omega
  have hk255':¬ (k:Int)=255:=by omega
  clear f h
  have hh:cHead st.last id k=[((id - st.last).toNat * 16+k).toUInt8]:=if_pos ⟨hs1,hs2⟩
  obtain ⟨d,hd⟩:∃ d:Nat,id - st.last=d:=⟨(id - st.last).toNat,by omega⟩
  have hor:=or_high d k (by omega) hk
  rw [← hd] at hor
  rw [hd,Int.toNat_natCast] at hh
  have HH:=Lib.hid hh
  have HOR:=Lib.hid hor
  have hd15:d≤15:=by omega
  clear hd hor hh
  go_enter Tryz.func191,Tryz.ntmps191
  go_wp2_with (fail)
  rw [HOR.out]
  ((with_reducible refine (cp_directN HI.out (d * 16+k) (by omega) (by omega)).mono ?_);rintro e W1 ⟨ev,S1,rfl,he,hI1,hs3⟩)
  obtain rfl:=he.zero
  clear he
  have f4':=(hI1.read).2.2.2.2.2.2.2 4
  have c4':=(hI1.read).2.1
  go_wp2
  go_ret2
  rw [HH.out]
  exact ⟨⟨_,rfl⟩,S1,hI1.setLast id,hs0.trans (hs3.trans (hI1.stepSet 4 _))⟩

set_option maxRecDepth 100000 in
set_option maxHeartbeats 1000000 in
theorem cp_field_back {p m:Nat} {og cf:Value} {c:Cfg} {S:List Nat} {st:CSt} {l:List UInt8} {w:World} (h:CP p m og cf c 0 S st l w) (cx nm:Value) (t id:Int) (k:Nat) (hk:k≤15) (h0:-32768≤id) (h1:id < 32768) (hl0:-32768≤st.last) (hl1:st.last < 32768) (hlim:l.length+16≤140737488355328) (hs1:¬ st.last < id) :
    Calls Tryz.prog 191 #[.pointer (some ⟨p,0,none⟩),cx,nm,.int .u8 t,.int .i16 id,.int .u8 (k:Nat)] w fun e w'=>(∃ j,e=.returned (.tuple #[.int .i64 j,.nilIface]))∧∃ S',CP p m og cf c 0 S' { st with last:=id } (l++cHead st.last id (k)) w'∧Step S S' w w':=by
  obtain ⟨c0,c4,-,-,-,-,-,f⟩:=h.read
  have f4:=f 4
  have HI:=Lib.hid h
  have hs0:=Step.refl S w
  have hk255:((k:Int) == 255)=false:=by simp;omega
  have hk255':¬ (k:Int)=255:=by omega
  clear f h
  have hh:cHead st.last id k=k.toUInt8 :: Lib.uvarint (Lib.zigzag id):=if_neg (by omega)
  have HH:=Lib.hid hh
  clear hh
  go_enter Tryz.func191,Tryz.ntmps191
  go_wp2_with (fail)
  ((with_reducible refine (cp_directN HI.out k (by omega) (by omega)).mono ?_);rintro e W1 ⟨ev,S1,rfl,he,hI1,hs3⟩)
  obtain rfl:=he.zero
  clear he
  go_wp2_with (fail)
  ((with_reducible refine (cp_i16' hI1 _ _ h0 h1 (by simp;omega)).mono ?_);rintro e W2 ⟨ev,S2,rfl,he,hI2,hs4⟩)
  obtain rfl:=he.zero
  clear he
  have f4':=(CP.read hI2).2.2.2.2.2.2.2 4
  have c4':=(CP.read hI2).2.1
  go_wp2
  go_ret2
  rw [HH.out]
  refine ⟨⟨_,rfl⟩,S2,?_,hs0.trans (hs3.trans (hs4.trans (CP.stepSet hI2 4 _)))⟩
  have:=CP.setLast hI2 id
  simpa using this

set_option maxRecDepth 100000 in
set_option maxHeartbeats 1000000 in
theorem cp_field_far {p m:Nat} {og cf:Value} {c:Cfg} {S:List Nat} {st:CSt} {l:List UInt8} {w:World} (h:CP p m og cf c 0 S st l w) (cx nm:Value) (t id:Int) (k:Nat) (hk:k≤15) (h0:-32768≤id) (h1:id < 32768) (hl0:-32768≤st.last) (hl1:st.last < 32768) (hlim:l.length+16≤140737488355328) (hs1:st.last < id) (hs2:¬ id - st.last≤15) :
    Calls Tryz.prog 191 #[.pointer (some ⟨p,0,none⟩),cx,nm,.int .u8 t,.int .i16 id,.int .u8 (k:Nat)] w fun e w'=>(∃ j,e=.returned (.tuple #[.int .i64 j,.nilIface]))∧∃ S',CP p m og cf c 0 S' { st with last:=id } (l++cHead st.last id (k)) w'∧Step S S' w w':=by
  obtain ⟨c0,c4,-,-,-,-,-,f⟩:=h.read
  have f4:=f 4
  have HI:=Lib.hid h
  have hs0:=Step.refl S w
  have hk255:((k:Int) == 255)=false:=by simp;omega
  have hk255':¬ (k:Int)=255:=by omega
  clear f h
  have hh:cHead st.last id k=k.toUInt8 :: Lib.uvarint (Lib.zigzag id):=if_neg (by omega)
  have HH:=Lib.hid hh
  clear hh
  go_enter Tryz.func191,Tryz.ntmps191
  go_wp2_with (fail)
  ((with_reducible refine (cp_directN HI.out k (by omega) (by omega)).mono ?_);rintro e W1 ⟨ev,S1,rfl,he,hI1,hs3⟩)
  obtain rfl:=he.zero
  clear he
  go_wp2_with (fail)
  ((with_reducible refine (cp_i16' hI1 _ _ h0 h1 (by simp;omega)).mono ?_);rintro e W2 ⟨ev,S2,rfl,he,hI2,hs4⟩)
  obtain rfl:=he.zero
  clear he
  have f4':=(CP.read hI2).2.2.2.2.2.2.2 4
  have c4':=(CP.read hI2).2.1
  go_wp2
  go_ret2
  rw [HH.out]
  refine ⟨⟨_,rfl⟩,S2,?_,hs0.trans (hs3.trans (hs4.trans (CP.stepSet hI2 4 _)))⟩
  have:=CP.setLast hI2 id
  simpa using this

set_option maxRecDepth 100000 in
set_option maxHeartbeats 1000000 in
theorem cp_field_nearTab {p m:Nat} {og cf:Value} {c:Cfg} {S:List Nat} {st:CSt} {l:List UInt8} {w:World} (h:CP p m og cf c 0 S st l w) (cx nm:Value) (t id:Int) (h0:-32768≤id) (h1:id < 32768) (hl0:-32768≤st.last) (hl1:st.last < 32768) (hlim:l.length+16≤140737488355328) (hs1:st.last < id) (hs2:id - st.last≤15) :
    Calls Tryz.prog 191 #[.pointer (some ⟨p,0,none⟩),cx,nm,.int .u8 t,.int .i16 id,.int .u8 255] w fun e w'=>(∃ j,e=.returned (.tuple #[.int .i64 j,.nilIface]))∧∃ S',CP p m og cf c 0 S' { st with last:=id } (l++cHead st.last id (cCode t)) w'∧Step S S' w w':=by
  obtain ⟨k,hkk⟩:∃ k,k=cCode t:=⟨_,rfl⟩
  have hk:k≤15:=by have:=cCode_le t;omega
  have HT:=Lib.hid (compactType_of (.pointer (some ⟨p,0,none⟩)) t w)
  rw [← hkk] at HT ⊢
  clear hkk
  have HJ:=Lib.hid h
  clear h
  have hh:cHead st.last id k=[((id - st.last).toNat * 16+k).toUInt8]:=if_pos ⟨hs1,hs2⟩
  obtain ⟨d,hd⟩:∃ d:Nat,id - st.last=d:=⟨(id - st.last).toNat,by omega⟩
  have hor:=or_high d k (by omega) hk
  rw [← hd] at hor
  rw [hd,Int.toNat_natCast] at hh
  have HH:=Lib.hid hh
  have HOR:=Lib.hid hor
  have hd15:d≤15:=by omega
  clear hd hor hh
  go_enter Tryz.func191,Tryz.ntmps191
  go_wp2_with (fail)
  ((with_reducible refine HT.out.mono ?_);rintro e W0 ⟨rfl,hb⟩)
  have hs0':Step [] [] w W0:=Step.ofBelow hb
  have hI0:=HJ.out.step hs0' (by simp)
  have hs0:Step S S w W0:=Step.ofBelow hb
  obtain ⟨c0,c4,-,-,-,-,-,f⟩:=hI0.read
  have f4:=f 4
  have HI:=Lib.hid hI0
  clear f hI0 hs0' hb
  go_wp2_with (fail)
  rw [HOR.out]
  ((with_reducible refine (cp_directN HI.out (d * 16+k) (by omega) (by omega)).mono ?_);rintro e W1 ⟨ev,S1,rfl,he,hI1,hs3⟩)
  obtain rfl:=he.zero
  clear he
  have f4':=(hI1.read).2.2.2.2.2.2.2 4
  have c4':=(hI1.read).2.1
  go_wp2
  go_ret2
  rw [HH.out]
  exact ⟨⟨_,rfl⟩,S1,hI1.setLast id,hs0.trans (hs3.trans (hI1.stepSet 4 _))⟩

set_option maxRecDepth 100000 in
set_option maxHeartbeats 1000000 in
theorem cp_field_backTab {p m:Nat} {og cf:Value} {c:Cfg} {S:List Nat} {st:CSt} {l:List UInt8} {w:World} (h:CP p m og cf c 0 S st l w) (cx nm:Value) (t id:Int) (h0:-32768≤id) (h1:id < 32768) (hl0:-32768≤st.last) (hl1:st.last < 32768) (hlim:l.length+16≤140737488355328) (hs1:¬ st.last < id) :
    Calls Tryz.prog 191 #[.pointer (some ⟨p,0,none⟩),cx,nm,.int .u8 t,.int .i16 id,.int .u8 255] w fun e w'=>(∃ j,e=.returned (.tuple #[.int .i64 j,.nilIface]))∧∃ S',CP p m og cf c 0 S' { st with last:=id } (l++cHead st.last id (cCode t)) w'∧Step S S' w w':=by
  obtain ⟨k,hkk⟩:∃ k,k=cCode t:=⟨_,rfl⟩
  have hk:k≤15:=by have:=cCode_le t;omega
  have HT:=Lib.hid (compactType_of (.pointer (some ⟨p,0,none⟩)) t w)
  rw [← hkk] at HT ⊢
  clear hkk
  have HJ:=Lib.hid h
  clear h
  have hh:cHead st.last id k=k.toUInt8 :: Lib.uvarint (Lib.zigzag id):=if_neg (by omega)
  have HH:=Lib.hid hh
  clear hh
  go_enter Tryz.func191,Tryz.ntmps191
  go_wp2_with (fail)
  ((with_reducible refine HT.out.mono ?_);rintro e W0 ⟨rfl,hb⟩)
  have hs0':Step [] [] w W0:=Step.ofBelow hb
  have hI0:=HJ.out.step hs0' (by simp)
  have hs0:Step S S w W0:=Step.ofBelow hb
  obtain ⟨c0,c4,-,-,-,-,-,f⟩:=hI0.read
  have f4:=f 4
  have HI:=Lib.hid hI0
  clear f hI0 hs0' hb
  go_wp2_with (fail)
  ((with_reducible refine (cp_directN HI.out k (by omega) (by omega)).mono ?_);rintro e W1 ⟨ev,S1,rfl,he,hI1,hs3⟩)
  obtain rfl:=he.zero
  clear he
  go_wp2_with (fail)
  ((with_reducible refine (cp_i16' hI1 _ _ h0 h1 (by simp;omega)).mono ?_);rintro e W2 ⟨ev,S2,rfl,he,hI2,hs4⟩)
  obtain rfl:=he.zero
  clear he
  have f4':=(CP.read hI2).2.2.2.2.2.2.2 4
  have c4':=(CP.read hI2).2.1
  go_wp2
  go_ret2
  rw [HH.out]
  refine ⟨⟨_,rfl⟩,S2,?_,hs0.trans (hs3.trans (hs4.trans (CP.stepSet hI2 4 _)))⟩
  have:=CP.setLast hI2 id
  simpa using this

set_option maxRecDepth 100000 in
set_option maxHeartbeats 1000000 in
theorem cp_field_farTab {p m:Nat} {og cf:Value} {c:Cfg} {S:List Nat} {st:CSt} {l:List UInt8} {w:World} (h:CP p m og cf c 0 S st l w) (cx nm:Value) (t id:Int) (h0:-32768≤id) (h1:id < 32768) (hl0:-32768≤st.last) (hl1:st.last < 32768) (hlim:l.length+16≤140737488355328) (hs1:st.last < id) (hs2:¬ id - st.last≤15) :
    Calls Tryz.prog 191 #[.pointer (some ⟨p,0,none⟩),cx,nm,.int .u8 t,.int .i16 id,.int .u8 255] w fun e w'=>(∃ j,e=.returned (.tuple #[.int .i64 j,.nilIface]))∧∃ S',CP p m og cf c 0 S' { st with last:=id } (l++cHead st.last id (cCode t)) w'∧Step S S' w w':=by
  obtain ⟨k,hkk⟩:∃ k,k=cCode t:=⟨_,rfl⟩
  have hk:k≤15:=by have:=cCode_le t;omega
  have HT:=Lib.hid (compactType_of (.pointer (some ⟨p,0,none⟩)) t w)
  rw [← hkk] at HT ⊢
  clear hkk
  have HJ:=Lib.hid h
  clear h
  have hh:cHead st.last id k=k.toUInt8 :: Lib.uvarint (Lib.zigzag id):=if_neg (by omega)
  have HH:=Lib.hid hh
  clear hh
  go_enter Tryz.func191,Tryz.ntmps191
  go_wp2_with (fail)
  ((with_reducible refine HT.out.mono ?_);rintro e W0 ⟨rfl,hb⟩)
  have hs0':Step [] [] w W0:=Step.ofBelow hb
  have hI0:=HJ.out.step hs0' (by simp)
  have hs0:Step S S w W0:=Step.ofBelow hb
  obtain ⟨c0,c4,-,-,-,-,-,f⟩:=hI0.read
  have f4:=f 4
  have HI:=Lib.hid hI0
  clear f hI0 hs0' hb
  go_wp2_with (fail)
  ((with_reducible refine (cp_directN HI.out k (by omega) (by omega)).mono ?_);rintro e W1 ⟨ev,S1,rfl,he,hI1,hs3⟩)
  obtain rfl:=he.zero
  clear he
  go_wp2_with (fail)
  ((with_reducible refine (cp_i16' hI1 _ _ h0 h1 (by simp;omega)).mono ?_);rintro e W2 ⟨ev,S2,rfl,he,hI2,hs4⟩)
  obtain rfl:=he.zero
  clear he
  have f4':=(CP.read hI2).2.2.2.2.2.2.2 4
  have c4':=(CP.read hI2).2.1
  go_wp2
  go_ret2
  rw [HH.out]
  refine ⟨⟨_,rfl⟩,S2,?_,hs0.trans (hs3.trans (hs4.trans (CP.stepSet hI2 4 _)))⟩
  have:=CP.setLast hI2 id
  simpa using this

theorem cp_field {p m:Nat} {og cf:Value} {c:Cfg} {S:List Nat} {st:CSt} {l:List UInt8} {w:World} (h:CP p m og cf c 0 S st l w) (cx nm:Value) (t id:Int) (k:Nat) (hk:k≤15) (h0:-32768≤id) (h1:id < 32768) (hl0:-32768≤st.last) (hl1:st.last < 32768) (hlim:l.length+16≤140737488355328) :
    Calls Tryz.prog 191 #[.pointer (some ⟨p,0,none⟩),cx,nm,.int .u8 t,.int .i16 id,.int .u8 (k:Nat)] w fun e w'=>(∃ j,e=.returned (.tuple #[.int .i64 j,.nilIface]))∧∃ S',CP p m og cf c 0 S' { st with last:=id } (l++cHead st.last id (k)) w'∧Step S S' w w':=by
  by_cases hs1:st.last < id
  · by_cases hs2:id - st.last≤15
    · exact cp_field_near h cx nm t id k hk h0 h1 hl0 hl1 hlim hs1 hs2
    · exact cp_field_far h cx nm t id k hk h0 h1 hl0 hl1 hlim hs1 hs2
  · exact cp_field_back h cx nm t id k hk h0 h1 hl0 hl1 hlim hs1

theorem cp_fieldTab {p m:Nat} {og cf:Value} {c:Cfg} {S:List Nat} {st:CSt} {l:List UInt8} {w:World} (h:CP p m og cf c 0 S st l w) (cx nm:Value) (t id:Int) (h0:-32768≤id) (h1:id < 32768) (hl0:-32768≤st.last) (hl1:st.last < 32768) (hlim:l.length+16≤140737488355328) :
    Calls Tryz.prog 191 #[.pointer (some ⟨p,0,none⟩),cx,nm,.int .u8 t,.int .i16 id,.int .u8 255] w fun e w'=>(∃ j,e=.returned (.tuple #[.int .i64 j,.nilIface]))∧∃ S',CP p m og cf c 0 S' { st with last:=id } (l++cHead st.last id (cCode t)) w'∧Step S S' w w':=by
  by_cases hs1:st.last < id
  · by_cases hs2:id - st.last≤15
    · exact cp_field_nearTab h cx nm t id h0 h1 hl0 hl1 hlim hs1 hs2
    · exact cp_field_farTab h cx nm t id h0 h1 hl0 hl1 hlim hs1 hs2
  · exact cp_field_backTab h cx nm t id h0 h1 hl0 hl1 hlim hs1

end Go.Proofs.YtmjcnomgpikncaaGreatDoor
