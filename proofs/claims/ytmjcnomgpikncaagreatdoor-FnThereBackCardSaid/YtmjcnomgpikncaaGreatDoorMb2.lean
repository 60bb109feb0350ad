/- known: it returns true. No condition. -/
import Derived.Test.YtmjcnomgpikncaaGreatDoorMb1
import Derived.Test.YtmjcnomgpikncaaGreatDoorMa3
set_option linter.unusedVariables false
set_option linter.unusedSimpArgs false
namespace Go.Proofs.YtmjcnomgpikncaaGreatDoor

open Go.RowKit Go.Deep



abbrev confPlain (proto:Int):Value:=.agg #[.int .i64 proto,.bool true,.bool false,.bool false,.int .i32 0,.int .i32 0,.int .i32 0]

theorem mem_isRich (m:Nat) (w:World):(Instr.typeAssert (memV m) 150 217 true).run Tryz.prog w=.ok (.tuple #[memV m,.bool true]) w:=by kernel_rfl

theorem zeroBin:∃ sc:List Value,Tryz.zeroCells228=(.nilIface :: .nilIface :: .pointer none :: sc).toArray∧sc.length=64∧∀ v∈sc,v.oneCell'=true :=
  ⟨List.replicate 64 (.int .u8 0),by kernel_rfl,by simp,fun v hv=>by rw [(List.mem_replicate.1 hv).2];rfl⟩

set_option maxRecDepth 100000 in
set_option maxHeartbeats 2000000 in
theorem protocol_bin (m b g off:Nat) (bs:List Value) (w:World) (h:Mem m b g off bs w) :
    Calls Tryz.prog 45 #[confPlain 0,memV m] w fun e w'=>∃ p sc,e=.returned (.iface 155 (.pointer (some ⟨p,0,none⟩)))∧w.heap.size≤p ∧
      Bin p (memV m) (memV m) (.pointer none) sc w'∧Below w.heap.size w w':=by
  have hta:=mem_isRich
  go_enter Tryz.func45,Tryz.ntmps45
  go_wp2
  refine bodyPost_ret (results_none rfl _ _ _) rfl ?_
  go_wp2
  go_ret
  obtain ⟨sc,hz,hl,h1⟩:=zeroBin
  refine ⟨w.heap.size+1+1,sc,rfl,by omega,⟨?_,hl,h1⟩,?_⟩
  · refine (heap_alloc_at (by simp) _).trans ?_
    rw [hz];simp
  · exact (((Below.refl _ _).alloc (by simp) _).alloc (by simp <;> omega) _).alloc (by simp <;> omega) _

def CS0:CS:={ lf:=.slice none 0 0,last:=0,nm:=.string ByteArray.empty,bid:=0,bp:=false,bv:=false,bn:=false }

theorem zeroCmp:∃ sc:List Value,Tryz.zeroCells220=(CS.row .nilIface .nilIface (.pointer none) CS0 sc).toArray∧sc.length=64∧∀ v∈sc,v.oneCell'=true :=
  ⟨List.replicate 64 (.int .u8 0),by kernel_rfl,by simp,fun v hv=>by rw [(List.mem_replicate.1 hv).2];rfl⟩

set_option maxRecDepth 100000 in
set_option maxHeartbeats 2000000 in
theorem protocol_cmp (m b g off:Nat) (bs:List Value) (w:World) (h:Mem m b g off bs w) :
    Calls Tryz.prog 45 #[confPlain 1,memV m] w fun e w'=>∃ p sc,e=.returned (.iface 151 (.pointer (some ⟨p,0,none⟩)))∧w.heap.size≤p ∧
      Cmp p (memV m) (memV m) (.pointer none) CS0 sc w'∧Below w.heap.size w w':=by
  have hta:=mem_isRich
  go_enter Tryz.func45,Tryz.ntmps45
  go_wp2
  refine bodyPost_ret (results_none rfl _ _ _) rfl ?_
  go_wp2
  go_ret
  obtain ⟨sc,hz,hl,h1⟩:=zeroCmp
  refine ⟨w.heap.size+1+1,sc,rfl,by omega,⟨?_,hl,h1⟩,?_⟩
  · refine (heap_alloc_at (by simp) _).trans ?_
    rw [hz];simp [CS.row]
  · exact (((Below.refl _ _).alloc (by simp) _).alloc (by simp <;> omega) _).alloc (by simp <;> omega) _

abbrev binV (p:Nat):Value:=.iface 155 (.pointer (some ⟨p,0,none⟩))

abbrev cmpV (p:Nat):Value:=.iface 151 (.pointer (some ⟨p,0,none⟩))

theorem bin_m_WriteI32 (k p:Nat) (w:World):(method (k+1) 155 (.pointer (some ⟨p,0,none⟩)) "WriteI32").run Tryz.prog w=.ok (237,.pointer (some ⟨p,0,none⟩)) w:=by kernel_rfl

theorem bin_n_WriteI32 (k p:Nat) (w:World):(nilAhead (k+1) 155 (.pointer (some ⟨p,0,none⟩)) "WriteI32").run Tryz.prog w=.ok (some false) w:=by kernel_rfl

theorem cmp_m_WriteI32 (k p:Nat) (w:World):(method (k+1) 151 (.pointer (some ⟨p,0,none⟩)) "WriteI32").run Tryz.prog w=.ok (162,.pointer (some ⟨p,0,none⟩)) w:=by kernel_rfl

theorem cmp_n_WriteI32 (k p:Nat) (w:World):(nilAhead (k+1) 151 (.pointer (some ⟨p,0,none⟩)) "WriteI32").run Tryz.prog w=.ok (some false) w:=by kernel_rfl

theorem ctx_any (w:World):Calls Tryz.prog 53 #[] w fun e w'=>e=.returned ctxV∧w=w':=by
  go_enter Tryz.func53,Tryz.ntmps53
  go_wp2
  go_ret
  exact ⟨rfl,rfl⟩

abbrev i32V (n:Int):Value:=.agg #[.int .i64 8,.int .i64 n,.slice none 0 0,.int .i64 0,.int .i64 0,.slice none 0 0,.slice none 0 0]

end Go.Proofs.YtmjcnomgpikncaaGreatDoor

namespace Go.Proofs.YtmjcnomgpikncaaGreatDoor

open Go.RowKit Go.Deep



set_option maxRecDepth 100000 in
set_option maxHeartbeats 4000000 in
theorem put_bin_i32 (p m b g:Nat) (og cf:Value) (sc:List Value) (l:List UInt8) (x:Int) (w:World) (hp:Bin p (memV m) og cf sc w) (h:Mem m b g 0 (Lib.byteCells l) w) (hpm:p≠m) (hpb:p≠b) (hpg:p≠g) (h0:-2147483648≤x) (h1:x < 2147483648)
    (hlim:l.length+4≤140737488355328) :
    Calls Tryz.prog 44 #[binV p,i32V x] w fun e w'=>e=.returned .nilIface∧∃ g1 sc1,Bin p (memV m) og cf sc1 w'∧Mem m b g1 0 (Lib.byteCells (l++Lib.beBytes 4 (x % 4294967296).toNat)) w'∧Step [p,b,g] [p,b,g1] w w':=by
  have hmeth:=bin_m_WriteI32
  have hnil:=bin_n_WriteI32
  have hc:=ctx_any
  have ha:∀ c,Bin p (memV m) og cf sc (w.alloc c).drew:=fun c=>Bin.drewN (hp.alloc c) 1
  have hb:∀ c,Mem m b g 0 (Lib.byteCells l) (w.alloc c).drew:=fun c=>Mem.drewN (h.alloc c) 1
  have hs0:∀ c,Step [p,b,g] [p,b,g] w (w.alloc c).drew:=fun c=>((Step.refl _ _).alloc c).drew
  have hpl:=hp.lt
  have hbl:=h.2.2.2.lt
  have HA:=Lib.hid ha
  have HB:=Lib.hid hb
  have HS:=Lib.hid hs0
  have HL:=Lib.hid (show (Lib.byteCells l).length+4≤140737488355328 by simp only [Lib.byteCells_length];omega)
  have hwrap:IntKind.i32.wrap x=x:=by rw [IntKind.wrap_i32];omega
  clear ha hb hs0
  go_enter Tryz.func44,Tryz.ntmps44
  go_wp2_with (first | (go_at_call 50;go_in))
  go_region_held3 (fun W'=>W'.cell? ⟨w.heap.size,1,none⟩=some (.int .i64 x)) (first | assumption | (simp [go_sem]))
    (first
      | (go_at_call 53;refine (hc _).mono ?_;rintro e w' ⟨rfl,rfl⟩)
      | (go_at_call 237;refine (bin_writeI32 p m b g og cf sc (Lib.byteCells l) ctxV x _ ?_ ?_ hpm hpb hpg (Lib.byteCells_one _) HL.out).mono ?_;exact HA.out _;exact HB.out _;rintro e W1 ⟨rfl,g1,sc1,hP,hM,hs⟩;have hx1:=(hs.cell (p:=⟨w.heap.size,1,none⟩) (by simp) (by simp;omega)).trans (cell_heap (heap_alloc_new _ _) 1)))
  all_goals go_wp2
  all_goals go_ret
  all_goals (
    refine ⟨rfl,g1,sc1,hP,?_,(HS.out _).trans (hs.more (by simp) ?_)⟩
    · rw [Lib.byteCells_append];exact hM
    · intro k hk
      simp only [List.mem_cons,List.not_mem_nil,or_false] at hk ⊢
      omega)

end Go.Proofs.YtmjcnomgpikncaaGreatDoor

namespace Go.Proofs.YtmjcnomgpikncaaGreatDoor

open Go.RowKit Go.Deep



set_option maxRecDepth 100000 in
set_option maxHeartbeats 4000000 in
theorem put_cmp_i32 (p m b g:Nat) (og cf:Value) (s:CS) (sc:List Value) (l:List UInt8) (x:Int) (w:World) (hp:Cmp p (memV m) og cf s sc w) (h:Mem m b g 0 (Lib.byteCells l) w) (hpm:p≠m) (hpb:p≠b) (hpg:p≠g) (h0:-2147483648≤x) (h1:x < 2147483648)
    (hlim:l.length+5≤140737488355328) :
    Calls Tryz.prog 44 #[cmpV p,i32V x] w fun e w'=>e=.returned .nilIface∧∃ g1 sc1,Cmp p (memV m) og cf s sc1 w'∧Mem m b g1 0 (Lib.byteCells (l++Lib.uvarint (Lib.zigzag x))) w'∧Step [p,b,g] [p,b,g1] w w':=by
  have hmeth:=cmp_m_WriteI32
  have hnil:=cmp_n_WriteI32
  have hc:=ctx_any
  have ha:∀ c,Cmp p (memV m) og cf s sc (w.alloc c).drew:=fun c=>Cmp.drewN (hp.alloc c) 1
  have hb:∀ c,Mem m b g 0 (Lib.byteCells l) (w.alloc c).drew:=fun c=>Mem.drewN (h.alloc c) 1
  have hs0:∀ c,Step [p,b,g] [p,b,g] w (w.alloc c).drew:=fun c=>((Step.refl _ _).alloc c).drew
  have hpl:=hp.lt
  have hbl:=h.2.2.2.lt
  have HA:=Lib.hid ha
  have HB:=Lib.hid hb
  have HS:=Lib.hid hs0
  have hwrap:IntKind.i32.wrap x=x:=by rw [IntKind.wrap_i32];omega
  clear ha hb hs0
  go_enter Tryz.func44,Tryz.ntmps44
  go_wp2_with (first | (go_at_call 50;go_in))
  go_region_held3 (fun W'=>W'.cell? ⟨w.heap.size,1,none⟩=some (.int .i64 x)) (first | assumption | (simp [go_sem]))
    (first
      | (go_at_call 53;refine (hc _).mono ?_;rintro e w' ⟨rfl,rfl⟩)
      | (go_at_call 162;refine (cmp_writeI32 p m b g og cf s sc l ctxV x _ ?_ ?_ hpm hpb hpg h0 h1 hlim).mono ?_;exact HA.out _;exact HB.out _;rintro e W1 ⟨rfl,g1,sc1,hP,hM,hs⟩;have hx1:=(hs.cell (p:=⟨w.heap.size,1,none⟩) (by simp) (by simp;omega)).trans (cell_heap (heap_alloc_new _ _) 1)))
  all_goals go_wp2
  all_goals go_ret
  all_goals (
    refine ⟨rfl,g1,sc1,hP,?_,(HS.out _).trans (hs.more (by simp) ?_)⟩
    · exact hM
    · intro k hk
      simp only [List.mem_cons,List.not_mem_nil,or_false] at hk ⊢
      omega)

end Go.Proofs.YtmjcnomgpikncaaGreatDoor

namespace Go.Proofs.YtmjcnomgpikncaaGreatDoor

open Go.RowKit Go.Deep



theorem below_drewN {B:Nat} {a w:World} (h:Below B a w) (n:Nat):Below B a (w.drewN n):=⟨h.os,h.tape,h.output,h.size,h.block⟩

theorem kind_nil (w:World):Calls Tryz.prog 47 #[.nilIface] w fun e w'=>e=.returned (.int .i64 0)∧w=w':=by
  go_enter Tryz.func47,Tryz.ntmps47
  go_wp2
  go_ret
  exact ⟨rfl,rfl⟩

theorem newMem (w:World):Calls Tryz.prog 43 #[] w fun e w'=>∃ m b,e=.returned (.pointer (some ⟨m,0,none⟩))∧w.heap.size≤m∧w.heap.size≤b∧Mem m b b 0 [] w'∧Below w.heap.size w w':=by
  go_enter Tryz.func43,Tryz.ntmps43
  go_wp2
  go_ret
  refine ⟨w.heap.size+1,w.heap.size,rfl,by omega,by omega,⟨⟨0,?_⟩,by omega,by omega,0,.inl ⟨?_,rfl,rfl,rfl⟩⟩,?_⟩
  · exact heap_alloc_at (by simp) _
  · exact heap_alloc_old (heap_alloc_new _ _) _
  · exact ((Below.refl _ _).alloc (by simp) _).alloc (by simp <;> omega) _

set_option maxRecDepth 100000 in
set_option maxHeartbeats 4000000 in
theorem holding_any (n c:Nat) (cs:List Value) (a:Addr) (w:World) (hn:cs.length=n) (hal:a.block < w.heap.size) (hsrc:∀ j v,cs[j]?=some v→w.cell? (a.add j)=some v) (h1c:∀ v∈cs,v.oneCell'=true) (hn1:1≤n) (hlim:n≤140737488355328) :
    Calls Tryz.prog 48 #[.slice (some a) n c] w fun e w'=>∃ m b g,e=.returned (.pointer (some ⟨m,0,none⟩))∧w.heap.size≤m∧w.heap.size≤b∧w.heap.size≤g∧Mem m b g 0 cs w'∧Below w.heap.size w w':=by
  go_enter Tryz.func48,Tryz.ntmps48
  go_wp2_with (go_at_call 43;refine (newMem _).mono ?_)
  rintro e W1 ⟨m,b,rfl,hm,hb,hM,hB⟩
  have cm:=hM.cell
  have hsrc1:∀ j v,cs[j]?=some v→W1.cell? (a.add j)=some v:=fun j v hj=>(World.cell?_of_block (w:=w) (a:=a.add j) (hB.block _ (by rw [Lib.block_add];exact hal))).trans (hsrc j v hj)
  have HS:=Lib.hid hsrc1
  have hbk:=hB.size
  clear hsrc hsrc1
  go_wp2_with (go_at_call 72;refine (buf_write b b n c [] cs a _ hM.2.2.2 (by simp) hn (by omega) (by omega) (by omega) HS.out h1c hn1 (by simpa using hlim)).mono ?_)
  rintro e W2 ⟨rfl,g1,hU,hs⟩
  go_wp2
  go_ret
  refine ⟨m,b,g1,rfl,hm,hb,?_,by simpa using hM.turn hU hs,hB.trans (hs.below _ hbk (by simp [hb]))⟩
  rcases hs.own g1 (by simp) with hh | hh
  · simp only [List.mem_cons,List.not_mem_nil,or_false,or_self] at hh
    omega
  · omega

end Go.Proofs.YtmjcnomgpikncaaGreatDoor

namespace Go.Proofs.YtmjcnomgpikncaaGreatDoor

open Go.RowKit Go.Deep



theorem boxes_bin (x:Int) (w W':World) (h:Below ((w.alloc (.cells #[.int .i64 0,.bool true,.bool false,.bool false,.int .i32 0,.int .i32 0,.int .i32 0] 23)).alloc (.cells #[.int .i64 8,.int .i64 x,.slice none 0 0,.int .i64 0,.int .i64 0,.slice none 0 0,.slice none 0 0] 28)).heap.size ((w.alloc (.cells #[.int .i64 0,.bool true,.bool false,.bool false,.int .i32 0,.int .i32 0,.int .i32 0] 23)).alloc (.cells #[.int .i64 8,.int .i64 x,.slice none 0 0,.int .i64 0,.int .i64 0,.slice none 0 0,.slice none 0 0] 28)) W') :
    W'.cell? ⟨w.heap.size,0,none⟩=some (.int .i64 0)∧W'.cell? ⟨w.heap.size,1,none⟩=some (.bool true)∧W'.cell? ⟨w.heap.size,2,none⟩=some (.bool false)∧W'.cell? ⟨w.heap.size,3,none⟩=some (.bool false)∧W'.cell? ⟨w.heap.size,4,none⟩=some (.int .i32 0)∧W'.cell? ⟨w.heap.size,5,none⟩=some (.int .i32 0)∧W'.cell? ⟨w.heap.size,6,none⟩=some (.int .i32 0)∧W'.cell? ⟨w.heap.size+1,0,none⟩=some (.int .i64 8)∧W'.cell? ⟨w.heap.size+1,1,none⟩=some (.int .i64 x)∧W'.cell? ⟨w.heap.size+1,2,none⟩=some (.slice none 0 0)∧W'.cell? ⟨w.heap.size+1,3,none⟩=some (.int .i64 0)∧W'.cell? ⟨w.heap.size+1,4,none⟩=some (.int .i64 0)∧W'.cell? ⟨w.heap.size+1,5,none⟩=some (.slice none 0 0)∧W'.cell? ⟨w.heap.size+1,6,none⟩=some (.slice none 0 0):=by
  refine ⟨?_,?_,?_,?_,?_,?_,?_,?_,?_,?_,?_,?_,?_,?_⟩ <;> (refine (World.cell?_of_block (h.block _ (by simp <;> omega))).trans ?_;simp)

set_option maxRecDepth 100000 in
set_option maxHeartbeats 8000000 in
theorem Put_bin (x:Int) (w:World) (h0:-2147483648≤x) (h1:x < 2147483648) :
    Calls Tryz.prog 17 #[confPlain 0,i32V x] w fun e w'=>∃ v k,e=.returned (.tuple #[v,.int .i64 0])∧w.heap.size≤k∧IsB (Lib.byteCells (Lib.beBytes 4 (x % 4294967296).toNat)) v k w'∧Below w.heap.size w w':=by
  go_enter Tryz.func17,Tryz.ntmps17
  go_wp2_with (go_at_call 43;refine (newMem _).mono ?_)
  rintro e W1 ⟨m,b,rfl,hm,hb,hM,hB⟩
  have HA:=Lib.hid (boxes_bin x w)
  have HM:=Lib.hid hM
  have HB:=Lib.hid hB
  have hml:=hM.lt
  have hbl:=hM.2.2.2.lt.1
  have hbs:=hB.size
  clear hM hB
  go_wp2_with (fail)
  go_region_held3 (fun W'=>W'.cell? ⟨w.heap.size,0,none⟩=some (.int .i64 0)∧W'.cell? ⟨w.heap.size,1,none⟩=some (.bool true)∧W'.cell? ⟨w.heap.size,2,none⟩=some (.bool false)∧W'.cell? ⟨w.heap.size,3,none⟩=some (.bool false)∧W'.cell? ⟨w.heap.size,4,none⟩=some (.int .i32 0)∧W'.cell? ⟨w.heap.size,5,none⟩=some (.int .i32 0)∧W'.cell? ⟨w.heap.size,6,none⟩=some (.int .i32 0)∧W'.cell? ⟨w.heap.size+1,0,none⟩=some (.int .i64 8)∧W'.cell? ⟨w.heap.size+1,1,none⟩=some (.int .i64 x)∧W'.cell? ⟨w.heap.size+1,2,none⟩=some (.slice none 0 0)∧W'.cell? ⟨w.heap.size+1,3,none⟩=some (.int .i64 0)∧W'.cell? ⟨w.heap.size+1,4,none⟩=some (.int .i64 0)∧W'.cell? ⟨w.heap.size+1,5,none⟩=some (.slice none 0 0)∧W'.cell? ⟨w.heap.size+1,6,none⟩=some (.slice none 0 0)) (first | (exact HA.out _ HB.out) | (exact HA.out _ HB.out.drew) | (exact HA.out _ HB2.out) | (exact HA.out _ HB3.out) | assumption)
    (first
      | (go_at_call 45;refine (protocol_bin m b b 0 [] _ ?_).mono ?_;exact HM.out;rintro e W2 ⟨p,sc,rfl,hp,hP,hB2⟩;have HB2:=Lib.hid (HB.out.drew.trans (hB2.mono hbs));have HM2:=Lib.hid (Mem.step (show Mem m b b 0 [] W1.drew from HM.out) (Step.ofBelow (S:=[]) hB2) (by simp) (by simp) (by simp));have HP2:=Lib.hid hP;have hpl:W1.heap.size≤p:=hp;clear hB2 hP hp)
      | (go_at_call 44;refine (put_bin_i32 p m b b (memV m) (.pointer none) sc [] x _ ?_ ?_ (by omega) (by omega) (by omega) h0 h1 (by simp)).mono ?_;exact HP2.out;exact HM2.out;rintro e W3 ⟨rfl,g1,sc1,hP,hM,hs⟩;have HB3:=Lib.hid (HB2.out.trans (hs.below _ HB2.out.size (by intro k hk;simp only [List.mem_cons,List.not_mem_nil,or_false] at hk;omega)));have HM3:=Lib.hid hM;have hg1:=hs.own g1 (by simp);clear hs hM hP))
  have cm3:=HM3.out.cell
  go_wp2_with (go_at_call 46;refine (buf_bytes b g1 _ _ HM3.out.2.2.2).mono ?_)
  rintro e W4 ⟨v,rfl,hv,n,rfl⟩
  go_wp2_with (go_at_call 47;refine (kind_nil _).mono ?_;rintro e w' ⟨rfl,rfl⟩)
  go_ret2
  have hB4:=below_drewN HB3.out n
  refine ⟨v,g1,rfl,?_,by simpa using hv,?_⟩
  · simp at hm hb hbs hpl
    rcases hg1 with hh | hh
    · simp only [List.mem_cons,List.not_mem_nil,or_false] at hh
      omega
    · have:=HB2.out.size
      simp at this
      omega
  · exact (((Below.refl _ w).alloc (Nat.le_refl _) _).alloc (by simp) _).trans (hB4.mono (by simp <;> omega))

theorem boxes_cmp (x:Int) (w W':World) (h:Below ((w.alloc (.cells #[.int .i64 1,.bool true,.bool false,.bool false,.int .i32 0,.int .i32 0,.int .i32 0] 23)).alloc (.cells #[.int .i64 8,.int .i64 x,.slice none 0 0,.int .i64 0,.int .i64 0,.slice none 0 0,.slice none 0 0] 28)).heap.size ((w.alloc (.cells #[.int .i64 1,.bool true,.bool false,.bool false,.int .i32 0,.int .i32 0,.int .i32 0] 23)).alloc (.cells #[.int .i64 8,.int .i64 x,.slice none 0 0,.int .i64 0,.int .i64 0,.slice none 0 0,.slice none 0 0] 28)) W') :
    W'.cell? ⟨w.heap.size,0,none⟩=some (.int .i64 1)∧W'.cell? ⟨w.heap.size,1,none⟩=some (.bool true)∧W'.cell? ⟨w.heap.size,2,none⟩=some (.bool false)∧W'.cell? ⟨w.heap.size,3,none⟩=some (.bool false)∧W'.cell? ⟨w.heap.size,4,none⟩=some (.int .i32 0)∧W'.cell? ⟨w.heap.size,5,none⟩=some (.int .i32 0)∧W'.cell? ⟨w.heap.size,6,none⟩=some (.int .i32 0)∧W'.cell? ⟨w.heap.size+1,0,none⟩=some (.int .i64 8)∧W'.cell? ⟨w.heap.size+1,1,none⟩=some (.int .i64 x)∧W'.cell? ⟨w.heap.size+1,2,none⟩=some (.slice none 0 0)∧W'.cell? ⟨w.heap.size+1,3,none⟩=some (.int .i64 0)∧W'.cell? ⟨w.heap.size+1,4,none⟩=some (.int .i64 0)∧W'.cell? ⟨w.heap.size+1,5,none⟩=some (.slice none 0 0)∧W'.cell? ⟨w.heap.size+1,6,none⟩=some (.slice none 0 0):=by
  refine ⟨?_,?_,?_,?_,?_,?_,?_,?_,?_,?_,?_,?_,?_,?_⟩ <;> (refine (World.cell?_of_block (h.block _ (by simp <;> omega))).trans ?_;simp)

set_option maxRecDepth 100000 in
set_option maxHeartbeats 8000000 in
theorem Put_cmp (x:Int) (w:World) (h0:-2147483648≤x) (h1:x < 2147483648) :
    Calls Tryz.prog 17 #[confPlain 1,i32V x] w fun e w'=>∃ v k,e=.returned (.tuple #[v,.int .i64 0])∧w.heap.size≤k∧IsB (Lib.byteCells (Lib.uvarint (Lib.zigzag x))) v k w'∧Below w.heap.size w w':=by
  go_enter Tryz.func17,Tryz.ntmps17
  go_wp2_with (go_at_call 43;refine (newMem _).mono ?_)
  rintro e W1 ⟨m,b,rfl,hm,hb,hM,hB⟩
  have HA:=Lib.hid (boxes_cmp x w)
  have HM:=Lib.hid hM
  have HB:=Lib.hid hB
  have hml:=hM.lt
  have hbl:=hM.2.2.2.lt.1
  have hbs:=hB.size
  clear hM hB
  go_wp2_with (fail)
  go_region_held3 (fun W'=>W'.cell? ⟨w.heap.size,0,none⟩=some (.int .i64 1)∧W'.cell? ⟨w.heap.size,1,none⟩=some (.bool true)∧W'.cell? ⟨w.heap.size,2,none⟩=some (.bool false)∧W'.cell? ⟨w.heap.size,3,none⟩=some (.bool false)∧W'.cell? ⟨w.heap.size,4,none⟩=some (.int .i32 0)∧W'.cell? ⟨w.heap.size,5,none⟩=some (.int .i32 0)∧W'.cell? ⟨w.heap.size,6,none⟩=some (.int .i32 0)∧W'.cell? ⟨w.heap.size+1,0,none⟩=some (.int .i64 8)∧W'.cell? ⟨w.heap.size+1,1,none⟩=some (.int .i64 x)∧W'.cell? ⟨w.heap.size+1,2,none⟩=some (.slice none 0 0)∧W'.cell? ⟨w.heap.size+1,3,none⟩=some (.int .i64 0)∧W'.cell? ⟨w.heap.size+1,4,none⟩=some (.int .i64 0)∧W'.cell? ⟨w.heap.size+1,5,none⟩=some (.slice none 0 0)∧W'.cell? ⟨w.heap.size+1,6,none⟩=some (.slice none 0 0)) (first | (exact HA.out _ HB.out) | (exact HA.out _ HB.out.drew) | (exact HA.out _ HB2.out) | (exact HA.out _ HB3.out) | assumption)
    (first
      | (go_at_call 45;refine (protocol_cmp m b b 0 [] _ ?_).mono ?_;exact HM.out;rintro e W2 ⟨p,sc,rfl,hp,hP,hB2⟩;have HB2:=Lib.hid (HB.out.drew.trans (hB2.mono hbs));have HM2:=Lib.hid (Mem.step (show Mem m b b 0 [] W1.drew from HM.out) (Step.ofBelow (S:=[]) hB2) (by simp) (by simp) (by simp));have HP2:=Lib.hid hP;have hpl:W1.heap.size≤p:=hp;clear hB2 hP hp)
      | (go_at_call 44;refine (put_cmp_i32 p m b b (memV m) (.pointer none) CS0 sc [] x _ ?_ ?_ (by omega) (by omega) (by omega) h0 h1 (by simp)).mono ?_;exact HP2.out;exact HM2.out;rintro e W3 ⟨rfl,g1,sc1,hP,hM,hs⟩;have HB3:=Lib.hid (HB2.out.trans (hs.below _ HB2.out.size (by intro k hk;simp only [List.mem_cons,List.not_mem_nil,or_false] at hk;omega)));have HM3:=Lib.hid hM;have hg1:=hs.own g1 (by simp);clear hs hM hP))
  have cm3:=HM3.out.cell
  go_wp2_with (go_at_call 46;refine (buf_bytes b g1 _ _ HM3.out.2.2.2).mono ?_)
  rintro e W4 ⟨v,rfl,hv,n,rfl⟩
  go_wp2_with (go_at_call 47;refine (kind_nil _).mono ?_;rintro e w' ⟨rfl,rfl⟩)
  go_ret2
  have hB4:=below_drewN HB3.out n
  refine ⟨v,g1,rfl,?_,by simpa using hv,?_⟩
  · simp at hm hb hbs hpl
    rcases hg1 with hh | hh
    · simp only [List.mem_cons,List.not_mem_nil,or_false] at hh
      omega
    · have:=HB2.out.size
      simp at this
      omega
  · exact (((Below.refl _ w).alloc (Nat.le_refl _) _).alloc (by simp) _).trans (hB4.mono (by simp <;> omega))

end Go.Proofs.YtmjcnomgpikncaaGreatDoor

namespace Go.Proofs.YtmjcnomgpikncaaGreatDoor

open Go.RowKit Go.Deep



theorem bin_m_ReadI32 (k p:Nat) (w:World):(method (k+1) 155 (.pointer (some ⟨p,0,none⟩)) "ReadI32").run Tryz.prog w=.ok (212,.pointer (some ⟨p,0,none⟩)) w:=by kernel_rfl

theorem bin_n_ReadI32 (k p:Nat) (w:World):(nilAhead (k+1) 155 (.pointer (some ⟨p,0,none⟩)) "ReadI32").run Tryz.prog w=.ok (some false) w:=by kernel_rfl

abbrev gotN (n:Int):Value:=.agg #[.int .i64 0,.int .i64 0,.int .i64 0,.int .i64 0,.int .i64 0,.int .i64 n,.slice none 0 0]

abbrev stepV (k:Int):Value:=.agg #[.int .i64 k,.int .i64 0,.int .i64 0,.int .i64 0,.int .i64 0,.int .i64 0,.slice none 0 0]

set_option maxRecDepth 100000 in
set_option maxHeartbeats 4000000 in
theorem read_bin_i32 (p m b g off:Nat) (og cf:Value) (sc:List Value) (b0 b1 b2 b3:UInt8) (l:List UInt8) (w:World) (hp:Bin p (memV m) og cf sc w) (h:Mem m b g off (Lib.byteCells (b0 :: b1 :: b2 :: b3 :: l)) w) (hpm:p≠m) (hpb:p≠b) (hpg:p≠g) :
    Calls Tryz.prog 73 #[binV p,stepV 16] w fun e w'=>e=.returned (.tuple #[gotN (wrap32 (Lib.beNat [b0,b1,b2,b3])),.nilIface]) ∧
      ∃ sc1,Bin p (memV m) og cf sc1 w'∧Mem m b g (off+4) (Lib.byteCells l) w'∧Step [b,p] [b,p] w w':=by
  have hmeth:=bin_m_ReadI32
  have hnil:=bin_n_ReadI32
  have ha:∀ c d,Bin p (memV m) og cf sc ((w.alloc c).alloc d).drew:=fun c d=>Bin.drewN ((hp.alloc c).alloc d) 1
  have hb:∀ c d,Mem m b g off (Lib.byteCells (b0 :: b1 :: b2 :: b3 :: l)) ((w.alloc c).alloc d).drew:=fun c d=>Mem.drewN ((h.alloc c).alloc d) 1
  have hs:∀ c d,Step [b,p] [b,p] w ((w.alloc c).alloc d).drew:=fun c d=>(((Step.refl _ _).alloc c).alloc d).drew
  have hpl:=hp.lt
  have hbl:=h.2.2.2.lt.1
  have hwr:IntKind.i64.wrap (wrap32 (Lib.beNat [b0,b1,b2,b3]))=wrap32 (Lib.beNat [b0,b1,b2,b3]):=by
    rw [IntKind.wrap_i64];unfold wrap32;omega
  have HML:=Lib.hid h.lt
  have HGL:=Lib.hid h.2.2.2.lt.2
  have HA:=Lib.hid ha
  have HM:=Lib.hid hb
  have HS:=Lib.hid hs
  clear ha hb hs
  go_enter Tryz.func73,Tryz.ntmps73
  go_wp2_with (fail)
  go_region_held3 (fun _=>True) (trivial)
    (first
      | (go_at_call 53;refine (ctx_any _).mono ?_;rintro e w' ⟨rfl,rfl⟩)
      | (go_at_call 212;refine (bin_readI32 p m b g off og cf sc b0 b1 b2 b3 l _ ?_ ?_ hpm hpb hpg).mono ?_;exact HA.out _ _;exact HM.out _ _;rintro e W1 ⟨rfl,sc1,hP,hM,hs⟩;have hbx:=(hs.block (w.heap.size+1) (by simp) (by simp;omega)).trans (heap_alloc_at (by simp) _);obtain ⟨c0,c1,c2,c3,c4,c5,c6⟩:=cells7 hbx;have hfz:=frozen_heap hbx;have HP1:=Lib.hid hP;have HM1:=Lib.hid hM;have HS1:=Lib.hid ((HS.out _ _).trans hs);clear hP hM hs hbx))
  all_goals go_wp2_with (fail)
  all_goals (
    have hml:=HML.out
    have hgl:=HGL.out
    refine bodyPost_ret (v:=.tuple #[gotN (wrap32 (Lib.beNat [b0,b1,b2,b3])),.nilIface]) (by simp [results,Tryz.results73,go_sem, *]) rfl ?_
    refine ⟨rfl,sc1,HP1.out.step (S:=[w.heap.size+1]) (T:=[w.heap.size+1]) ?_ (by simp;omega),HM1.out.step (S:=[w.heap.size+1]) (T:=[w.heap.size+1]) ?_ (by simp;omega) (by simp;omega) (by simp;omega),?_⟩
    · iterate 7 refine Step.setCell ?_ (.inl (by simp)) _
      exact Step.refl _ _
    · iterate 7 refine Step.setCell ?_ (.inl (by simp)) _
      exact Step.refl _ _
    · iterate 7 refine Step.setCell ?_ (.inr (by simp)) _
      exact HS1.out)

end Go.Proofs.YtmjcnomgpikncaaGreatDoor

namespace Go.Proofs.YtmjcnomgpikncaaGreatDoor

open Go.RowKit Go.Deep



theorem set7 {W:World} {B:Nat} {a0 a1 a2 a3 a4 a5 a6:Value} {ty:TypeId} (h:W.heap[B]?=some (.cells #[a0,a1,a2,a3,a4,a5,a6] ty (0,0))) (v0 v1 v2 v3 v4 v5 v6:Value) :
    ∃ W2,((((((W.setCell ⟨B,0,none⟩ v0).setCell ⟨B,1,none⟩ v1).setCell ⟨B,2,none⟩ v2).setCell ⟨B,3,none⟩ v3).setCell ⟨B,4,none⟩ v4).setCell ⟨B,5,none⟩ v5).setCell ⟨B,6,none⟩ v6=W2 ∧
      W2.heap[B]?=some (.cells #[v0,v1,v2,v3,v4,v5,v6] ty (0,0))∧Step [B] [B] W W2:=by
  have e0:(W.setCell ⟨B,0,none⟩ v0).heap[B]?=some (.cells #[v0,a1,a2,a3,a4,a5,a6] ty (0,0)):=by rw [heap_set_same h];rfl
  have s0:Step [B] [B] W (W.setCell ⟨B,0,none⟩ v0):=(Step.refl _ W).setCell (.inl (by simp)) _
  have e1:((W.setCell ⟨B,0,none⟩ v0).setCell ⟨B,1,none⟩ v1).heap[B]?=some (.cells #[v0,v1,a2,a3,a4,a5,a6] ty (0,0)):=by rw [heap_set_same e0];rfl
  have s1:Step [B] [B] W ((W.setCell ⟨B,0,none⟩ v0).setCell ⟨B,1,none⟩ v1):=s0.setCell (.inl (by simp)) _
  have e2:(((W.setCell ⟨B,0,none⟩ v0).setCell ⟨B,1,none⟩ v1).setCell ⟨B,2,none⟩ v2).heap[B]?=some (.cells #[v0,v1,v2,a3,a4,a5,a6] ty (0,0)):=by rw [heap_set_same e1];rfl
  have s2:Step [B] [B] W (((W.setCell ⟨B,0,none⟩ v0).setCell ⟨B,1,none⟩ v1).setCell ⟨B,2,none⟩ v2):=s1.setCell (.inl (by simp)) _
  have e3:((((W.setCell ⟨B,0,none⟩ v0).setCell ⟨B,1,none⟩ v1).setCell ⟨B,2,none⟩ v2).setCell ⟨B,3,none⟩ v3).heap[B]?=some (.cells #[v0,v1,v2,v3,a4,a5,a6] ty (0,0)):=by rw [heap_set_same e2];rfl
  have s3:Step [B] [B] W ((((W.setCell ⟨B,0,none⟩ v0).setCell ⟨B,1,none⟩ v1).setCell ⟨B,2,none⟩ v2).setCell ⟨B,3,none⟩ v3):=s2.setCell (.inl (by simp)) _
  have e4:(((((W.setCell ⟨B,0,none⟩ v0).setCell ⟨B,1,none⟩ v1).setCell ⟨B,2,none⟩ v2).setCell ⟨B,3,none⟩ v3).setCell ⟨B,4,none⟩ v4).heap[B]?=some (.cells #[v0,v1,v2,v3,v4,a5,a6] ty (0,0)):=by rw [heap_set_same e3];rfl
  have s4:Step [B] [B] W (((((W.setCell ⟨B,0,none⟩ v0).setCell ⟨B,1,none⟩ v1).setCell ⟨B,2,none⟩ v2).setCell ⟨B,3,none⟩ v3).setCell ⟨B,4,none⟩ v4):=s3.setCell (.inl (by simp)) _
  have e5:((((((W.setCell ⟨B,0,none⟩ v0).setCell ⟨B,1,none⟩ v1).setCell ⟨B,2,none⟩ v2).setCell ⟨B,3,none⟩ v3).setCell ⟨B,4,none⟩ v4).setCell ⟨B,5,none⟩ v5).heap[B]?=some (.cells #[v0,v1,v2,v3,v4,v5,a6] ty (0,0)):=by rw [heap_set_same e4];rfl
  have s5:Step [B] [B] W ((((((W.setCell ⟨B,0,none⟩ v0).setCell ⟨B,1,none⟩ v1).setCell ⟨B,2,none⟩ v2).setCell ⟨B,3,none⟩ v3).setCell ⟨B,4,none⟩ v4).setCell ⟨B,5,none⟩ v5):=s4.setCell (.inl (by simp)) _
  have e6:(((((((W.setCell ⟨B,0,none⟩ v0).setCell ⟨B,1,none⟩ v1).setCell ⟨B,2,none⟩ v2).setCell ⟨B,3,none⟩ v3).setCell ⟨B,4,none⟩ v4).setCell ⟨B,5,none⟩ v5).setCell ⟨B,6,none⟩ v6).heap[B]?=some (.cells #[v0,v1,v2,v3,v4,v5,v6] ty (0,0)):=by rw [heap_set_same e5];rfl
  have s6:Step [B] [B] W (((((((W.setCell ⟨B,0,none⟩ v0).setCell ⟨B,1,none⟩ v1).setCell ⟨B,2,none⟩ v2).setCell ⟨B,3,none⟩ v3).setCell ⟨B,4,none⟩ v4).setCell ⟨B,5,none⟩ v5).setCell ⟨B,6,none⟩ v6):=s5.setCell (.inl (by simp)) _
  exact ⟨_,rfl,e6,s6⟩

set_option maxRecDepth 100000 in
set_option maxHeartbeats 4000000 in
theorem get_bin_i32 (p m b g off:Nat) (og cf:Value) (sc:List Value) (b0 b1 b2 b3:UInt8) (l:List UInt8) (w:World) (hp:Bin p (memV m) og cf sc w) (h:Mem m b g off (Lib.byteCells (b0 :: b1 :: b2 :: b3 :: l)) w) (hpm:p≠m) (hpb:p≠b) (hpg:p≠g) :
    Calls Tryz.prog 49 #[binV p,.int .u8 8,.int .i64 1] w fun e w'=>e=.returned (.tuple #[i32V (wrap32 (Lib.beNat [b0,b1,b2,b3])),.nilIface]) ∧
      ∃ sc1,Bin p (memV m) og cf sc1 w'∧Mem m b g (off+4) (Lib.byteCells l) w'∧Step [b,p] [b,p] w w':=by
  have hpl:=hp.lt
  have hbl:=h.2.2.2.lt.1
  have HML:=Lib.hid h.lt
  have HGL:=Lib.hid h.2.2.2.lt.2
  have ha:∀ c d f,Bin p (memV m) og cf sc (((w.alloc c).alloc d).alloc f):=fun c d f=>((hp.alloc c).alloc d).alloc f
  have hb:∀ c d f,Mem m b g off (Lib.byteCells (b0 :: b1 :: b2 :: b3 :: l)) (((w.alloc c).alloc d).alloc f):=fun c d f=>((h.alloc c).alloc d).alloc f
  have hs:∀ c d f,Step [b,p] [b,p] w (((w.alloc c).alloc d).alloc f):=fun c d f=>(((Step.refl _ _).alloc c).alloc d).alloc f
  have HA:=Lib.hid ha
  have HM:=Lib.hid hb
  have HS:=Lib.hid hs
  clear ha hb hs
  go_enter Tryz.func49,Tryz.ntmps49
  go_wp2_with (go_at_call 73;refine (read_bin_i32 p m b g off og cf sc b0 b1 b2 b3 l _ ?_ ?_ hpm hpb hpg).mono ?_;exact HA.out _ _ _;exact HM.out _ _ _)
  rintro e W1 ⟨rfl,sc1,hP,hM,hs⟩
  have h0:=(hs.block w.heap.size (by simp <;> omega) (by simp;omega)).trans (heap_alloc_old (heap_alloc_old (heap_alloc_new _ _) _) _)
  have h1:=(hs.block (w.heap.size+1) (by simp <;> omega) (by simp;omega)).trans (heap_alloc_old (heap_alloc_at (by simp) _) _)
  have h2:=(hs.block (w.heap.size+1+1) (by simp <;> omega) (by simp;omega)).trans (heap_alloc_at (by simp) _)
  obtain ⟨k20,k21,k22,k23,k24,k25,k26⟩:=cells7 h2
  have f2:=frozen_heap h2
  have HP1:=Lib.hid hP
  have HM1:=Lib.hid hM
  have HS1:=Lib.hid ((HS.out _ _ _).trans hs)
  have H0:=Lib.hid h0
  have H1:=Lib.hid h1
  have H2:=Lib.hid h2
  have hsz1:w.heap.size+1+1 < W1.heap.size:=lt_heap h2
  clear hP hM hs h0 h1 h2
  go_wp2
  obtain ⟨W2,e2,h2,hs2⟩:=set7 H2.out (.int .i64 0) (.int .i64 0) (.int .i64 0) (.int .i64 0) (.int .i64 0) (.int .i64 (wrap32 (Lib.beNat [b0,b1,b2,b3]))) (.slice none 0 0)
  rw [e2]
  clear k20 k21 k22 k23 k24 k25 k26 f2 e2
  have h1:=(hs2.block (w.heap.size+1) (by omega) (by simp)).trans H1.out
  have h0:=(hs2.block w.heap.size (by omega) (by simp;omega)).trans H0.out
  obtain ⟨k00,k01,k02,k03,k04,k05,k06⟩:=cells7 h0
  have f0:=frozen_heap h0
  obtain ⟨k10,k11,k12,k13,k14,k15,k16⟩:=cells7 h1
  have f1:=frozen_heap h1
  have k25:W2.cell? ⟨w.heap.size+1+1,5,none⟩=some (.int .i64 (wrap32 (Lib.beNat [b0,b1,b2,b3]))):=(cell_heap h2 _).trans rfl
  have k26:W2.cell? ⟨w.heap.size+1+1,6,none⟩=some (.slice none 0 0):=(cell_heap h2 _).trans rfl
  have HS2:=Lib.hid hs2
  clear hs2 h0 h1 h2
  go_region_held3 (fun W'=>W'.cell? ⟨w.heap.size+1+1,5,none⟩=some (.int .i64 (wrap32 (Lib.beNat [b0,b1,b2,b3])))∧W'.cell? ⟨w.heap.size+1+1,6,none⟩=some (.slice none 0 0)) (simp [go_sem, *]) (first | fail)
  all_goals go_wp2
  all_goals (
    have hml:=HML.out
    have hgl:=HGL.out
    refine bodyPost_ret (v:=.tuple #[i32V (wrap32 (Lib.beNat [b0,b1,b2,b3])),.nilIface]) (by simp [results,Tryz.results49,go_sem, *]) rfl ?_
    have hs3:=HS2.out.more (S1:=[w.heap.size,w.heap.size+1,w.heap.size+1+1]) (T1:=[w.heap.size,w.heap.size+1,w.heap.size+1+1]) (by simp) (by simp)
    refine ⟨rfl,sc1,HP1.out.step (S:=[w.heap.size,w.heap.size+1,w.heap.size+1+1]) (T:=[w.heap.size,w.heap.size+1,w.heap.size+1+1]) ?_ (by simp;omega),HM1.out.step (S:=[w.heap.size,w.heap.size+1,w.heap.size+1+1]) (T:=[w.heap.size,w.heap.size+1,w.heap.size+1+1]) ?_ (by simp;omega) (by simp;omega) (by simp;omega),?_⟩
    · repeat (first | (with_reducible exact hs3) | (with_reducible refine Step.drew ?_) | (with_reducible refine Step.setCell ?_ (.inl (by simp)) _))
    · repeat (first | (with_reducible exact hs3) | (with_reducible refine Step.drew ?_) | (with_reducible refine Step.setCell ?_ (.inl (by simp)) _))
    · refine (Step.trans (HS1.out.more (S1:=[b,p]) (T1:=[b,p,w.heap.size,w.heap.size+1,w.heap.size+1+1]) (by simp) ?_) (Step.more (S:=[w.heap.size,w.heap.size+1,w.heap.size+1+1]) (T:=[w.heap.size,w.heap.size+1,w.heap.size+1+1]) (T1:=[b,p]) ?_ (by simp) (by simp)))
      · intro k hk
        simp only [List.mem_cons,List.not_mem_nil,or_false] at hk ⊢
        omega
      · repeat (first | (with_reducible exact hs3) | (with_reducible refine Step.drew ?_) | (with_reducible refine Step.setCell ?_ (.inl (by simp)) _)))

end Go.Proofs.YtmjcnomgpikncaaGreatDoor

namespace Go.Proofs.YtmjcnomgpikncaaGreatDoor

open Go.RowKit Go.Deep



theorem typ_any (x:Int) (w:World) (h0:0≤x) (h1:x < 256):Calls Tryz.prog 50 #[.int .i64 x] w fun e w'=>e=.returned (.int .u8 x)∧w=w':=by
  have hw:IntKind.u8.wrap x=x:=by rw [IntKind.wrap_u8];omega
  go_enter Tryz.func50,Tryz.ntmps50
  go_wp2
  go_ret
  exact ⟨rfl,rfl⟩

theorem gboxes (w W':World) (h:Below ((w.alloc (.cells #[.int .i64 0,.bool true,.bool false,.bool false,.int .i32 0,.int .i32 0,.int .i32 0] 23)).alloc (.cells #[.int .i64 0,.int .i64 0,.slice none 0 0,.int .i64 0,.int .i64 0,.slice none 0 0,.slice none 0 0] 28)).heap.size ((w.alloc (.cells #[.int .i64 0,.bool true,.bool false,.bool false,.int .i32 0,.int .i32 0,.int .i32 0] 23)).alloc (.cells #[.int .i64 0,.int .i64 0,.slice none 0 0,.int .i64 0,.int .i64 0,.slice none 0 0,.slice none 0 0] 28)) W') :
    (W'.cell? ⟨w.heap.size,0,none⟩=some (.int .i64 0)∧W'.cell? ⟨w.heap.size,1,none⟩=some (.bool true)∧W'.cell? ⟨w.heap.size,2,none⟩=some (.bool false)∧W'.cell? ⟨w.heap.size,3,none⟩=some (.bool false)∧W'.cell? ⟨w.heap.size,4,none⟩=some (.int .i32 0)∧W'.cell? ⟨w.heap.size,5,none⟩=some (.int .i32 0)∧W'.cell? ⟨w.heap.size,6,none⟩=some (.int .i32 0))∧W'.heap[w.heap.size+1]?=some (.cells #[.int .i64 0,.int .i64 0,.slice none 0 0,.int .i64 0,.int .i64 0,.slice none 0 0,.slice none 0 0] 28):=by
  refine ⟨?_,(h.block _ (by simp)).trans (heap_alloc_at (by simp) _)⟩
  refine ⟨?_,?_,?_,?_,?_,?_,?_⟩ <;> (refine (World.cell?_of_block (h.block _ (by simp <;> omega))).trans ?_;simp)

set_option maxRecDepth 100000 in
set_option maxHeartbeats 4000000 in
theorem Get_bin (n c:Nat) (b0 b1 b2 b3:UInt8) (l:List UInt8) (a:Addr) (w:World) (hn:l.length+4=n) (hal:a.block < w.heap.size) (hsrc:∀ j v,(Lib.byteCells (b0 :: b1 :: b2 :: b3 :: l))[j]?=some v→w.cell? (a.add j)=some v) (hlim:n≤140737488355328) :
    Calls Tryz.prog 18 #[confPlain 0,.int .i64 8,.slice (some a) n c,.int .i64 1] w fun e w'=>e=.returned (.tuple #[i32V (wrap32 (Lib.beNat [b0,b1,b2,b3])),.int .i64 0,.int .i64 l.length])∧Below w.heap.size w w':=by
  have hsrc1:∀ cc cd,∀ j v,(Lib.byteCells (b0 :: b1 :: b2 :: b3 :: l))[j]?=some v→((w.alloc cc).alloc cd).cell? (a.add j)=some v:=fun cc cd j v hj=>by
    have hal1:(a.add j).block < w.heap.size:=by rw [Lib.block_add];exact hal
    rw [World.cell?_of_block (w:=w) ((Below.heap_alloc _ _ _ (by simp;omega)).trans (Below.heap_alloc _ _ _ hal1))];exact hsrc j v hj
  have HSR:=Lib.hid hsrc1
  have HT:=Lib.hid typ_any
  clear hsrc hsrc1
  go_enter Tryz.func18,Tryz.ntmps18
  go_wp2_with (fail)
  refine (holding_any n c (Lib.byteCells (b0 :: b1 :: b2 :: b3 :: l)) a _ (by simp [Lib.byteCells_length];omega) (by simp;omega) (HSR.out _ _) (Lib.byteCells_one _) (by omega) hlim).mono ?_
  rintro e W1 ⟨m,b,g,rfl,hm,hb,hg,hM,hB⟩
  have HA:=Lib.hid (gboxes w)
  have HM:=Lib.hid hM
  have HB:=Lib.hid hB
  have hml:=hM.lt
  have hbl:=hM.2.2.2.lt
  have hbs:=hB.size
  clear hM hB
  obtain ⟨⟨q0,q1,q2,q3,q4,q5,q6⟩,_⟩:=HA.out _ HB.out
  go_wp2_with (fail)
  refine (protocol_bin m b g 0 _ _ HM.out).mono ?_
  rintro e W2 ⟨p,sc,rfl,hp,hP,hB2⟩
  have HB2:=Lib.hid (HB.out.trans (hB2.mono hbs))
  have HM2:=Lib.hid (Mem.step HM.out (Step.ofBelow (S:=[]) hB2) (by simp) (by simp) (by simp))
  have HP2:=Lib.hid hP
  have hpl:W1.heap.size≤p:=hp
  clear hB2 hP hp q0 q1 q2 q3 q4 q5 q6
  go_wp2_with (go_at_call 50;refine (HT.out 8 _ (by omega) (by omega)).mono ?_;rintro e w' ⟨rfl,rfl⟩)
  go_outline
  refine (get_bin_i32 p m b g 0 (memV m) (.pointer none) sc b0 b1 b2 b3 l _ HP2.out HM2.out (by omega) (by omega) (by omega)).mono ?_
  rintro e W3 ⟨rfl,sc1,hP,hM,hs⟩
  have HB3:=Lib.hid (HB2.out.trans (hs.below _ HB2.out.size (by intro k hk;simp only [List.mem_cons,List.not_mem_nil,or_false] at hk;omega)))
  have HM3:=Lib.hid hM
  have cm:=hM.cell
  clear hs hM hP
  have hr:=(HA.out _ HB3.out).2
  obtain ⟨r0,r1,r2,r3,r4,r5,r6⟩:=cells7 hr
  have fr:=frozen_heap hr
  have hrl:w.heap.size+1 < W3.heap.size:=lt_heap hr
  have hmne:¬ m=w.heap.size+1:=by have hm':=hm;simp at hm';omega
  have hml3:m < W3.heap.size:=HM3.out.lt
  have HU:=Lib.hid (show ∀ cc,Buf b g (0+4) (Lib.byteCells l) (W3.alloc cc).drew from fun cc=>((HM3.out.alloc cc).2.2.2).drew)
  clear hr
  go_wp2_with (fail)
  go_region_held3 (fun W'=>W'.cell? ⟨m,0,none⟩=some (.pointer (some ⟨b,0,none⟩))∧W'.cell? ⟨W3.heap.size,0,none⟩=some (.int .i64 8)∧W'.cell? ⟨W3.heap.size,1,none⟩=some (.int .i64 (wrap32 (Lib.beNat [b0,b1,b2,b3])))∧W'.cell? ⟨W3.heap.size,2,none⟩=some (.slice none 0 0)∧W'.cell? ⟨W3.heap.size,3,none⟩=some (.int .i64 0)∧W'.cell? ⟨W3.heap.size,4,none⟩=some (.int .i64 0)∧W'.cell? ⟨W3.heap.size,5,none⟩=some (.slice none 0 0)∧W'.cell? ⟨W3.heap.size,6,none⟩=some (.slice none 0 0)) (simp [go_sem, *]) 
    (first
      | (go_at_call 47;refine (kind_nil _).mono ?_;rintro e w' ⟨rfl,rfl⟩)
      | (go_at_call 51;refine (buf_left b g (0+4) (Lib.byteCells l) _ ?_).mono ?_;exact HU.out _;rintro e w' ⟨rfl,nn,rfl⟩))
  go_wp2_with (fail)
  refine bodyPost_ret (v:=.tuple #[i32V (wrap32 (Lib.beNat [b0,b1,b2,b3])),.int .i64 0,.int .i64 l.length]) (by simp [results,Tryz.results18,go_sem,Lib.byteCells_length, *]) rfl ?_
  have hB0:=((Below.refl _ w).alloc (Nat.le_refl _) (.cells #[.int .i64 0,.bool true,.bool false,.bool false,.int .i32 0,.int .i32 0,.int .i32 0] 23)).alloc (by simp) (.cells #[.int .i64 0,.int .i64 0,.slice none 0 0,.int .i64 0,.int .i64 0,.slice none 0 0,.slice none 0 0] 28)
  refine ⟨rfl,?_⟩
  refine hB0.trans (Below.trans (HB3.out.mono (by simp <;> omega)) ?_)
  have hb3:Below w.heap.size W3 W3:=Below.refl _ _
  repeat (first | (with_reducible exact hb3) | (with_reducible refine Below.drew ?_) | (with_reducible refine below_drewN ?_ _) | (with_reducible refine Below.setCell ?_ (by simp <;> omega) _) | (with_reducible refine Below.alloc ?_ (by omega) _))

end Go.Proofs.YtmjcnomgpikncaaGreatDoor

namespace Go.Proofs.YtmjcnomgpikncaaGreatDoor

open Go.RowKit Go.Deep



theorem IsB.form {cs:List Value} {v:Value} {k:Nat} {w:World} (h:IsB cs v k w):∃ ao c,v=.slice ao cs.length c∧(cs≠[]→∃ o,ao=some ⟨k,o,none⟩∧∀ j x,cs[j]?=some x→w.cell? ⟨k,o+j,none⟩=some x):=by
  obtain ⟨c,⟨rfl,rfl⟩ | ⟨o,rfl,_,_,_,h5⟩⟩:=h
  · exact ⟨none,0,rfl,fun hh=>absurd rfl hh⟩
  · exact ⟨_,_,rfl,fun _=>⟨o,rfl,h5⟩⟩

set_option maxHeartbeats 2000000 in
theorem equal_same (ka kb:Nat) (va vb:Value) (l:List UInt8) (w:World) (ha:IsB (Lib.byteCells l) va ka w) (hb:IsB (Lib.byteCells l) vb kb w) (hl:l.length < 2147483648) :
    Calls Tryz.prog 27 #[va,vb] w fun e w'=>e=.returned (.bool true)∧∃ n,w'=w.drewN n:=by
  obtain ⟨ao,ca,rfl,h1⟩:=ha.form
  obtain ⟨bo,cb,rfl,h2⟩:=hb.form
  rw [Lib.byteCells_length]
  rcases Classical.em (l=[]) with rfl | hne
  · go_enter Tryz.func27,Tryz.ntmps27
    go_wp2
    refine wp_loop_rounds 1 ?_
    rw [rounds_succ]
    go_wp2
    go_ret
    exact ⟨rfl,0,rfl⟩
  · have hcn:Lib.byteCells l≠[]:=by cases l with | nil=>exact absurd rfl hne | cons x l=>simp [Lib.byteCells]
    obtain ⟨oa,rfl,k1⟩:=h1 hcn
    obtain ⟨ob,rfl,k2⟩:=h2 hcn
    go_enter Tryz.func27,Tryz.ntmps27
    go_wp2
    go_loopw [5] (fun i wr=>∃ k:Nat,i=.int .i64 k∧k≤l.length∧∃ n,wr=w.drewN n) (fun i _=>l.length - (intOf i).toNat)
    case atStart=>exact ⟨0,rfl,Nat.zero_le _,0,rfl⟩
    case round =>
      obtain ⟨k,rfl,hk,n,rfl⟩:=hrel
      by_cases hkl:k < l.length
      · have x1:w.cell? ⟨ka,oa+k,none⟩=some (.int .u8 (l[k].toNat:Nat)):=k1 k _ (by simp [Lib.byteCells,hkl])
        have x2:w.cell? ⟨kb,ob+k,none⟩=some (.int .u8 (l[k].toNat:Nat)):=k2 k _ (by simp [Lib.byteCells,hkl])
        go_wp2
        go_quiet (fail)
        go_wp2
        exact ⟨⟨k+1,by simp,hkl,_,rfl⟩,by simp [intOf];omega⟩
      · go_wp2
        go_ret
        exact ⟨rfl,n,rfl⟩

end Go.Proofs.YtmjcnomgpikncaaGreatDoor

namespace Go.Proofs.YtmjcnomgpikncaaGreatDoor

open Go.RowKit Go.Deep



theorem alloc_src (w:World) (l:List UInt8) (ty:TypeId):∀ j v,(Lib.byteCells l)[j]?=some v→(w.alloc (.cells (Lib.byteCells l).toArray ty)).cell? ((⟨w.heap.size,0,none⟩:Addr).add j)=some v:=fun j v hj=>by
  rw [Lib.addr_add,cell_heap (heap_alloc_new _ _)]
  simpa using hj

theorem alloc_IsB {w0 w:World} (l:List UInt8) (ty:TypeId) {k:Nat} (hk:k=w.heap.size) (hl:l.length≤maxLen) (hw:w0=w.alloc (.cells (Lib.byteCells l).toArray ty)):IsB (Lib.byteCells l) (.slice (some ⟨k,0,none⟩) l.length l.length) k w0:=by
  subst hk hw
  refine ⟨l.length,.inr ⟨0,by rw [Lib.byteCells_length],by rw [Lib.byteCells_length];exact Nat.le_refl _,hl,by simp,fun j x hj=>?_⟩⟩
  have:=alloc_src w l ty j x hj
  rwa [Lib.addr_add] at this

set_option maxRecDepth 100000 in
set_option maxHeartbeats 4000000 in
theorem known_any (w:World):Calls Tryz.prog 16 #[] w fun e w'=>e=.returned (.bool true)∧Below w.heap.size w w':=by
  have h1:=Lib.hid (Put_bin 258)
  have h2:=Lib.hid (Put_cmp (-3))
  have h3:=Lib.hid (Get_bin 5 5 0 0 1 2 [9])
  go_enter Tryz.func16,Tryz.ntmps16
  go_wp2_with (fail)
  refine (h1.out _ (by omega) (by omega)).mono ?_
  rintro e W1 ⟨v1,k1,rfl,hk1,hv1,hB1⟩
  go_wp2_with (fail)
  refine (h2.out _ (by omega) (by omega)).mono ?_
  rintro e W2 ⟨v2,k2,rfl,hk2,hv2,hB2⟩
  go_wp2_with (fail)
  refine (h3.out _ _ (by simp) (by simp) (alloc_src W2 [0,0,1,2,9] 5) (by omega)).mono ?_
  rintro e W3 ⟨rfl,hB3⟩
  have hx:wrap32 (Lib.beNat [0,0,1,2])=258:=by kernel_rfl
  rw [hx]
  go_wp2_with (fail)
  have i1:=((hv1.step (Step.ofBelow (S:=[]) hB2) (by simp)).step (((Step.refl [] _).alloc _).trans (Step.ofBelow hB3)) (by simp))
  have i2:=hv2.step (((Step.refl [] _).alloc _).trans (Step.ofBelow (S:=[]) hB3)) (by simp)
  have HB:=Lib.hid ((hB1.trans (hB2.mono hB1.size)).trans (((Below.refl w.heap.size W2).alloc (Nat.le_trans hB1.size hB2.size) _).trans (hB3.mono (by have:=hB1.size;have:=hB2.size;simp;omega))))
  refine (equal_same k1 (W3.heap.size+1) v1 _ [0,0,1,2] _ (i1.step (((Step.refl [] _).alloc _).alloc _) (by simp)) (alloc_IsB [0,0,1,2] 5 (by simp) (by simp [maxLen]) rfl) (by simp)).mono ?_
  rintro e W4 ⟨rfl,n4,rfl⟩
  go_wp2_with (fail)
  have hz:Lib.uvarint (Lib.zigzag (-3))=[5]:=by kernel_rfl
  rw [hz] at i2
  refine (equal_same k2 (W3.heap.size+1+1) v2 _ [5] _ (i2.step ((((Step.refl [] _).alloc _).alloc _).drewN n4 |>.alloc _) (by simp)) (alloc_IsB [5] 5 (by simp) (by simp [maxLen]) rfl) (by simp)).mono ?_
  rintro e W5 ⟨rfl,n5,rfl⟩
  have hsz:w.heap.size≤W3.heap.size:=HB.out.size
  have HF:=Lib.hid (below_drewN (((below_drewN ((HB.out.alloc hsz (.cells #[.int .i64 8,.int .i64 258,.slice none 0 0,.int .i64 0,.int .i64 0,.slice none 0 0,.slice none 0 0] 28)).alloc (by simp;omega) (.cells (Lib.byteCells [0,0,1,2]).toArray 5)) n4).alloc (by simp;omega) (.cells (Lib.byteCells [5]).toArray 5))) n5)
  go_wp2
  go_ret
  exact ⟨rfl,HF.out⟩

end Go.Proofs.YtmjcnomgpikncaaGreatDoor
